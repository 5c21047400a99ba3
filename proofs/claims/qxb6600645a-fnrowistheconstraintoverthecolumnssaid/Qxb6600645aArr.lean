/-
  What the law itself keeps: 'refused' so far, and the array of first places.
-/
import Derived.Test.Qxb6600645aRow49
import Derived.Test.Qxb6600645aFin
import Derived.Test.Qxb6600645aClones
import Derived.Test.Qxb6600645aGate
namespace Go.Proofs.Qxb6600645a.arr
open Go.ChangeShapes Go.WideShapes Go.ChangeAt Go.RowKit Go.Maps
open Go.Proofs.Qxb6600645a.base Go.Proofs.Qxb6600645a.own Go.Proofs.Qxb6600645a.top Go.Proofs.Qxb6600645a.flt Go.Proofs.Qxb6600645a.plain Go.Proofs.Qxb6600645a.mem Go.Proofs.Qxb6600645a.says Go.Proofs.Qxb6600645a.mem2 Go.Proofs.Qxb6600645a.comp Go.Proofs.Qxb6600645a.rowa Go.Proofs.Qxb6600645a.row49 Go.Proofs.Qxb6600645a.fin Go.Proofs.Qxb6600645a.gate
set_option linter.unusedVariables false

def anyB (p : Nat → Bool) : Nat → Bool
  | 0 => false
  | k + 1 => anyB p k || p k
theorem anyB_true {p : Nat → Bool} {n k : Nat} (hk : k < n) (h : p k = true) : anyB p n = true := by
  induction n with
  | zero => omega
  | succ n ih =>
    simp only [anyB]
    by_cases e : k = n
    · subst e; simp [h]
    · rw [ih (by omega)]; rfl
theorem anyB_false {p : Nat → Bool} {n : Nat} (h : ∀ k, k < n → p k = false) : anyB p n = false := by
  induction n with
  | zero => rfl
  | succ n ih =>
    simp only [anyB]
    rw [ih (fun k hk => h k (by omega)), h n (by omega)]; rfl
/-- an array of whole numbers in block g -/
def Arr (w : World) (g : Nat) (fl : List Int) : Prop := w.heap[g]? = some (.cells (fl.map (Value.int .i64)).toArray 3 (0, 0))
theorem Arr.cell {w : World} {g : Nat} {fl : List Int} (h : Arr w g fl) (j : Nat) (hj : j < fl.length) : w.cell? ⟨g, j, none⟩ = some (.int .i64 (fl.getD j 0)) := by
  unfold Arr at h
  simp [World.cell?, h, hj]
theorem Arr.fr {w : World} {g : Nat} {fl : List Int} (h : Arr w g fl) (j : Nat) : w.frozen? ⟨g, j, none⟩ = false := by
  unfold Arr at h
  simp [World.frozen?, h]
theorem Arr.set {w : World} {g : Nat} {fl : List Int} (h : Arr w g fl) (j : Nat) (x : Int) : Arr (w.setCell ⟨g, j, none⟩ (.int .i64 x)) g (fl.set j x) := by
  unfold Arr at *
  rw [heap_setCell_same w g j _ 3 (.int .i64 x) h]
  simp [List.map_set]
theorem arr_made {w w1 : World} {n : Nat} (hown : w1.ownsRow w.heap.size 3 1 (.slice (some ⟨w.heap.size, 0, none⟩) n n) n (madeCells (Value.int .i64 0).cells (n * 1)).toList) (hgrow : w.grownBy w1 none) :
    Arr w1 w.heap.size (List.replicate n 0) ∧ Below w.heap.size w w1 := by
  refine ⟨?_, (Below.refl _ _).grown hgrow (Nat.le_refl _) (fun k h => by cases h)⟩
  obtain ⟨_, h | ⟨g, cap, cur, hv, _, hh, _, _, hs, ht⟩⟩ := hown
  · simp at h
  · simp at hv
    obtain ⟨rfl, rfl⟩ := hv
    unfold Arr
    have e : (Value.int IntKind.i64 0).cells = #[.int .i64 0] := rfl
    rw [e, toList_madeCells_one, Nat.mul_one, List.take_of_length_le (by simp; omega)] at ht
    rw [hh, List.map_replicate, ← ht]
/-- the array holds, by column, one more than where it first stands -/
def IsFirst (L : Lits) (k : Nat) (fl : List Int) : Prop := ∀ j : Nat, j < fl.length → fl.getD j 0 = (first L k (j : Int) : Int)
theorem isFirst0 (L : Lits) (n : Nat) : IsFirst L 0 (List.replicate n 0) := by
  intro j hj
  have hj' : j < n := by simpa using hj
  simp [first, hj']
theorem IsFirst.same {L : Lits} {k : Nat} {fl : List Int} (h : IsFirst L k fl) (hs : ∀ j, first L (k + 1) j = first L k j) : IsFirst L (k + 1) fl := by
  intro j hj
  rw [hs]
  exact h j hj
theorem IsFirst.set {L : Lits} {k : Nat} {fl : List Int} (h : IsFirst L k fl) {c : Nat} (hf : L.fx k = false) (hc : L.c k = (c : Int)) (h0 : first L k (c : Int) = 0) (hlt : c < fl.length) : IsFirst L (k + 1) (fl.set c ((k : Int) + 1)) := by
  intro j hj
  rw [List.length_set] at hj
  by_cases e : j = c
  · subst e
    have e1 : first L (k + 1) (j : Int) = k + 1 := by simp [first, hf, hc, h0]
    rw [e1]
    simp [hlt]
  · have e1 : first L (k + 1) (j : Int) = first L k (j : Int) := by
      simp only [first]
      rw [if_neg]
      intro ⟨_, h2, _⟩
      rw [hc] at h2
      omega
    rw [e1, ← h j hj]
    simp [Ne.symm e, List.getD]
end Go.Proofs.Qxb6600645a.arr
