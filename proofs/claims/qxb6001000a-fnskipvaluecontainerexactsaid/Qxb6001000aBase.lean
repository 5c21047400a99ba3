/-
  Shared plain facts and the contracts that several statements of this seat use: bytes in memory, cloneBytes_b1, isJSONSpace_b1.
-/
import Derived.Test.Qxb6001000aRows
import Derived.WalkKit
import Derived.ProofKit
import Derived.Below
import Derived.BigQuiet
import Derived.Deep.QuietTactic
import Derived.Laws.CopyOwn
import Derived.WalkSmall
import Derived.WalkSpells
import Derived.WalkLawsBesides
namespace Go.Proofs.Qxb6001000a.base
open Go.ChangeShapes Go.WideShapes Go.ChangeAt Go.RowKit

/-- the numbers zs lie as bytes from place off of block g on -/
def Bytes (w : World) (g off : Nat) (zs : List Int) : Prop :=
  g < w.heap.size ∧ ∀ k, k < zs.length → w.cell? ⟨g, off + k, none⟩ = some (.int .u8 (zs.getD k 0))
theorem Bytes.cell {w : World} {g off : Nat} {zs : List Int} (h : Bytes w g off zs) (k : Nat) (hk : k < zs.length) : w.cell? ⟨g, off + k, none⟩ = some (.int .u8 (zs.getD k 0)) := h.2 k hk
theorem Bytes.cell0 {w : World} {g : Nat} {zs : List Int} (h : Bytes w g 0 zs) (k : Nat) (hk : k < zs.length) : w.cell? ⟨g, k, none⟩ = some (.int .u8 (zs.getD k 0)) := by
  have := h.2 k hk
  rwa [Nat.zero_add] at this
theorem Bytes.same {w w' : World} {g off : Nat} {zs : List Int} (h : Bytes w g off zs) (hb : w'.heap[g]? = w.heap[g]?) : Bytes w' g off zs := by
  refine ⟨?_, fun k hk => ?_⟩
  · have := h.1
    rw [Array.getElem?_eq_getElem this] at hb
    exact (Array.getElem?_eq_some_iff.1 hb).1
  · rw [World.cell?_of_block (w := w) (w' := w') (a := ⟨g, off + k, none⟩) hb]
    exact h.2 k hk
theorem Bytes.below {B : Nat} {w w' : World} {g off : Nat} {zs : List Int} (h : Bytes w g off zs) (hb : Below B w w') (hg : g < B) : Bytes w' g off zs := h.same (hb.block g hg)
theorem Bytes.grown {w w' : World} {row : Option Nat} {g off : Nat} {zs : List Int} (h : Bytes w g off zs) (hb : w.grownBy w' row) (hg : row ≠ some g) : Bytes w' g off zs :=
  h.same (hb.block g h.1 (Ne.symm hg))
theorem Bytes.drewN {w : World} {g off : Nat} {zs : List Int} (h : Bytes w g off zs) (n : Nat) : Bytes (w.drewN n) g off zs := h.same rfl

theorem info5 : (Try.prog.info? 5).map (fun i => (i.zero, i.size, i.bytes)) = some (some (.int .u8 0), 1, 1) := by kernel_rfl
theorem size5 : (Try.prog.info? 5).map (·.size) = some 1 := by kernel_rfl

/-- a slice of bytes that came in -/
def IsRow (w : World) (a : Option Addr) (len cap : Nat) (zs : List Int) : Prop :=
  (a = none ∧ len = 0 ∧ cap = 0 ∧ zs = []) ∨
  ∃ x, a = some x ∧ len ≤ cap ∧ cap ≤ maxLen ∧ zs.length = cap ∧ (∀ i, i < zs.length → w.cell? (x.add i) = some (.int .u8 (zs.getD i 0))) ∧ ∀ n ∈ zs, (Lit.int .u8 n).wf = true
theorem IsRow.below {w w' : World} {a : Option Addr} {len cap : Nat} {zs : List Int} (h : IsRow w a len cap zs) (hb : Below w.heap.size w w') : IsRow w' a len cap zs := by
  rcases h with h | ⟨x, rfl, h1, h2, h3, h4, h5⟩
  · exact .inl h
  · refine .inr ⟨x, rfl, h1, h2, h3, fun i hi => ?_, h5⟩
    have hc := h4 i hi
    have hlt : (x.add i).block < w.heap.size := by
      unfold World.cell? at hc
      split at hc
      · rename_i hh; exact (Array.getElem?_eq_some_iff.1 hh).1
      · cases hc
    rw [hb.cell hlt]; exact hc

theorem made {w w1 : World} {e : TypeId} {n : Nat} {L : List Value} (hown : w1.ownsRow w.heap.size e 1 (.slice (some ⟨w.heap.size, 0, none⟩) n n) n L) (hgrow : w.grownBy w1 none) :
    ∃ cur : List Value, w1.heap[w.heap.size]? = some (.cells cur.toArray e (0, 0)) ∧ cur.length = n ∧ Below w.heap.size w w1 := by
  obtain ⟨_, h | ⟨g, cap, cur, hv, _, hh, _, _, hs, _⟩⟩ := hown
  · simp at h
  · simp at hv
    obtain ⟨rfl, rfl⟩ := hv
    exact ⟨cur.toList, by simpa using hh, by simpa using hs, (Below.refl _ _).grown hgrow (Nat.le_refl _) (fun k h => by cases h)⟩
theorem lt_of_cell {w : World} {a : Addr} {v : Value} (h : w.cell? a = some v) : a.block < w.heap.size := by
  unfold World.cell? at h
  split at h
  · rename_i hh; exact (Array.getElem?_eq_some_iff.1 hh).1
  · cases h
theorem cells_take {w : World} {x : Addr} {len cap : Nat} {zs : List Int} (hle : len ≤ cap) (hl : zs.length = cap)
    (hcell : ∀ i, i < zs.length → w.cell? (x.add i) = some (.int .u8 (zs.getD i 0))) {w1 : World} (hb : Below w.heap.size w w1) (j : Nat) (v : Value)
    (h : ((zs.take len).map (Value.int .u8))[j]? = some v) : w1.cell? (x.add j) = some v := by
  have hj : j < len := by
    have := (List.getElem?_eq_some_iff.1 h).1
    simp at this; omega
  have hc := hcell j (by omega)
  rw [hb.cell (lt_of_cell hc), hc, ← h]
  simp [hj, show j < zs.length by omega]
theorem bytes_of {w : World} {g : Nat} {zs : List Int} (h : w.heap[g]? = some (.cells (zs.map (Value.int .u8)).toArray 5 (0, 0))) : Bytes w g 0 zs := by
  refine ⟨(Array.getElem?_eq_some_iff.1 h).1, fun k hk => ?_⟩
  simp [World.cell?, h, hk]
theorem copied {w w1 : World} {x : Addr} {len cap : Nat} {ys : List Int} {cur : List Value} (hyl : ys.length = len) (hcl : cur.length = len)
    (hc : ∀ j v, (ys.map (Value.int .u8))[j]? = some v → w1.cell? (x.add j) = some v) (hg : w1.heap[w.heap.size]? = some (.cells cur.toArray 5 (0, 0))) (hb : Below w.heap.size w w1) :
    ∃ w2, (Builtin.copy_ #[22, 22] 3 #[.slice (some ⟨w.heap.size, 0, none⟩) len len, .slice (some x) len cap]).run Try.prog w1 = .ok (.int .i64 (len : Int)) w2 ∧ Bytes w2 w.heap.size 0 ys ∧ Below w.heap.size w w2 := by
  have hrun := run_copy_row (P := Try.prog) w1 22 22 3 5 w.heap.size 0 len len x len cap cur.toArray 5 (ys.map (Value.int .u8)) Try.underlying22 size5 hg (by simp [hyl]) hc (by simp [hyl, hcl]) (ints_oneCell _ _)
  have e : (ys.map (Value.int .u8)).length = len := by simp [hyl]
  rw [e] at hrun
  refine ⟨_, hrun, bytes_of ?_, below_setRow hb (Nat.le_refl _) _⟩
  have := setRow_heap w1 w.heap.size _ (cur.take 0 ++ ys.map (Value.int .u8) ++ cur.drop (0 + len)).toArray 5 _ hg
  simpa [← hcl] using this

/-- a slice value that reads the bytes ys, from the head of a block of its own -/
def IsB (w : World) (v : Value) (ys : List Int) : Prop :=
  (v = .slice none 0 0 ∧ ys = []) ∨ ∃ g cap, v = .slice (some ⟨g, 0, none⟩) ys.length cap ∧ ys.length ≤ cap ∧ cap ≤ maxLen ∧ Bytes w g 0 ys
theorem IsB.below {B : Nat} {w w' : World} {v : Value} {ys : List Int} (h : IsB w v ys) (hb : Below B w w') (hB : w.heap.size ≤ B) : IsB w' v ys := by
  rcases h with h | ⟨g, cap, h1, h2, h3, h4⟩
  · exact .inl h
  · exact .inr ⟨g, cap, h1, h2, h3, h4.below hb (Nat.lt_of_lt_of_le h4.1 hB)⟩

theorem clone_nil (w : World) :
    Calls Try.prog 9 #[.slice none 0 0] w fun e w' => e = .returned (.slice none 0 0) ∧ w' = w := by
  have q := fun (w : World) (a : Option Addr) (n c n' c' : Nat) => Lib.run_eql_slice_nil (P := Try.prog) w 22 5 a n c n' c' Try.underlying22
  go_enter Try.func9, Try.ntmps9
  go_wp2
  go_ret
  exact ⟨rfl, rfl⟩
theorem clone_some (x : Addr) (len cap : Nat) (zs : List Int) (w : World) (hle : len ≤ cap) (hl : zs.length = cap)
    (hcell : ∀ i, i < zs.length → w.cell? (x.add i) = some (.int .u8 (zs.getD i 0))) (h20 : len ≤ 1048576) :
    Calls Try.prog 9 #[.slice (some x) len cap] w fun e w' => e = .returned (.slice (some ⟨w.heap.size, 0, none⟩) len len) ∧ Bytes w' w.heap.size 0 (zs.take len) ∧ Below w.heap.size w w' := by
  have q := fun (w : World) (a : Option Addr) (n c n' c' : Nat) => Lib.run_eql_slice_nil (P := Try.prog) w 22 5 a n c n' c' Try.underlying22
  obtain ⟨i0, hi, hz0, hz1, hz2⟩ := info_parts info5
  obtain ⟨ys, hys⟩ : ∃ ys, zs.take len = ys := ⟨_, rfl⟩
  have hyl : ys.length = len := by rw [← hys]; simp; omega
  have HC : Hid (∀ w1, Below w.heap.size w w1 → ∀ j v, (ys.map (Value.int .u8))[j]? = some v → w1.cell? (x.add j) = some v) := by
    intro w1 hb j v h
    rw [← hys] at h
    exact cells_take hle hl hcell hb j v h
  have HL : Hid (ys.length = len) := hyl
  rw [hys]
  clear hcell hl hys hyl hle
  go_enter Try.func9, Try.ntmps9
  go_wp2_with (at_make; refine wpList_make_full _ rfl _ _ 22 rfl w.heap.size 5 i0 (.int .u8 0) 1 Try.underlying22 hi hz0 hz1 .i64 .i64 _ _ len rfl rfl rfl rfl (by rw [hz2]; omega) (by unfold maxLen; omega) (Nat.le_refl _) ?_)
  intro w1 hown hgrow
  obtain ⟨cur, hg, hcl, hb1⟩ := made hown hgrow
  have HCL : Hid (cur.length = len) := hcl
  clear hcl hown hgrow
  obtain ⟨w2, hrun, hH, hb2⟩ := copied (cap := cap) HL.out HCL.out (HC.out _ hb1) hg hb1
  clear hg hb1
  go_wp2_with fail
  go_ret
  exact ⟨rfl, hH, hb2⟩
/-- cloneBytes_b1 at whatever slice of at most 2^20 bytes -/
theorem clone (a : Option Addr) (len cap : Nat) (zs : List Int) (w : World) (h : IsRow w a len cap zs) (h20 : len ≤ 1048576) :
    Calls Try.prog 9 #[.slice a len cap] w fun e w' => ∃ v, e = .returned v ∧ IsB w' v (zs.take len) ∧ Below w.heap.size w w' := by
  rcases h with ⟨rfl, rfl, rfl, rfl⟩ | ⟨x, rfl, h1, h2, h3, h4, h5⟩
  · refine (clone_nil w).mono ?_
    rintro e w' ⟨rfl, rfl⟩
    exact ⟨_, rfl, .inl ⟨rfl, rfl⟩, Below.refl _ _⟩
  · refine (clone_some x len cap zs w h1 h3 h4 h20).mono ?_
    rintro e w' ⟨rfl, hB, hb⟩
    have hlen : (zs.take len).length = len := by simp; omega
    exact ⟨_, rfl, .inr ⟨_, len, by rw [hlen], by omega, by omega, hB⟩, hb⟩

def isSp (c : Int) : Bool := c == 32 || c == 9 || c == 10 || c == 13
theorem isSpace (c : Int) (w : World) :
    Calls Try.prog 11 #[.int .u8 c] w fun e w' => e = .returned (.bool (isSp c)) ∧ w' = w := by
  unfold isSp
  cases h1 : c == 32
  · cases h2 : c == 9
    · cases h3 : c == 10
      · cases h4 : c == 13
        all_goals (go_enter Try.func11, Try.ntmps11; go_wp2; go_ret; exact ⟨rfl, rfl⟩)
      · go_enter Try.func11, Try.ntmps11; go_wp2; go_ret; exact ⟨rfl, rfl⟩
    · go_enter Try.func11, Try.ntmps11; go_wp2; go_ret; exact ⟨rfl, rfl⟩
  · go_enter Try.func11, Try.ntmps11; go_wp2; go_ret; exact ⟨rfl, rfl⟩
end Go.Proofs.Qxb6001000a.base
