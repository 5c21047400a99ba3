/-
  Slices in memory, and the small functions of this seat: Abs, X, W, weight, Beyond, Words, Bytes, RowBytes, zzBytes.
-/
import Derived.Test.Qxb6600645aRows
import Derived.WalkKit
import Derived.ProofKit
import Derived.Below
import Derived.BigQuiet
import Derived.Deep.QuietTactic
import Derived.Laws.CopyOwn
import Derived.WalkSmall
import Derived.WalkSpells
import Derived.WalkLawsBesides
namespace Go.Proofs.Qxb6600645a.base
open Go.ChangeShapes Go.WideShapes Go.ChangeAt Go.RowKit

theorem lt_of_cell {w : World} {a : Addr} {v : Value} (h : w.cell? a = some v) : a.block < w.heap.size := by
  unfold World.cell? at h
  split at h
  · rename_i hh; exact (Array.getElem?_eq_some_iff.1 hh).1
  · cases h
/-- a slice value that reads xs, elements of one cell -/
def Sl (w : World) (v : Value) (xs : List Value) : Prop :=
  ∃ a cap, v = .slice a xs.length cap ∧ (a = none → cap = 0) ∧ ∀ k, k < xs.length → ∃ b off, a = some ⟨b, off, none⟩ ∧ b < w.heap.size ∧ w.cell? ⟨b, off + k, none⟩ = xs[k]?
theorem Sl.below {B : Nat} {w w' : World} {v : Value} {xs : List Value} (h : Sl w v xs) (hb : Below B w w') (hB : w.heap.size ≤ B) : Sl w' v xs := by
  obtain ⟨a, cap, rfl, hn, h⟩ := h
  refine ⟨a, cap, rfl, hn, fun k hk => ?_⟩
  obtain ⟨b, off, rfl, hlt, hc⟩ := h k hk
  refine ⟨b, off, rfl, Nat.lt_of_lt_of_le hlt hb.size, ?_⟩
  rw [hb.cell (p := ⟨b, off + k, none⟩) (Nat.lt_of_lt_of_le hlt hB)]
  exact hc
theorem Sl.get {w : World} {a : Option Addr} {n cap : Nat} {xs : List Value} (h : Sl w (.slice a n cap) xs) (k : Nat) (hk : k < xs.length) : ∃ b off v, a = some ⟨b, off, none⟩ ∧ xs[k]? = some v ∧ w.cell? ⟨b, off + k, none⟩ = some v := by
  obtain ⟨a', cap', e, _, h⟩ := h
  cases e
  obtain ⟨b, off, rfl, _, hc⟩ := h k hk
  exact ⟨b, off, xs[k], rfl, List.getElem?_eq_getElem hk, by rw [hc]; exact List.getElem?_eq_getElem hk⟩
theorem Sl.shape {w : World} {v : Value} {xs : List Value} (h : Sl w v xs) : ∃ a cap, v = .slice a xs.length cap := by
  obtain ⟨a, cap, e, _⟩ := h
  exact ⟨a, cap, e⟩
/-- of numbers -/
def Nums (w : World) (v : Value) (k : IntKind) (zs : List Int) : Prop := Sl w v (zs.map (Value.int k))
def Bools (w : World) (v : Value) (bs : List Bool) : Prop := Sl w v (bs.map Value.bool)
theorem Nums.below {B : Nat} {w w' : World} {v : Value} {k : IntKind} {zs : List Int} (h : Nums w v k zs) (hb : Below B w w') (hB : w.heap.size ≤ B) : Nums w' v k zs := Sl.below h hb hB
theorem Bools.below {B : Nat} {w w' : World} {v : Value} {bs : List Bool} (h : Bools w v bs) (hb : Below B w w') (hB : w.heap.size ≤ B) : Bools w' v bs := Sl.below h hb hB
theorem Nums.shape {w : World} {v : Value} {k : IntKind} {zs : List Int} (h : Nums w v k zs) : ∃ a cap, v = .slice a zs.length cap := by
  obtain ⟨a, cap, e⟩ := Sl.shape h
  rw [List.length_map] at e
  exact ⟨a, cap, e⟩
theorem Bools.shape {w : World} {v : Value} {bs : List Bool} (h : Bools w v bs) : ∃ a cap, v = .slice a bs.length cap := by
  obtain ⟨a, cap, e⟩ := Sl.shape h
  rw [List.length_map] at e
  exact ⟨a, cap, e⟩
theorem Nums.get {w : World} {a : Option Addr} {n cap : Nat} {q : IntKind} {zs : List Int} (h : Nums w (.slice a n cap) q zs) (k : Nat) (hk : k < zs.length) : ∃ b off, a = some ⟨b, off, none⟩ ∧ w.cell? ⟨b, off + k, none⟩ = some (.int q (zs.getD k 0)) := by
  obtain ⟨b, off, v, e, e2, e3⟩ := Sl.get h k (by simpa using hk)
  refine ⟨b, off, e, ?_⟩
  rw [e3, ← e2]
  simp [hk]
theorem Bools.get {w : World} {a : Option Addr} {n cap : Nat} {bs : List Bool} (h : Bools w (.slice a n cap) bs) (k : Nat) (hk : k < bs.length) : ∃ b off, a = some ⟨b, off, none⟩ ∧ w.cell? ⟨b, off + k, none⟩ = some (.bool (bs.getD k false)) := by
  obtain ⟨b, off, v, e, e2, e3⟩ := Sl.get h k (by simpa using hk)
  refine ⟨b, off, e, ?_⟩
  rw [e3, ← e2]
  simp [hk]

theorem absC (n : Int) (w : World) (h0 : -4611686018427387904 ≤ n) (h1 : n ≤ 4611686018427387904) :
    Calls Try.prog 17 #[.int .i64 n] w fun e w' => e = .returned (.int .i64 (n.natAbs : Int)) ∧ w' = w := by
  by_cases h : n < 0
  · rw [show (n.natAbs : Int) = -n by omega]
    go_enter Try.func17, Try.ntmps17
    go_wp2
    go_ret
    exact ⟨rfl, rfl⟩
  · rw [show (n.natAbs : Int) = n by omega]
    go_enter Try.func17, Try.ntmps17
    go_wp2
    go_ret
    exact ⟨rfl, rfl⟩
/-- the value of a column: false past the end -/
def xv (ys : List Bool) (j : Int) : Bool := if 0 ≤ j ∧ j < ys.length then ys.getD j.toNat false else false
theorem xC (v : Value) (ys : List Bool) (j : Int) (w : World) (h : Bools w v ys) :
    Calls Try.prog 18 #[v, .int .i64 j] w fun e w' => e = .returned (.bool (xv ys j)) ∧ w' = w := by
  obtain ⟨a, cap, rfl⟩ := h.shape
  unfold xv
  by_cases h0 : 0 ≤ j
  · obtain ⟨k, rfl⟩ := Int.eq_ofNat_of_zero_le h0
    by_cases h1 : k < ys.length
    · rw [if_pos ⟨h0, by omega⟩]
      obtain ⟨b, off, rfl, hc⟩ := h.get k h1
      rw [Int.toNat_natCast]
      generalize ys.getD k false = r at hc ⊢
      go_enter Try.func18, Try.ntmps18
      go_wp2
      go_ret
      exact ⟨rfl, rfl⟩
    · rw [if_neg (by omega)]
      have hd : decide ((k : Int) < (ys.length : Int)) = false := by simp; omega
      go_enter Try.func18, Try.ntmps18
      go_wp2
      go_ret
      exact ⟨rfl, rfl⟩
  · rw [if_neg (by omega)]
    go_enter Try.func18, Try.ntmps18
    go_wp2
    go_ret
    exact ⟨rfl, rfl⟩
/-- the weights: nil for ones, or at least as many as the literals -/
def WOk (w : World) (v : Value) (o : Option (List Int)) : Prop := match o with
  | none => v = .slice none 0 0
  | some ws => Nums w v .i64 ws ∧ ∃ x n cap, v = .slice (some x) n cap
def wt (o : Option (List Int)) (k : Nat) : Int := match o with
  | none => 1
  | some ws => ws.getD k 0
theorem WOk.below {B : Nat} {w w' : World} {v : Value} {o : Option (List Int)} (h : WOk w v o) (hb : Below B w w') (hB : w.heap.size ≤ B) : WOk w' v o := by
  cases o with
  | none => exact h
  | some ws => exact ⟨h.1.below hb hB, h.2⟩
theorem wC (v : Value) (o : Option (List Int)) (k : Nat) (w : World) (h : WOk w v o) (hk : ∀ ws, o = some ws → k < ws.length) :
    Calls Try.prog 51 #[v, .int .i64 k] w fun e w' => e = .returned (.int .i64 (wt o k)) ∧ w' = w := by
  have q := fun (w : World) (a : Option Addr) (n c n' c' : Nat) => Lib.run_eql_slice_nil (P := Try.prog) w 23 3 a n c n' c' Try.underlying23
  cases o with
  | none =>
    obtain rfl : v = _ := h
    go_enter Try.func51, Try.ntmps51
    go_wp2
    go_ret
    exact ⟨rfl, rfl⟩
  | some ws =>
    obtain ⟨hn, _⟩ := h
    obtain ⟨a, cap, rfl⟩ := hn.shape
    have hkl := hk ws rfl
    obtain ⟨b, off, rfl, hc⟩ := hn.get k hkl
    rw [show wt (some ws) k = ws.getD k 0 from rfl]
    generalize ws.getD k 0 = x at hc ⊢
    clear hk
    go_enter Try.func51, Try.ntmps51
    go_wp2
    go_ret
    exact ⟨rfl, rfl⟩
/-- a Constraint lies in block b -/
def Cn (w : World) (b : Nat) (lv wv : Value) (at' : Int) : Prop := w.heap[b]? = some (.cells #[lv, wv, .int .i64 at'] 73 (0, 0))
theorem Cn.c0 {w : World} {b : Nat} {lv wv : Value} {a : Int} (h : Cn w b lv wv a) : w.cell? ⟨b, 0, none⟩ = some lv := by unfold Cn at h; simp [World.cell?, h]
theorem Cn.c1 {w : World} {b : Nat} {lv wv : Value} {a : Int} (h : Cn w b lv wv a) : w.cell? ⟨b, 1, none⟩ = some wv := by unfold Cn at h; simp [World.cell?, h]
theorem Cn.c2 {w : World} {b : Nat} {lv wv : Value} {a : Int} (h : Cn w b lv wv a) : w.cell? ⟨b, 2, none⟩ = some (.int .i64 a) := by unfold Cn at h; simp [World.cell?, h]
theorem Cn.same {w w' : World} {b : Nat} {lv wv : Value} {a : Int} (h : Cn w b lv wv a) (hs : w'.heap[b]? = w.heap[b]?) : Cn w' b lv wv a := by unfold Cn at *; rw [hs]; exact h
theorem weightC (b : Nat) (lv v : Value) (at' : Int) (o : Option (List Int)) (k : Nat) (w : World) (hcn : Cn w b lv v at') (h : WOk w v o) (hk : ∀ ws, o = some ws → k < ws.length) :
    Calls Try.prog 60 #[.pointer (some ⟨b, 0, none⟩), .int .i64 k] w fun e w' => e = .returned (.int .i64 (wt o k)) ∧ w' = w := by
  have q := fun (w : World) (a : Option Addr) (n c n' c' : Nat) => Lib.run_eql_slice_nil (P := Try.prog) w 23 3 a n c n' c' Try.underlying23
  have c1 := hcn.c1
  cases o with
  | none =>
    obtain rfl : v = _ := h
    go_enter Try.func60, Try.ntmps60
    go_wp2
    go_ret
    exact ⟨rfl, rfl⟩
  | some ws =>
    obtain ⟨hn, _⟩ := h
    obtain ⟨a, cap, rfl⟩ := hn.shape
    have hkl := hk ws rfl
    obtain ⟨b', off, rfl, hc⟩ := hn.get k hkl
    rw [show wt (some ws) k = ws.getD k 0 from rfl]
    generalize ws.getD k 0 = x at hc ⊢
    clear hk hcn
    go_enter Try.func60, Try.ntmps60
    go_wp2
    go_ret
    exact ⟨rfl, rfl⟩
theorem beyondC (n bd : Int) (w : World) (hb : 0 ≤ bd) (hb1 : bd ≤ 4611686018427387904) :
    Calls Try.prog 55 #[.int .i64 n, .int .i64 bd] w fun e w' => e = .returned (.bool (decide (bd < n) || decide (n < -bd))) ∧ w' = w := by
  by_cases h : bd < n
  · go_enter Try.func55, Try.ntmps55
    go_wp2
    go_ret
    exact ⟨by simp [h], rfl⟩
  · have hd : decide (bd < n) = false := by simp; omega
    go_enter Try.func55, Try.ntmps55
    go_wp2
    go_ret
    exact ⟨by simp, rfl⟩
end Go.Proofs.Qxb6600645a.base
