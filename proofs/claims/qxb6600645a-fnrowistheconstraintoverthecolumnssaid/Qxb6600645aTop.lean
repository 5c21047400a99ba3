/-
  zzZ1b1TopColumn and ZZB1NewReduced, walked.
-/
import Derived.Test.Qxb6600645aBase
namespace Go.Proofs.Qxb6600645a.top
open Go.ChangeShapes Go.WideShapes Go.ChangeAt Go.RowKit
open Go.Proofs.Qxb6600645a.base

/-- t is at least nought and every column up to v -/
def IsTop (col : List Int) (v : Nat) (t : Int) : Prop := 0 ≤ t ∧ t ≤ 65536 ∧ ∀ j, j < v → col.getD j 0 ≤ t
set_option maxHeartbeats 1000000 in
theorem topC (v : Value) (col : List Int) (w : World) (h : Nums w v .i64 col) (h20 : col.length ≤ 1048576) (ht : ∀ j, j < col.length → col.getD j 0 ≤ 65536) :
    Calls Try.prog 50 #[v] w fun e w' => ∃ t, e = .returned (.int .i64 t) ∧ w' = w ∧ IsTop col col.length t := by
  obtain ⟨a, cap, rfl⟩ := h.shape
  have HH : Hid (Nums w (.slice a col.length cap) .i64 col) := h
  have HT : Hid (∀ j, j < col.length → col.getD j 0 ≤ 65536) := ht
  clear h ht
  go_enter Try.func50, Try.ntmps50
  go_wp2_with fail
  go_loop [3, 4] (fun t i => ∃ (v : Nat) (x : Int), v ≤ col.length ∧ i = .int .i64 v ∧ t = .int .i64 x ∧ IsTop col v x) (fun _ i => col.length - (intOf i).toNat)
  case atStart => exact ⟨0, 0, by omega, rfl, rfl, by omega, by omega, fun j hj => by omega⟩
  case round =>
    obtain ⟨v, x, hv, rfl, rfl, hI⟩ := hrel
    by_cases hlt : v < col.length
    · obtain ⟨b, off, rfl, hc⟩ := HH.out.get v hlt
      obtain ⟨y, hy⟩ : ∃ y, col.getD v 0 = y := ⟨_, rfl⟩
      rw [hy] at hc
      have hy6 := HT.out v hlt
      rw [hy] at hy6
      have HY : Hid (col.getD v 0 = y) := hy
      clear hy
      by_cases hgt : x < y
      · have hI2 : IsTop col (v + 1) y := by
          obtain ⟨h1, h2, h3⟩ := hI
          refine ⟨by omega, hy6, fun j hj => ?_⟩
          by_cases e : j = v
          · rw [e, HY.out]; omega
          · have := h3 j (by omega); omega
        go_wp2_with fail
        go_round
        case rel => exact ⟨v + 1, y, by omega, by go_num, rfl, hI2⟩
        case measure => simp [intOf]; omega
      · have hI2 : IsTop col (v + 1) x := by
          obtain ⟨h1, h2, h3⟩ := hI
          refine ⟨h1, h2, fun j hj => ?_⟩
          by_cases e : j = v
          · rw [e, HY.out]; omega
          · exact h3 j (by omega)
        go_wp2_with fail
        go_round
        case rel => exact ⟨v + 1, x, by omega, by go_num, rfl, hI2⟩
        case measure => simp [intOf]; omega
    · have HI : Hid (IsTop col col.length x) := by rw [show col.length = v by omega]; exact hI
      go_wp2_with fail
      go_ret
      exact ⟨x, rfl, rfl, HI.out⟩

/-- a reduced lies in block b: values, unforced, column are what is read of it -/
def Red (w : World) (b : Nat) (vv uv cv : Value) : Prop := w.heap[b]? = some (.cells #[vv, uv, .slice none 0 0, cv, .slice none 0 0, .slice none 0 0, .int .i64 0, .slice none 0 0] 89 (0, 0))
theorem Red.c0 {w : World} {b : Nat} {vv uv cv : Value} (h : Red w b vv uv cv) : w.cell? ⟨b, 0, none⟩ = some vv := by unfold Red at h; simp [World.cell?, h]
theorem Red.c1 {w : World} {b : Nat} {vv uv cv : Value} (h : Red w b vv uv cv) : w.cell? ⟨b, 1, none⟩ = some uv := by unfold Red at h; simp [World.cell?, h]
theorem Red.c3 {w : World} {b : Nat} {vv uv cv : Value} (h : Red w b vv uv cv) : w.cell? ⟨b, 3, none⟩ = some cv := by unfold Red at h; simp [World.cell?, h]
theorem Red.same {w w' : World} {b : Nat} {vv uv cv : Value} (h : Red w b vv uv cv) (hs : w'.heap[b]? = w.heap[b]?) : Red w' b vv uv cv := by unfold Red at *; rw [hs]; exact h
theorem Red.lt {w : World} {b : Nat} {vv uv cv : Value} (h : Red w b vv uv cv) : b < w.heap.size := (Array.getElem?_eq_some_iff.1 h).1
theorem newC (a0 : Option Addr) (l0 c0 : Nat) (a1 : Option Addr) (l1 c1 : Nat) (a2 : Option Addr) (l2 c2 : Nat) (w : World) :
    Calls Try.prog 48 #[.slice a0 l0 c0, .slice a1 l1 c1, .slice a2 l2 c2] w fun e w' => e = .returned (.pointer (some ⟨w.heap.size, 0, none⟩)) ∧ Red w' w.heap.size (.slice a0 l0 c0) (.slice a1 l1 c1) (.slice a2 l2 c2) ∧ Below w.heap.size w w' := by
  go_enter Try.func48, Try.ntmps48
  go_wp2_with fail
  go_ret
  exact ⟨rfl, heap_alloc_new w _, (Below.refl _ _).alloc (Nat.le_refl _) _⟩
end Go.Proofs.Qxb6600645a.top
