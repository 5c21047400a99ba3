/-
  The memory of (*reduced).row: how it begins, and a new block beside it.
-/
import Derived.Test.Qxb6600645aSays
namespace Go.Proofs.Qxb6600645a.mem2
open Go.ChangeShapes Go.WideShapes Go.ChangeAt Go.RowKit Go.Maps
open Go.Proofs.Qxb6600645a.base Go.Proofs.Qxb6600645a.own Go.Proofs.Qxb6600645a.top Go.Proofs.Qxb6600645a.flt Go.Proofs.Qxb6600645a.plain Go.Proofs.Qxb6600645a.mem Go.Proofs.Qxb6600645a.says
theorem rm0 (w : World) (rb : Nat) (lv wv vv uv cv : Value) (at0 : Int) (lo : Nat) (hred : Red w rb vv uv cv) :
    RM ((((w.alloc (.cells #[lv, wv, .int .i64 at0] 73)).alloc (.cells #[.slice none 0 0, .slice none 0 0, .float .f64 0] 91)).alloc (.cells #[.slice none 0 0, .slice none 0 0, .float .f64 lo] 91)).alloc (.map #[] 0)) w.heap.size rb lv wv at0 vv uv cv (.slice none 0 0) (.slice none 0 0) lo [] [] (.map []) 0 := by
  have hlt := hred.lt
  refine ⟨?_, ?_, ?_, ?_, hlt, OwnR.nil _ _, OwnR.nil _ _, ?_, (fun k h => by cases h), (fun k h => by cases h)⟩
  · unfold Cn
    rw [Below.heap_alloc _ _ _ (by simp; omega), Below.heap_alloc _ _ _ (by simp; omega), Below.heap_alloc _ _ _ (by simp)]
    exact heap_alloc_new _ _
  · unfold Lin
    rw [Below.heap_alloc _ _ _ (by simp), Below.heap_alloc _ _ _ (by simp)]
    have := heap_alloc_new (w.alloc (.cells #[lv, wv, .int .i64 at0] 73)) (.cells #[.slice none 0 0, .slice none 0 0, .float .f64 0] 91)
    simpa using this
  · unfold Lin
    rw [Below.heap_alloc _ _ _ (by simp)]
    have := heap_alloc_new ((w.alloc (.cells #[lv, wv, .int .i64 at0] 73)).alloc (.cells #[.slice none 0 0, .slice none 0 0, .float .f64 0] 91)) (.cells #[.slice none 0 0, .slice none 0 0, .float .f64 lo] 91)
    simpa using this
  · refine hred.same ?_
    rw [Below.heap_alloc _ _ _ (by simp; omega), Below.heap_alloc _ _ _ (by simp; omega), Below.heap_alloc _ _ _ (by simp; omega), Below.heap_alloc _ _ _ hlt]
  · have := World.ownsMap_made (H := Unit) (((w.alloc (.cells #[lv, wv, .int .i64 at0] 73)).alloc (.cells #[.slice none 0 0, .slice none 0 0, .float .f64 0] 91)).alloc (.cells #[.slice none 0 0, .slice none 0 0, .float .f64 lo] 91)) Try.prog 3 (plainElem Try.prog 3)
    simpa using this
theorem rm_alloc {w : World} {N rb : Nat} {lv wv : Value} {at0 : Int} {vv uv cv cvv fvv : Value} {lo : Nat} {cl : List Int} {bs : List Nat} {D : DataW Unit} {m : Nat} (h : RM w N rb lv wv at0 vv uv cv cvv fvv lo cl bs D m) (o : Obj) :
    RM (w.alloc o) N rb lv wv at0 vv uv cv cvv fvv lo cl bs D m := by
  have hl := h.lin.lt
  have hr := h.red.lt
  exact ⟨h.cn.same (Below.heap_alloc _ _ _ (by omega)), h.res.same (Below.heap_alloc _ _ _ (by omega)), h.lin.same (Below.heap_alloc _ _ _ hl), h.red.same (Below.heap_alloc _ _ _ hr), h.rbN, ownR_alloc h.cols o, ownR_alloc h.coef o,
    map_same h.map (Below.heap_alloc _ _ _ h.map.lt), h.b1, h.b2⟩
theorem upto {p : Nat → Bool} {k : Nat} (h : ∀ i, i < k → p i = false) (hk : p k = false) : ∀ i, i < k + 1 → p i = false := by
  intro i hi
  by_cases e : i = k
  · rw [e]; exact hk
  · exact h i (by omega)
theorem lin_self0 {w : World} {b : Nat} {cv fv : Value} {lo : Nat} (h : Lin w b cv fv lo) : w.setCell ⟨b, 0, none⟩ cv = w := by
  rw [setCell_eq_setRow w b 0 _ 91 (0, 0) cv h]
  exact setRow_self w b _ 91 (0, 0) h
theorem lin_self1 {w : World} {b : Nat} {cv fv : Value} {lo : Nat} (h : Lin w b cv fv lo) : w.setCell ⟨b, 1, none⟩ fv = w := by
  rw [setCell_eq_setRow w b 1 _ 91 (0, 0) fv h]
  exact setRow_self w b _ 91 (0, 0) h
theorem lin_self2 {w : World} {b : Nat} {cv fv : Value} {lo : Nat} (h : Lin w b cv fv lo) : w.setCell ⟨b, 2, none⟩ (.float .f64 lo) = w := by
  rw [setCell_eq_setRow w b 2 _ 91 (0, 0) _ h]
  exact setRow_self w b _ 91 (0, 0) h
theorem zero3 (w : World) : (zeroValue 3).run Try.prog w = .ok (.int .i64 0) w := by kernel_rfl
theorem info3 : (Try.prog.info? 3).map (fun i => (i.zero, i.size, i.bytes)) = some (some (.int .i64 0), 1, 8) := by kernel_rfl
theorem info69 : (Try.prog.info? 69).map (fun i => (i.zero, i.size, i.bytes)) = some (some (.float .f64 0), 1, 8) := by kernel_rfl
end Go.Proofs.Qxb6600645a.mem2
