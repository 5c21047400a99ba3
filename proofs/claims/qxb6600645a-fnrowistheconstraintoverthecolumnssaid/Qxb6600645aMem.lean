/-
  The memory of (*reduced).row: the constraint's copy, the result's place, the row, the map; what each step does to it.
-/
import Derived.Test.Qxb6600645aOwn
import Derived.Test.Qxb6600645aTop
import Derived.Test.Qxb6600645aFlt
import Derived.Test.Qxb6600645aPlain
import Derived.Maps.Own
import Derived.Maps.OwnOps
import Derived.Maps.OwnSet
namespace Go.Proofs.Qxb6600645a.mem
open Go.ChangeShapes Go.WideShapes Go.ChangeAt Go.RowKit Go.Maps
open Go.Proofs.Qxb6600645a.base Go.Proofs.Qxb6600645a.own Go.Proofs.Qxb6600645a.top Go.Proofs.Qxb6600645a.flt Go.Proofs.Qxb6600645a.plain

set_option linter.unusedVariables false
/-- a linear lies in block b: cols, coef, lo -/
def Lin (w : World) (b : Nat) (cv fv : Value) (lo : Nat) : Prop := w.heap[b]? = some (.cells #[cv, fv, .float .f64 lo] 91 (0, 0))
theorem Lin.c0 {w : World} {b : Nat} {cv fv : Value} {lo : Nat} (h : Lin w b cv fv lo) : w.cell? ⟨b, 0, none⟩ = some cv := by unfold Lin at h; simp [World.cell?, h]
theorem Lin.c1 {w : World} {b : Nat} {cv fv : Value} {lo : Nat} (h : Lin w b cv fv lo) : w.cell? ⟨b, 1, none⟩ = some fv := by unfold Lin at h; simp [World.cell?, h]
theorem Lin.c2 {w : World} {b : Nat} {cv fv : Value} {lo : Nat} (h : Lin w b cv fv lo) : w.cell? ⟨b, 2, none⟩ = some (.float .f64 lo) := by unfold Lin at h; simp [World.cell?, h]
theorem Lin.fr {w : World} {b : Nat} {cv fv : Value} {lo : Nat} (h : Lin w b cv fv lo) (k : Nat) : w.frozen? ⟨b, k, none⟩ = false := by unfold Lin at h; simp [World.frozen?, h]
theorem Lin.s0 {w : World} {b : Nat} {cv fv : Value} {lo : Nat} (h : Lin w b cv fv lo) (x : Value) : Lin (w.setCell ⟨b, 0, none⟩ x) b x fv lo := heap_setCell_same w b 0 _ 91 x h
theorem Lin.s1 {w : World} {b : Nat} {cv fv : Value} {lo : Nat} (h : Lin w b cv fv lo) (x : Value) : Lin (w.setCell ⟨b, 1, none⟩ x) b cv x lo := heap_setCell_same w b 1 _ 91 x h
theorem Lin.s2 {w : World} {b : Nat} {cv fv : Value} {lo : Nat} (h : Lin w b cv fv lo) (x : Nat) : Lin (w.setCell ⟨b, 2, none⟩ (.float .f64 x)) b cv fv x := heap_setCell_same w b 2 _ 91 _ h
theorem Lin.same {w w' : World} {b : Nat} {cv fv : Value} {lo : Nat} (h : Lin w b cv fv lo) (hs : w'.heap[b]? = w.heap[b]?) : Lin w' b cv fv lo := by unfold Lin at *; rw [hs]; exact h
theorem Lin.lt {w : World} {b : Nat} {cv fv : Value} {lo : Nat} (h : Lin w b cv fv lo) : b < w.heap.size := (Array.getElem?_eq_some_iff.1 h).1

/-- the memory while row runs; N: the first block of the call's own -/
structure RM (w : World) (N rb : Nat) (lv wv : Value) (at0 : Int) (vv uv cv cvv fvv : Value) (lo : Nat) (cl : List Int) (bs : List Nat) (D : DataW Unit) (m : Nat) : Prop where
  cn : Cn w N lv wv at0
  res : Lin w (N + 1) (.slice none 0 0) (.slice none 0 0) 0
  lin : Lin w (N + 2) cvv fvv lo
  red : Red w rb vv uv cv
  rbN : rb < N
  cols : OwnR 3 w cvv (cl.map (Value.int .i64))
  coef : OwnR 69 w fvv (bs.map (Value.float .f64))
  map : w.ownsMap Try.prog 3 (plainElem Try.prog 3) (N + 3) m D
  b1 : ∀ k, cvv.ownBlock = some k → N ≤ k
  b2 : ∀ k, fvv.ownBlock = some k → N ≤ k

theorem set_other (w : World) (b o : Nat) (x : Value) (k : Nat) (hk : k ≠ b) : (w.setCell ⟨b, o, none⟩ x).heap[k]? = w.heap[k]? := Below.heap_setCell _ _ _ _ hk
theorem ne_map {w : World} {k b m : Nat} {c : Array Value} {e : TypeId} {f : Nat × Nat} {D : DataW Unit} (h : w.heap[k]? = some (.cells c e f)) (hm : w.ownsMap Try.prog 3 (plainElem Try.prog 3) b m D) : k ≠ b := by
  intro he
  obtain ⟨es, clock, hb, _⟩ := hm
  rw [← he, h] at hb
  cases hb
theorem map_same {w w' : World} {b m : Nat} {D : DataW Unit} (hm : w.ownsMap Try.prog 3 (plainElem Try.prog 3) b m D) (hs : w'.heap[b]? = w.heap[b]?) : w'.ownsMap Try.prog 3 (plainElem Try.prog 3) b m D := by
  obtain ⟨es, clock, hb, r⟩ := hm
  exact ⟨es, clock, by rw [hs]; exact hb, r⟩
theorem own_bound {w w' : World} {N : Nat} {v v' : Value} (hx : Ext v w v' w') (h : ∀ k, v.ownBlock = some k → N ≤ k) (hN : N ≤ w.heap.size) : ∀ k, v'.ownBlock = some k → N ≤ k := by
  intro k hk
  rcases hx.own with e | e
  · exact h k (by rw [← e]; exact hk)
  · exact Nat.le_trans hN (e k hk)
/-- a block of another element type stays, while a row of its own is appended to -/
theorem ext_same {w w' : World} {v v' : Value} {e e' : TypeId} {xs : List Value} {k : Nat} {c : Array Value} {f : Nat × Nat} (hx : Ext v w v' w') (ho : OwnR e w v xs) (hk : w.heap[k]? = some (.cells c e' f)) (hne : e ≠ e') : w'.heap[k]? = w.heap[k]? := by
  refine hx.grown.block k (Array.getElem?_eq_some_iff.1 hk).1 fun h => ?_
  obtain ⟨c', hc'⟩ := ho.elem k h.symm
  exact apart hc' hk hne rfl
theorem ext_map {w w' : World} {v v' : Value} {e : TypeId} {xs : List Value} {b m : Nat} {D : DataW Unit} (hx : Ext v w v' w') (ho : OwnR e w v xs) (hm : w.ownsMap Try.prog 3 (plainElem Try.prog 3) b m D) : w'.heap[b]? = w.heap[b]? := by
  refine hx.grown.block b hm.lt fun h => ?_
  obtain ⟨c', hc'⟩ := ho.elem b h.symm
  exact ne_map hc' hm rfl
theorem own_other {w : World} {v : Value} {e e' : TypeId} {xs : List Value} {b : Nat} {c : Array Value} {f : Nat × Nat} (ho : OwnR e w v xs) (hb : w.heap[b]? = some (.cells c e' f)) (hne : e ≠ e') (k : Nat) (hk : v.ownBlock = some k) : k ≠ b := by
  obtain ⟨c', hc'⟩ := ho.elem k hk
  exact apart hc' hb hne

section
variable {w w' : World} {N rb : Nat} {lv wv : Value} {at0 : Int} {vv uv cv cvv fvv cvv' fvv' : Value} {lo : Nat} {cl cl' : List Int} {bs bs' : List Nat} {D : DataW Unit} {m : Nat}
theorem RM.size (h : RM w N rb lv wv at0 vv uv cv cvv fvv lo cl bs D m) : N ≤ w.heap.size := by have := h.lin.lt; omega
/-- a store into the row's struct -/
theorem RM.lin_set (h : RM w N rb lv wv at0 vv uv cv cvv fvv lo cl bs D m) (o : Nat) (x : Value) {cvv' fvv' : Value} {lo' : Nat} (hl : Lin (w.setCell ⟨N + 2, o, none⟩ x) (N + 2) cvv' fvv' lo')
    (hc : OwnR 3 w cvv' (cl'.map (Value.int .i64))) (hf : OwnR 69 w fvv' (bs'.map (Value.float .f64))) (b1 : ∀ k, cvv'.ownBlock = some k → N ≤ k) (b2 : ∀ k, fvv'.ownBlock = some k → N ≤ k) :
    RM (w.setCell ⟨N + 2, o, none⟩ x) N rb lv wv at0 vv uv cv cvv' fvv' lo' cl' bs' D m ∧ Below N w (w.setCell ⟨N + 2, o, none⟩ x) := by
  have hrb := h.rbN
  refine ⟨⟨h.cn.same (set_other _ _ _ _ _ (by omega)), h.res.same (set_other _ _ _ _ _ (by omega)), hl, h.red.same (set_other _ _ _ _ _ (by omega)), h.rbN, hc.same fun k hk => set_other _ _ _ _ _ (own_other hc h.lin (by decide) k hk),
    hf.same fun k hk => set_other _ _ _ _ _ (own_other hf h.lin (by decide) k hk), map_same h.map (set_other _ _ _ _ _ (by omega)), b1, b2⟩, (Below.refl N w).setCell (p := ⟨N + 2, o, none⟩) (by show N ≤ N + 2; omega) x⟩
theorem RM.setlo (h : RM w N rb lv wv at0 vv uv cv cvv fvv lo cl bs D m) (r : Nat) :
    RM (w.setCell ⟨N + 2, 2, none⟩ (.float .f64 r)) N rb lv wv at0 vv uv cv cvv fvv r cl bs D m ∧ Below N w (w.setCell ⟨N + 2, 2, none⟩ (.float .f64 r)) :=
  h.lin_set 2 _ (h.lin.s2 r) h.cols h.coef h.b1 h.b2
/-- ahead of the store of the new cols -/
theorem RM.mid0 (h : RM w N rb lv wv at0 vv uv cv cvv fvv lo cl bs D m) (hx : Ext cvv w cvv' w') (hc : OwnR 3 w' cvv' (cl'.map (Value.int .i64))) : Lin w' (N + 2) cvv fvv lo := h.lin.same (ext_same hx h.cols h.lin (by decide))
theorem RM.step0 (h : RM w N rb lv wv at0 vv uv cv cvv fvv lo cl bs D m) (hx : Ext cvv w cvv' w') (hc : OwnR 3 w' cvv' (cl'.map (Value.int .i64))) :
    RM (w'.setCell ⟨N + 2, 0, none⟩ cvv') N rb lv wv at0 vv uv cv cvv' fvv lo cl' bs D m ∧ Below N w (w'.setCell ⟨N + 2, 0, none⟩ cvv') := by
  have hl := h.mid0 hx hc
  have hf : OwnR 69 w' fvv (bs.map (Value.float .f64)) := by
    refine h.coef.same fun k hk => ?_
    obtain ⟨c, hcc⟩ := h.coef.elem k hk
    exact ext_same hx h.cols hcc (by decide)
  have h' : RM w' N rb lv wv at0 vv uv cv cvv' fvv lo cl' bs D m → True := fun _ => trivial
  have hb := own_bound hx h.b1 h.size
  have hbel := hx.below h.size h.b1
  have hrb := h.rbN
  refine ⟨⟨?_, ?_, hl.s0 cvv', ?_, h.rbN, ?_, ?_, ?_, hb, h.b2⟩, hbel.setCell (p := ⟨N + 2, 0, none⟩) (by show N ≤ N + 2; omega) _⟩
  · exact h.cn.same (by rw [set_other _ _ _ _ _ (by omega)]; exact ext_same hx h.cols h.cn (by decide))
  · exact h.res.same (by rw [set_other _ _ _ _ _ (by omega)]; exact ext_same hx h.cols h.res (by decide))
  · exact h.red.same (by rw [set_other _ _ _ _ _ (by omega)]; exact ext_same hx h.cols h.red (by decide))
  · exact hc.same fun k hk => set_other _ _ _ _ _ (own_other hc hl (by decide) k hk)
  · exact hf.same fun k hk => set_other _ _ _ _ _ (own_other hf hl (by decide) k hk)
  · exact map_same h.map (by rw [set_other _ _ _ _ _ (by omega)]; exact ext_map hx h.cols h.map)
theorem RM.mid1 (h : RM w N rb lv wv at0 vv uv cv cvv fvv lo cl bs D m) (hx : Ext fvv w fvv' w') : Lin w' (N + 2) cvv fvv lo := h.lin.same (ext_same hx h.coef h.lin (by decide))
theorem RM.step1 (h : RM w N rb lv wv at0 vv uv cv cvv fvv lo cl bs D m) (hx : Ext fvv w fvv' w') (hf : OwnR 69 w' fvv' (bs'.map (Value.float .f64))) :
    RM (w'.setCell ⟨N + 2, 1, none⟩ fvv') N rb lv wv at0 vv uv cv cvv fvv' lo cl bs' D m ∧ Below N w (w'.setCell ⟨N + 2, 1, none⟩ fvv') := by
  have hl := h.mid1 hx
  have hc : OwnR 3 w' cvv (cl.map (Value.int .i64)) := by
    refine h.cols.same fun k hk => ?_
    obtain ⟨c, hcc⟩ := h.cols.elem k hk
    exact ext_same hx h.coef hcc (by decide)
  have hb := own_bound hx h.b2 h.size
  have hbel := hx.below h.size h.b2
  have hrb := h.rbN
  refine ⟨⟨?_, ?_, hl.s1 fvv', ?_, h.rbN, ?_, ?_, ?_, h.b1, hb⟩, hbel.setCell (p := ⟨N + 2, 1, none⟩) (by show N ≤ N + 2; omega) _⟩
  · exact h.cn.same (by rw [set_other _ _ _ _ _ (by omega)]; exact ext_same hx h.coef h.cn (by decide))
  · exact h.res.same (by rw [set_other _ _ _ _ _ (by omega)]; exact ext_same hx h.coef h.res (by decide))
  · exact h.red.same (by rw [set_other _ _ _ _ _ (by omega)]; exact ext_same hx h.coef h.red (by decide))
  · exact hc.same fun k hk => set_other _ _ _ _ _ (own_other hc hl (by decide) k hk)
  · exact hf.same fun k hk => set_other _ _ _ _ _ (own_other hf hl (by decide) k hk)
  · exact map_same h.map (by rw [set_other _ _ _ _ _ (by omega)]; exact ext_map hx h.coef h.map)
/-- a store into the map -/
theorem RM.stepm {D' : DataW Unit} {m' : Nat} (h : RM w N rb lv wv at0 vv uv cv cvv fvv lo cl bs D m) (hm : w'.ownsMap Try.prog 3 (plainElem Try.prog 3) (N + 3) m' D') (hg : w.grownBy w' (some (N + 3))) :
    RM w' N rb lv wv at0 vv uv cv cvv fvv lo cl bs D' m' ∧ Below N w w' := by
  have same : ∀ k, k < w.heap.size → k ≠ N + 3 → w'.heap[k]? = w.heap[k]? := fun k hk hne => hg.block k hk (fun e => hne (by injection e))
  have hrb := h.rbN
  have hs := h.size
  have hlt := h.lin.lt
  refine ⟨⟨h.cn.same (same _ (by omega) (by omega)), h.res.same (same _ (by omega) (by omega)), h.lin.same (same _ (by omega) (by omega)), h.red.same (same _ h.red.lt (by omega)), h.rbN, ?_, ?_, hm, h.b1, h.b2⟩, (Below.refl N w).grown hg hs (fun k e => by injection e with e; omega)⟩
  · refine h.cols.same fun k hk => ?_
    obtain ⟨c, hc⟩ := h.cols.elem k hk
    exact same k (h.cols.lt k hk) (ne_map hc h.map)
  · refine h.coef.same fun k hk => ?_
    obtain ⟨c, hc⟩ := h.coef.elem k hk
    exact same k (h.coef.lt k hk) (ne_map hc h.map)
/-- a store into the row of coefficients -/
theorem RM.setf {g n cap : Nat} (h : RM w N rb lv wv at0 vv uv cv cvv (.slice (some ⟨g, 0, none⟩) n cap) lo cl bs D m) (p r : Nat) :
    RM (w.setCell ⟨g, p, none⟩ (.float .f64 r)) N rb lv wv at0 vv uv cv cvv (.slice (some ⟨g, 0, none⟩) n cap) lo cl (bs.set p r) D m ∧ Below N w (w.setCell ⟨g, p, none⟩ (.float .f64 r)) := by
  obtain ⟨cc, hcc⟩ := h.coef.elem g rfl
  have hn : n = (bs.map (Value.float .f64)).length := by
    obtain ⟨a, c, hs⟩ := h.coef.shape
    injection hs
  subst hn
  have hst := (World.ownsRow.stored h.coef p (.float .f64 r)).1
  refine ⟨⟨h.cn.same (set_other _ _ _ _ _ (fun e => apart hcc h.cn (by decide) e.symm)), h.res.same (set_other _ _ _ _ _ (fun e => apart hcc h.res (by decide) e.symm)), h.lin.same (set_other _ _ _ _ _ (fun e => apart hcc h.lin (by decide) e.symm)), h.red.same (set_other _ _ _ _ _ (fun e => apart hcc h.red (by decide) e.symm)), h.rbN,
    ?_, ?_, map_same h.map (set_other _ _ _ _ _ (fun e => ne_map hcc h.map e.symm)), h.b1, h.b2⟩, (Below.refl N w).setCell (p := ⟨g, p, none⟩) (h.b2 g rfl) _⟩
  · refine h.cols.same fun k hk => set_other _ _ _ _ _ ?_
    obtain ⟨c, hc⟩ := h.cols.elem k hk
    exact apart hc hcc (by decide)
  · unfold OwnR
    rw [List.map_set, List.length_set]
    exact hst
theorem RM.setc {g n cap : Nat} (h : RM w N rb lv wv at0 vv uv cv (.slice (some ⟨g, 0, none⟩) n cap) fvv lo cl bs D m) (p : Nat) (x : Int) :
    RM (w.setCell ⟨g, p, none⟩ (.int .i64 x)) N rb lv wv at0 vv uv cv (.slice (some ⟨g, 0, none⟩) n cap) fvv lo (cl.set p x) bs D m ∧ Below N w (w.setCell ⟨g, p, none⟩ (.int .i64 x)) := by
  obtain ⟨cc, hcc⟩ := h.cols.elem g rfl
  have hn : n = (cl.map (Value.int .i64)).length := by
    obtain ⟨a, c, hs⟩ := h.cols.shape
    injection hs
  subst hn
  have hst := (World.ownsRow.stored h.cols p (.int .i64 x)).1
  refine ⟨⟨h.cn.same (set_other _ _ _ _ _ (fun e => apart hcc h.cn (by decide) e.symm)), h.res.same (set_other _ _ _ _ _ (fun e => apart hcc h.res (by decide) e.symm)), h.lin.same (set_other _ _ _ _ _ (fun e => apart hcc h.lin (by decide) e.symm)), h.red.same (set_other _ _ _ _ _ (fun e => apart hcc h.red (by decide) e.symm)), h.rbN,
    ?_, ?_, map_same h.map (set_other _ _ _ _ _ (fun e => ne_map hcc h.map e.symm)), h.b1, h.b2⟩, (Below.refl N w).setCell (p := ⟨g, p, none⟩) (h.b1 g rfl) _⟩
  · unfold OwnR
    rw [List.map_set, List.length_set]
    exact hst
  · refine h.coef.same fun k hk => set_other _ _ _ _ _ ?_
    obtain ⟨c, hc⟩ := h.coef.elem k hk
    exact apart hc hcc (by decide)
theorem RM.drewN (h : RM w N rb lv wv at0 vv uv cv cvv fvv lo cl bs D m) (n : Nat) : RM (w.drewN n) N rb lv wv at0 vv uv cv cvv fvv lo cl bs D m :=
  ⟨h.cn.same rfl, h.res.same rfl, h.lin.same rfl, h.red.same rfl, h.rbN, h.cols.same fun _ _ => rfl, h.coef.same fun _ _ => rfl, map_same h.map rfl, h.b1, h.b2⟩
end
end Go.Proofs.Qxb6600645a.mem
