/-
  ZZB1Row, walked.
-/
import Derived.Test.Qxb6600645aRowA
namespace Go.Proofs.Qxb6600645a.row49
open Go.ChangeShapes Go.WideShapes Go.ChangeAt Go.RowKit Go.Maps
open Go.Proofs.Qxb6600645a.base Go.Proofs.Qxb6600645a.own Go.Proofs.Qxb6600645a.top Go.Proofs.Qxb6600645a.flt Go.Proofs.Qxb6600645a.plain Go.Proofs.Qxb6600645a.mem Go.Proofs.Qxb6600645a.says Go.Proofs.Qxb6600645a.mem2 Go.Proofs.Qxb6600645a.comp Go.Proofs.Qxb6600645a.rowa
set_option linter.unusedVariables false

/-- what ZZB1Row hands back where it refuses, and where it does not -/
def Good (vs col lits : List Int) (o : Option (List Int)) (at0 : Int) (cv fv : Value) (lo : Nat) (cl : List Int) (bs : List Nat) (w' : World) : Prop :=
  Nums w' cv .i64 cl ∧ Sl w' fv (bs.map (Value.float .f64)) ∧
      cl = (keep (rowR (mkL vs col lits o) lits.length)).map (·.1) ∧ Reps bs ((keep (rowR (mkL vs col lits o) lits.length)).map (·.2)) ∧ Rep lo (rowLo (mkL vs col lits o) at0 lits.length) ∧ cl.length ≤ lits.length
def Out4 (vs : List Int) (uf : List Bool) (col lits : List Int) (o : Option (List Int)) (at0 : Int) (w : World) (e : Ending) (w' : World) : Prop :=
  Below w.heap.size w w' ∧ ((∃ k, k < lits.length ∧ bad vs uf col lits k = true) ∧ e = .returned (.tuple #[.slice none 0 0, .slice none 0 0, .float .f64 0, .bool false]) ∨
    (∀ k, k < lits.length → bad vs uf col lits k = false) ∧ ∃ cv fv lo cl bs, e = .returned (.tuple #[cv, fv, .float .f64 lo, .bool true]) ∧ Good vs col lits o at0 cv fv lo cl bs w')
theorem Good.below {vs col lits : List Int} {o : Option (List Int)} {at0 : Int} {cv fv : Value} {lo : Nat} {cl : List Int} {bs : List Nat} {w w' : World} {B : Nat} (h : Good vs col lits o at0 cv fv lo cl bs w) (hb : Below B w w') (hB : w.heap.size ≤ B) : Good vs col lits o at0 cv fv lo cl bs w' :=
  ⟨h.1.below hb hB, h.2.1.below hb hB, h.2.2⟩
set_option maxRecDepth 100000 in
set_option maxHeartbeats 4000000 in
theorem zzRowC (rb : Nat) (lv wv vv uv cv : Value) (vs : List Int) (uf : List Bool) (col lits : List Int) (o : Option (List Int)) (at0 : Int) (w : World) (hred : Red w rb vv uv cv)
    (hl : Nums w lv .i64 lits) (hw : WOk w wv o) (hv : Nums w vv .i8 vs) (hu : Bools w uv uf) (hc : Nums w cv .i64 col) (hok : rowok.Ok uf.length col lits o at0 vs.length) (h17 : lits.length ≤ 131072) (hn : vs.length ≤ 1048576) :
    Calls Try.prog 49 #[.pointer (some ⟨rb, 0, none⟩), .agg #[lv, wv, .int .i64 at0]] w (Out4 vs uf col lits o at0 w) := by
  have hsf := fun (w : World) (a : Addr) (b : Nat) (m : Mode) => run_store Try.prog w a (.float .f64 b) m rfl
  obtain ⟨al, cl, rfl⟩ := hl.shape
  obtain ⟨aw, nw, cw, rfl⟩ : ∃ a n c, wv = .slice a n c := by
    cases o with
    | none => exact ⟨none, 0, 0, hw⟩
    | some ws => obtain ⟨_, x, n, c, e⟩ := hw; exact ⟨_, _, _, e⟩
  have hb0 : ∀ ob : Obj, Below w.heap.size w (w.alloc ob) := fun ob => (Below.refl _ _).alloc (Nat.le_refl _) _
  have H : Hid (∀ ob : Obj, Calls Try.prog 59 #[.pointer (some ⟨rb, 0, none⟩), .agg #[.slice al lits.length cl, .slice aw nw cw, .int .i64 at0]] (w.alloc ob) (Out vs uf col lits o at0 (w.alloc ob))) := by
    intro ob
    exact row1 rb _ _ vv uv cv vs uf col lits o at0 _ (hred.same (Below.heap_alloc _ _ _ hred.lt)) (hl.below (hb0 ob) (Nat.le_refl _)) (hw.below (hb0 ob) (Nat.le_refl _)) (hv.below (hb0 ob) (Nat.le_refl _)) (hu.below (hb0 ob) (Nat.le_refl _)) (hc.below (hb0 ob) (Nat.le_refl _)) hok h17 hn
  have HB : Hid (∀ ob : Obj, Below w.heap.size w (w.alloc ob)) := hb0
  clear hl hw hv hu hc hok hred hb0
  go_enter Try.func49, Try.ntmps49
  go_wp2_with fail
  refine (H.out _).mono ?_
  rintro e w1 ⟨hb, ⟨hbad, rfl⟩ | ⟨hg, cv, fv, lo, cl2, bs, rfl, h1, h2, h3, h4, h5, h6⟩⟩
  · have HBad : Hid (∃ k, k < lits.length ∧ bad vs uf col lits k = true) := hbad
    have HB1 : Hid _ := hb
    clear hb hbad
    go_wp2_with fail
    go_quiet (fail)
    go_wp2_with fail
    refine bodyPost_ret (v := .tuple #[.slice none 0 0, .slice none 0 0, .float .f64 0, .bool false]) (by simp [results, Try.results49, go_sem]) rfl ?_
    have hb1 : Below w.heap.size w w1 := (HB.out _).trans (HB1.out.mono (by simp))
    exact ⟨below_drewN (hb1.alloc hb1.size _) _, .inl ⟨HBad.out, rfl⟩⟩
  · have HG : Hid (Good vs col lits o at0 cv fv lo cl2 bs w1) := ⟨h1, h2, h3, h4, h5, h6⟩
    obtain ⟨a2, c2, rfl⟩ := h1.shape
    obtain ⟨a3, c3, h2e⟩ := h2.shape
    rw [List.length_map] at h2e
    subst h2e
    have HBad : Hid (∀ k, k < lits.length → bad vs uf col lits k = false) := hg
    have HB1 : Hid _ := hb
    clear hb hg h1 h2 h3 h4 h5 h6
    go_wp2_with fail
    go_quiet (fail)
    go_wp2_with fail
    refine bodyPost_ret (v := .tuple #[.slice a2 cl2.length c2, .slice a3 bs.length c3, .float .f64 lo, .bool true]) (by simp [results, Try.results49, go_sem]) rfl ?_
    have hb1 : Below w.heap.size w w1 := (HB.out _).trans (HB1.out.mono (by simp))
    exact ⟨below_drewN (hb1.alloc hb1.size _) _, .inr ⟨HBad.out, _, _, lo, cl2, bs, rfl, HG.out.below (below_drewN ((Below.refl _ _).alloc (Nat.le_refl _) _) _) (Nat.le_refl _)⟩⟩
end Go.Proofs.Qxb6600645a.row49
