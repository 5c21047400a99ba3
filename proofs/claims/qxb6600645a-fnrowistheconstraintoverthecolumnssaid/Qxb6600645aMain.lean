/-
  FnRowIsTheConstraintOverTheColumns, walked.
-/
import Derived.Test.Qxb6600645aArr
namespace Go.Proofs.Qxb6600645a.main
open Go.ChangeShapes Go.WideShapes Go.ChangeAt Go.RowKit Go.Maps
open Go.Proofs.Qxb6600645a.base Go.Proofs.Qxb6600645a.own Go.Proofs.Qxb6600645a.top Go.Proofs.Qxb6600645a.flt Go.Proofs.Qxb6600645a.plain Go.Proofs.Qxb6600645a.mem Go.Proofs.Qxb6600645a.says Go.Proofs.Qxb6600645a.mem2 Go.Proofs.Qxb6600645a.comp Go.Proofs.Qxb6600645a.rowa Go.Proofs.Qxb6600645a.row49 Go.Proofs.Qxb6600645a.fin Go.Proofs.Qxb6600645a.gate Go.Proofs.Qxb6600645a.arr
set_option linter.unusedVariables false

/-- what is read while the law runs -/
structure Env (w : World) (vv uv cv lv wv yv : Value) (vs : List Int) (uf : List Bool) (col lits : List Int) (o : Option (List Int)) (ys : List Bool) : Prop where
  v : Nums w vv .i8 vs
  u : Bools w uv uf
  c : Nums w cv .i64 col
  l : Nums w lv .i64 lits
  wt : WOk w wv o
  y : Bools w yv ys
theorem Env.below {w w' : World} {vv uv cv lv wv yv : Value} {vs : List Int} {uf : List Bool} {col lits : List Int} {o : Option (List Int)} {ys : List Bool} {B : Nat} (h : Env w vv uv cv lv wv yv vs uf col lits o ys) (hb : Below B w w') (hB : w.heap.size ≤ B) :
    Env w' vv uv cv lv wv yv vs uf col lits o ys := ⟨h.v.below hb hB, h.u.below hb hB, h.c.below hb hB, h.l.below hb hB, h.wt.below hb hB, h.y.below hb hB⟩
/-- what ZZB1Row hands back, in one shape -/
def Res (vs : List Int) (uf : List Bool) (col lits : List Int) (o : Option (List Int)) (at0 : Int) (g1 : Option Addr) (n1 k1 : Nat) (g2 : Option Addr) (n2 k2 lo : Nat) (ok : Bool) (w : World) : Prop :=
  (ok = false ∧ anyB (bad vs uf col lits) lits.length = true ∧ n1 = 0 ∧ n2 = 0 ∧ lo = 0) ∨
  (ok = true ∧ anyB (bad vs uf col lits) lits.length = false ∧ (∀ k, k < lits.length → bad vs uf col lits k = false) ∧ ∃ cl bs, cl.length = n1 ∧ bs.length = n1 ∧ n2 = n1 ∧ row49.Good vs col lits o at0 (.slice g1 n1 k1) (.slice g2 n2 k2) lo cl bs w)
theorem res_of {vs : List Int} {uf : List Bool} {col lits : List Int} {o : Option (List Int)} {at0 : Int} {w w' : World} {e : Ending} (h : Out4 vs uf col lits o at0 w e w') :
    ∃ g1 n1 k1 g2 n2 k2 lo ok, e = .returned (.tuple #[.slice g1 n1 k1, .slice g2 n2 k2, .float .f64 lo, .bool ok]) ∧ Res vs uf col lits o at0 g1 n1 k1 g2 n2 k2 lo ok w' := by
  obtain ⟨_, ⟨⟨k, hk, hb⟩, rfl⟩ | ⟨hg, cv, fv, lo, cl, bs, rfl, hG⟩⟩ := h
  · exact ⟨none, 0, 0, none, 0, 0, 0, false, rfl, .inl ⟨rfl, anyB_true hk hb, rfl, rfl, rfl⟩⟩
  · obtain ⟨g1, k1, rfl⟩ := hG.1.shape
    obtain ⟨g2, k2, e2⟩ := hG.2.1.shape
    rw [List.length_map] at e2
    subst e2
    have hl : bs.length = cl.length := by rw [hG.2.2.2.1.1, hG.2.2.1, List.length_map, List.length_map]
    exact ⟨g1, _, k1, g2, _, k2, lo, true, rfl, .inr ⟨rfl, anyB_false hg, hg, cl, bs, rfl, hl, hl, hG⟩⟩
/-- true, and nothing that was there has turned -/
def Yes (w : World) (e : Ending) (w' : World) : Prop := e = .returned (.bool true) ∧ Below w.heap.size w w'
set_option maxRecDepth 100000 in
set_option maxHeartbeats 16000000 in
theorem walk (vv uv cv lv wv yv : Value) (vs : List Int) (uf : List Bool) (col lits : List Int) (o : Option (List Int)) (at0 : Int) (ys : List Bool) (w : World) (hE : Env w vv uv cv lv wv yv vs uf col lits o ys)
    (b0 : vs.length ≤ maxLen) (b1 : uf.length ≤ maxLen) (b2 : col.length ≤ maxLen) (b3 : lits.length ≤ maxLen) (b4 : ∀ ws, o = some ws → ws.length ≤ maxLen) (b6 : ys.length ≤ maxLen) :
    Calls Try.prog 8 #[vv, uv, cv, lv, wv, .int .i64 at0, yv] w (Yes w) := by
  obtain ⟨i3, hi3, z30, z31, z32⟩ := info_parts mem2.info3
  obtain ⟨a0, c0, rfl⟩ := hE.v.shape
  obtain ⟨a1, c1, rfl⟩ := hE.u.shape
  obtain ⟨a2, c2, rfl⟩ := hE.c.shape
  obtain ⟨a3, c3, rfl⟩ := hE.l.shape
  obtain ⟨a6, c6, rfl⟩ := hE.y.shape
  obtain ⟨a4, n4, c4, rfl, hn4, hn4'⟩ : ∃ a n c, wv = .slice a n c ∧ n ≤ maxLen ∧ ∀ ws, o = some ws → ws.length = n := by
    have hw := hE.wt
    cases o with
    | none => exact ⟨none, 0, 0, hw, by omega, fun ws h => by cases h⟩
    | some ws =>
      obtain ⟨a, c, e⟩ := hw.1.shape
      exact ⟨a, ws.length, c, e, b4 ws rfl, fun ws' h => by cases h; rfl⟩
  have HE : Hid (Env w (.slice a0 vs.length c0) (.slice a1 uf.length c1) (.slice a2 col.length c2) (.slice a3 lits.length c3) (.slice a4 n4 c4) (.slice a6 ys.length c6) vs uf col lits o ys) := hE
  have HN4 : Hid (∀ ws, o = some ws → ws.length = n4) := hn4'
  clear hE hn4' b4
  go_enter Try.func8, Try.ntmps8
  go_wp2_with fail
  refine (zzC a0 _ _ a1 _ _ a2 _ _ a3 _ _ a4 _ _ at0 a6 _ _ _ b0 b1 b2 b3 hn4 b6).mono ?_
  rintro e w' ⟨hw', r, rfl, hr⟩
  have hw' := hw'.symm
  subst hw'
  cases r with
  | false =>
    clear hr
    go_wp2_with fail
    go_ret
    exact ⟨rfl, Below.refl _ _⟩
  | true =>
    obtain ⟨m0, m1, m2, m3, m4, m6⟩ := hr rfl
    clear hr b0 b1 b2 b3 b6 hn4
    go_wp2_with fail
    refine (rowBytesC a0 _ _ a1 _ _ a2 _ _ a3 _ _ a4 _ _ a6 _ _ _).mono ?_
    rintro e w' ⟨r, rfl, hw', hr⟩
    have hw' := hw'.symm
    subst hw'
    by_cases hr20 : r ≤ 1048576
    · obtain ⟨_, h17⟩ := hr hr20
      clear hr
      go_wp2_with fail
      refine (rowok.rowOkC a0 _ _ a1 _ _ _ _ _ col lits o at0 _ HE.out.c HE.out.l HE.out.wt m0 m1 m2 m3 (fun ws h => by rw [HN4.out ws h]; exact m4)).mono ?_
      rintro e w' ⟨hw', r2, rfl, hok⟩
      have hw' := hw'.symm
      subst hw'
      cases r2 with
      | false =>
        clear hok
        go_wp2_with fail
        go_ret
        exact ⟨rfl, Below.refl _ _⟩
      | true =>
        have HO : Hid (rowok.Ok uf.length col lits o at0 vs.length) := hok rfl
        clear hok
        go_wp2_with fail
        refine (clones.cloneI8 _ vs _ HE.out.v m0).mono ?_
        rintro e w1 ⟨v1, rfl, hv1, hb1⟩
        obtain ⟨d0, f0, rfl⟩ := hv1.shape
        have HV1 : Hid (Nums w1 (.slice d0 vs.length f0) .i8 vs) := hv1
        have HB1 : Hid (Below w.heap.size w w1) := hb1
        clear hv1 hb1
        go_wp2_with fail
        refine (clones.cloneB _ uf _ (HE.out.u.below HB1.out (Nat.le_refl _)) m1).mono ?_
        rintro e w2 ⟨v2, rfl, hv2, hb2⟩
        obtain ⟨d1, f1, rfl⟩ := hv2.shape
        have HV2 : Hid (Bools w2 (.slice d1 uf.length f1) uf) := hv2
        have HB2 : Hid (Below w1.heap.size w1 w2) := hb2
        clear hv2 hb2
        go_wp2_with fail
        refine (clones.cloneI _ col _ ((HE.out.c.below HB1.out (Nat.le_refl _)).below HB2.out (Nat.le_refl _)) m2).mono ?_
        rintro e w3 ⟨v3, rfl, hv3, hb3⟩
        obtain ⟨d2, f2, rfl⟩ := hv3.shape
        have HV3 : Hid (Nums w3 (.slice d2 col.length f2) .i64 col) := hv3
        have HB3 : Hid (Below w2.heap.size w2 w3) := hb3
        clear hv3 hb3
        go_wp2_with fail
        refine (top.newC d0 _ _ d1 _ _ d2 _ _ _).mono ?_
        rintro e w4 ⟨rfl, hred, hb4⟩
        have HE4 : Hid (Env w4 (.slice d0 vs.length f0) (.slice d1 uf.length f1) (.slice d2 col.length f2) (.slice a3 lits.length c3) (.slice a4 n4 c4) (.slice a6 ys.length c6) vs uf col lits o ys) := by
          have h1 := HE.out.below HB1.out (Nat.le_refl _)
          have h2 := h1.below HB2.out (Nat.le_refl _)
          have h3 := h2.below HB3.out (Nat.le_refl _)
          have h4 := h3.below hb4 (Nat.le_refl _)
          exact ⟨((HV1.out.below HB2.out (Nat.le_refl _)).below HB3.out (Nat.le_refl _)).below hb4 (Nat.le_refl _), (HV2.out.below HB3.out (Nat.le_refl _)).below hb4 (Nat.le_refl _), HV3.out.below hb4 (Nat.le_refl _), h4.l, h4.wt, h4.y⟩
        have HB4 : Hid (Below w.heap.size w w4) := ((HB1.out.trans (HB2.out.mono HB1.out.size)).trans (HB3.out.mono (Nat.le_trans HB1.out.size HB2.out.size))).trans (hb4.mono (Nat.le_trans HB1.out.size (Nat.le_trans HB2.out.size HB3.out.size)))
        have HR4 : Hid (Red w4 w3.heap.size (.slice d0 vs.length f0) (.slice d1 uf.length f1) (.slice d2 col.length f2)) := hred
        generalize w3.heap.size = rb at HR4 ⊢
        clear hred hb4 HV1 HV2 HV3 HB1 HB2 HB3 HE
        go_wp2_with fail
        refine (zzRowC rb _ _ _ _ _ vs uf col lits o at0 _ HR4.out HE4.out.l HE4.out.wt HE4.out.v HE4.out.u HE4.out.c HO.out h17 m0).mono ?_
        rintro e w5 hout
        have hb5 := hout.1
        obtain ⟨g1, n1, k1, g2, n2, k2, lo, ok, rfl, hres⟩ := res_of hout
        have HRes : Hid (Res vs uf col lits o at0 g1 n1 k1 g2 n2 k2 lo ok w5) := hres
        have HE5 : Hid (Env w5 (.slice d0 vs.length f0) (.slice d1 uf.length f1) (.slice d2 col.length f2) (.slice a3 lits.length c3) (.slice a4 n4 c4) (.slice a6 ys.length c6) vs uf col lits o ys) := HE4.out.below hb5 (Nat.le_refl _)
        have HB5 : Hid (Below w.heap.size w w5) := HB4.out.trans (hb5.mono HB4.out.size)
        clear hb5 HE4 HB4 HR4 hout hres
        go_wp2_with fail
        go_loopw [20, 21] (fun rf i wr => ∃ k n : Nat, k ≤ lits.length ∧ i = .int .i64 k ∧ rf = .bool (anyB (bad vs uf col lits) k) ∧ wr = w5.drewN n) (fun _ i _ => lits.length - (intOf i).toNat)
        case atStart => exact ⟨0, 0, by omega, rfl, rfl, rfl⟩
        case round =>
          obtain ⟨k, nd, hk, rfl, rfl, rfl⟩ := hrel
          by_cases hlt : k < lits.length
          · obtain ⟨A, hA⟩ : ∃ A, anyB (bad vs uf col lits) k = A := ⟨_, rfl⟩
            have HA : Hid (anyB (bad vs uf col lits) k = A) := hA
            rw [hA]
            clear hA
            obtain ⟨b, off, rfl, hcl⟩ := HE5.out.l.get k hlt
            obtain ⟨x, hx⟩ : ∃ x, lits.getD k 0 = x := ⟨_, rfl⟩
            obtain ⟨v, hv⟩ : ∃ v, x.natAbs = v := ⟨_, rfl⟩
            obtain ⟨y, hy⟩ : ∃ y, wt o k = y := ⟨_, rfl⟩
            have hlo := HO.out.lit k hlt
            unfold rowok.LitOk at hlo
            rw [hx, hy] at hlo
            rw [hx] at hcl
            obtain ⟨hx0, hx1, hx2, hy1, hy2⟩ := hlo
            have hvn : v < vs.length := by omega
            have eC := HO.out.eqC
            have eU := HO.out.eqU
            have hvU : v < uf.length := by omega
            have hvC : v < col.length := by omega
            obtain ⟨bv, ov, rfl, hcv⟩ := HE5.out.v.get v hvn
            obtain ⟨bu, ou, rfl, hcu⟩ := HE5.out.u.get v hvU
            obtain ⟨bc, oc, rfl, hcc⟩ := HE5.out.c.get v hvC
            obtain ⟨z, hz⟩ : ∃ z, vs.getD v 0 = z := ⟨_, rfl⟩
            obtain ⟨t, ht⟩ : ∃ t, uf.getD v false = t := ⟨_, rfl⟩
            obtain ⟨j, hj⟩ : ∃ j, col.getD v 0 = j := ⟨_, rfl⟩
            rw [hz] at hcv
            rw [ht] at hcu
            rw [hj] at hcc
            have E : Hid ((mkL vs col lits o).fx k = (z != 0) ∧ (mkL vs col lits o).tr k = (decide (0 < z) == decide (0 < x)) ∧ (mkL vs col lits o).ng k = decide (x < 0) ∧ (mkL vs col lits o).c k = j ∧ (mkL vs col lits o).w k = y ∧
                bad vs uf col lits k = (if z != 0 then (!(decide (0 < z) == decide (0 < x))) && t else decide (j < 0))) := by
              unfold mkL bad
              simp only [hx, hv, hz, ht, hj, hy]
              exact ⟨trivial, trivial, trivial, trivial, trivial, trivial⟩
            have HV : Hid ((x.natAbs : Int) = (v : Int)) := by show (x.natAbs : Int) = v; rw [hv]
            have HY : Hid (wt o k = y) := hy
            have HJT : Hid (j ≤ 65536) := hj ▸ HO.out.top v (by omega)
            clear hx hv hy hz ht hj eC eU
            go_wp2_with fail
            refine (absC x _ (by omega) (by omega)).mono ?_
            rintro e w6 ⟨rfl, h6⟩
            have h6 := h6.symm
            subst h6
            rw [HV.out]
            obtain ⟨E1, E2, E3, E4, E5, E6⟩ := E.out
            by_cases hz : z = 0
            · subst hz
              have E6 : bad vs uf col lits k = decide (j < 0) := by rw [E6]; rfl
              by_cases hj0 : j < 0
              · have HK : Hid (anyB (bad vs uf col lits) (k + 1) = true) := by show anyB (bad vs uf col lits) (k + 1) = true; simp only [anyB]; rw [E6]; simp [hj0]
                clear E1 E2 E3 E4 E5 E6
                go_wp2_with fail
                go_roundw
                case rel => exact ⟨k + 1, nd, by omega, by go_num, by rw [HK.out], rfl⟩
                case measure => simp [intOf]; omega
              · have HK : Hid (anyB (bad vs uf col lits) (k + 1) = A) := by show anyB (bad vs uf col lits) (k + 1) = A; simp only [anyB]; rw [E6, HA.out]; simp [hj0]
                clear E1 E2 E3 E4 E5 E6
                go_wp2_with fail
                go_roundw
                case rel => exact ⟨k + 1, nd, by omega, by go_num, by rw [HK.out], rfl⟩
                case measure => simp [intOf]; omega
            · have dz : (z != 0) = true := by simp [hz]
              rw [dz, if_pos rfl] at E6
              obtain ⟨bz, hbz⟩ : ∃ bz, decide (0 < z) = bz := ⟨_, rfl⟩
              obtain ⟨bx, hbx⟩ : ∃ bx, decide (0 < x) = bx := ⟨_, rfl⟩
              rw [hbz, hbx] at E6
              cases bz with
              | true =>
                cases bx with
                | true =>
                  have E6 : bad vs uf col lits k = false := by rw [E6]; rfl
                  have HK : Hid (anyB (bad vs uf col lits) (k + 1) = A) := by show anyB (bad vs uf col lits) (k + 1) = A; simp only [anyB]; rw [E6, HA.out]; simp
                  clear E1 E2 E3 E4 E5 E6
                  go_wp2_with fail
                  go_quiet (fail)
                  go_wp2_with fail
                  go_roundw
                  case rel => exact ⟨k + 1, _, by omega, by go_num, by rw [HK.out], rfl⟩
                  case measure => simp [intOf]; omega
                | false =>
                  have E6 : bad vs uf col lits k = t := by rw [E6]; rfl
                  cases t with
                  | true =>
                    have HK : Hid (anyB (bad vs uf col lits) (k + 1) = true) := by show anyB (bad vs uf col lits) (k + 1) = true; simp only [anyB]; rw [E6]; simp
                    clear E1 E2 E3 E4 E5 E6
                    go_wp2_with fail
                    go_quiet (fail)
                    go_wp2_with fail
                    go_roundw
                    case rel => exact ⟨k + 1, _, by omega, by go_num, by rw [HK.out], rfl⟩
                    case measure => simp [intOf]; omega
                  | false =>
                    have HK : Hid (anyB (bad vs uf col lits) (k + 1) = A) := by show anyB (bad vs uf col lits) (k + 1) = A; simp only [anyB]; rw [E6, HA.out]; simp
                    clear E1 E2 E3 E4 E5 E6
                    go_wp2_with fail
                    go_quiet (fail)
                    go_wp2_with fail
                    go_roundw
                    case rel => exact ⟨k + 1, _, by omega, by go_num, by rw [HK.out], rfl⟩
                    case measure => simp [intOf]; omega
              | false =>
                cases bx with
                | true =>
                  have E6 : bad vs uf col lits k = t := by rw [E6]; rfl
                  cases t with
                  | true =>
                    have HK : Hid (anyB (bad vs uf col lits) (k + 1) = true) := by show anyB (bad vs uf col lits) (k + 1) = true; simp only [anyB]; rw [E6]; simp
                    clear E1 E2 E3 E4 E5 E6
                    go_wp2_with fail
                    go_quiet (fail)
                    go_wp2_with fail
                    go_roundw
                    case rel => exact ⟨k + 1, _, by omega, by go_num, by rw [HK.out], rfl⟩
                    case measure => simp [intOf]; omega
                  | false =>
                    have HK : Hid (anyB (bad vs uf col lits) (k + 1) = A) := by show anyB (bad vs uf col lits) (k + 1) = A; simp only [anyB]; rw [E6, HA.out]; simp
                    clear E1 E2 E3 E4 E5 E6
                    go_wp2_with fail
                    go_quiet (fail)
                    go_wp2_with fail
                    go_roundw
                    case rel => exact ⟨k + 1, _, by omega, by go_num, by rw [HK.out], rfl⟩
                    case measure => simp [intOf]; omega
                | false =>
                  have E6 : bad vs uf col lits k = false := by rw [E6]; rfl
                  have HK : Hid (anyB (bad vs uf col lits) (k + 1) = A) := by show anyB (bad vs uf col lits) (k + 1) = A; simp only [anyB]; rw [E6, HA.out]; simp
                  clear E1 E2 E3 E4 E5 E6
                  go_wp2_with fail
                  go_quiet (fail)
                  go_wp2_with fail
                  go_roundw
                  case rel => exact ⟨k + 1, _, by omega, by go_num, by rw [HK.out], rfl⟩
                  case measure => simp [intOf]; omega
          · obtain rfl : k = lits.length := by omega
            rcases HRes.out with ⟨rfl, hany, rfl, rfl, rfl⟩ | ⟨rfl, hany, hgood, cl, bs, hc1, hc2, e12, hG⟩
            · rw [hany]
              have hz0 : ((FloatKind.format .f64).order 0 0 == some .eq) = true := eq_rep zero_rep zero_rep
              clear hany HRes HE5
              go_wp2_with fail
              go_ret
              exact ⟨rfl, below_drewN HB5.out _⟩
            · have e12 := e12.symm
              subst e12
              rw [hany]
              have hbd : Below w5.heap.size w5 (w5.drewN nd) := below_drewN (Below.refl _ _) nd
              have HE6 : Hid (Env (w5.drewN nd) (.slice d0 vs.length f0) (.slice d1 uf.length f1) (.slice d2 col.length f2) (.slice a3 lits.length c3) (.slice a4 n4 c4) (.slice a6 ys.length c6) vs uf col lits o ys) := HE5.out.below hbd (Nat.le_refl _)
              have HG6 : Hid (row49.Good vs col lits o at0 (.slice g1 n1 k1) (.slice g2 n1 k2) lo cl bs (w5.drewN nd)) := hG.below hbd (Nat.le_refl _)
              have HB6 : Hid (Below w.heap.size w (w5.drewN nd)) := below_drewN HB5.out nd
              have HGood : Hid (∀ k, k < lits.length → bad vs uf col lits k = false) := hgood
              have HC1 : Hid (cl.length = n1) := hc1
              have HC2 : Hid (bs.length = n1) := hc2
              clear hbd hany hgood hc1 hc2 hG HRes HB5 HE5
              generalize w5.drewN nd = W at HE6 HG6 HB6 ⊢
              go_wp2_with fail
              refine (topC _ col _ HE6.out.c m2 (fun j hj => HO.out.top j (by rw [← HO.out.eqC]; exact hj))).mono ?_
              rintro e w6 ⟨tp, rfl, h6, htp⟩
              have h6 := h6.symm
              subst h6
              have htp0 := htp.1
              have htp1 := htp.2.1
              have HTop : Hid (∀ j, j < col.length → col.getD j 0 ≤ tp) := htp.2.2
              clear htp
              obtain ⟨T, rfl⟩ := Int.eq_ofNat_of_zero_le htp0
              go_wp2_with (at_make; refine wpList_make_full _ rfl _ _ 23 rfl W.heap.size 3 i3 (.int .i64 0) 1 Try.underlying23 hi3 z30 z31 .i64 .i64 _ _ (T + 1) rfl rfl (by omega) (by omega) (by rw [z32]; omega) (by unfold maxLen; omega) (Nat.le_refl _) ?_)
              intro w7 hown hgrow
              obtain ⟨hArr, hb7⟩ := arr_made (n := T + 1) (by rw [Nat.mul_one]; exact hown) hgrow
              obtain ⟨G, hG⟩ : ∃ G, W.heap.size = G := ⟨_, rfl⟩
              rw [hG] at hArr hb7 ⊢
              have HArr : Hid (Arr w7 G (List.replicate (T + 1) 0)) := hArr
              have HB7 : Hid (Below G W w7) := hb7
              have HGs : Hid (W.heap.size = G) := hG
              have HwG : Hid (w.heap.size ≤ G) := by show w.heap.size ≤ G; rw [← hG]; exact HB6.out.size
              clear hArr hb7 hown hgrow
              go_wp2_with fail
              clear hG
              go_loopw [25] (fun i wr => ∃ (k : Nat) (fl : List Int), k ≤ lits.length ∧ i = .int .i64 k ∧ Arr wr G fl ∧ fl.length = T + 1 ∧ IsFirst (mkL vs col lits o) k fl ∧ Below G W wr) (fun i _ => lits.length - (intOf i).toNat)
              case atStart => exact ⟨0, _, by omega, rfl, HArr.out, by simp, isFirst0 _ _, HB7.out⟩
              case round =>
                clear HArr HB7
                obtain ⟨k, fl, hk, rfl, hAr, hfl, hF, hB⟩ := hrel
                have HAr : Hid (Arr wr G fl) := hAr
                have HFl : Hid (fl.length = T + 1) := hfl
                have HF : Hid (IsFirst (mkL vs col lits o) k fl) := hF
                have HB : Hid (Below G W wr) := hB
                clear hAr hfl hF hB
                have HEr : Hid (Env wr (.slice d0 vs.length f0) (.slice d1 uf.length f1) (.slice d2 col.length f2) (.slice a3 lits.length c3) (.slice a4 n4 c4) (.slice a6 ys.length c6) vs uf col lits o ys) := HE6.out.below HB.out (by rw [HGs.out]; omega)
                by_cases hlt : k < lits.length
                · skip
                  obtain ⟨b, off, rfl, hcl⟩ := HEr.out.l.get k hlt
                  obtain ⟨x, hx⟩ : ∃ x, lits.getD k 0 = x := ⟨_, rfl⟩
                  obtain ⟨v, hv⟩ : ∃ v, x.natAbs = v := ⟨_, rfl⟩
                  obtain ⟨y, hy⟩ : ∃ y, wt o k = y := ⟨_, rfl⟩
                  have hlo := HO.out.lit k hlt
                  unfold rowok.LitOk at hlo
                  rw [hx, hy] at hlo
                  rw [hx] at hcl
                  obtain ⟨hx0, hx1, hx2, hy1, hy2⟩ := hlo
                  have hvn : v < vs.length := by omega
                  have eC := HO.out.eqC
                  have eU := HO.out.eqU
                  have hvU : v < uf.length := by omega
                  have hvC : v < col.length := by omega
                  obtain ⟨bv, ov, rfl, hcv⟩ := HEr.out.v.get v hvn
                  obtain ⟨bu, ou, rfl, hcu⟩ := HEr.out.u.get v hvU
                  obtain ⟨bc, oc, rfl, hcc⟩ := HEr.out.c.get v hvC
                  obtain ⟨z, hz⟩ : ∃ z, vs.getD v 0 = z := ⟨_, rfl⟩
                  obtain ⟨t, ht⟩ : ∃ t, uf.getD v false = t := ⟨_, rfl⟩
                  obtain ⟨j, hj⟩ : ∃ j, col.getD v 0 = j := ⟨_, rfl⟩
                  rw [hz] at hcv
                  rw [ht] at hcu
                  rw [hj] at hcc
                  have E : Hid ((mkL vs col lits o).fx k = (z != 0) ∧ (mkL vs col lits o).tr k = (decide (0 < z) == decide (0 < x)) ∧ (mkL vs col lits o).ng k = decide (x < 0) ∧ (mkL vs col lits o).c k = j ∧ (mkL vs col lits o).w k = y ∧
                      bad vs uf col lits k = (if z != 0 then (!(decide (0 < z) == decide (0 < x))) && t else decide (j < 0))) := by
                    unfold mkL bad
                    simp only [hx, hv, hz, ht, hj, hy]
                    exact ⟨trivial, trivial, trivial, trivial, trivial, trivial⟩
                  have HV : Hid ((x.natAbs : Int) = (v : Int)) := by show (x.natAbs : Int) = v; rw [hv]
                  have HY : Hid (wt o k = y) := hy
                  have HJT : Hid (j ≤ 65536) := hj ▸ HO.out.top v (by omega)
                  have HJ3 : Hid (j ≤ T) := by show j ≤ T; rw [← hj]; exact HTop.out v hvC
                  clear hx hv hy hz ht hj eC eU
                  have HJ2 : Hid (j ≤ T) := HJ3
                  go_wp2_with fail
                  refine (absC x _ (by omega) (by omega)).mono ?_
                  rintro e w6 ⟨rfl, h6⟩
                  have h6 := h6.symm
                  subst h6
                  rw [HV.out]
                  obtain ⟨E1, E2, E3, E4, E5, E6⟩ := E.out
                  by_cases hz : z = 0
                  · subst hz
                    have E1 : (mkL vs col lits o).fx k = false := by rw [E1]; rfl
                    have hjb : ¬ j < 0 := by
                      have := HGood.out k hlt
                      rw [E6] at this
                      simpa using this
                    obtain ⟨jn, rfl⟩ := Int.eq_ofNat_of_zero_le (a := j) (by omega)
                    have hjT : jn ≤ T := by have := HJ2.out; omega
                    have hjf : jn < fl.length := by rw [HFl.out]; omega
                    have hjc := HAr.out.cell jn hjf
                    have hjr := HAr.out.fr jn
                    obtain ⟨f, hf⟩ : ∃ f, fl.getD jn 0 = f := ⟨_, rfl⟩
                    rw [hf] at hjc
                    have hff := HF.out jn hjf
                    rw [hf] at hff
                    by_cases hf0 : f = 0
                    · subst hf0
                      have HF2 : Hid (IsFirst (mkL vs col lits o) (k + 1) (fl.set jn ((k : Int) + 1))) := HF.out.set E1 E4 (by omega) hjf
                      clear E1 E2 E3 E4 E5 E6 hf hff hjf
                      go_wp2_with fail
                      go_roundw
                      case rel => exact ⟨k + 1, fl.set jn ((k : Int) + 1), by omega, by go_num, HAr.out.set jn _, by rw [List.length_set]; exact HFl.out, HF2.out, HB.out.setCell (p := ⟨G, jn, none⟩) (Nat.le_refl _) _⟩
                      case measure => simp [intOf]; omega
                    · have df : (f == 0) = false := by simp [hf0]
                      have HF2 : Hid (IsFirst (mkL vs col lits o) (k + 1) fl) := HF.out.same (fun i => by
                        simp only [first]
                        rw [if_neg]
                        intro ⟨_, h2, h3⟩
                        rw [E4] at h2
                        subst h2
                        omega)
                      clear E1 E2 E3 E4 E5 E6 hf hff hjf
                      go_wp2_with fail
                      go_roundw
                      case rel => exact ⟨k + 1, fl, by omega, by go_num, HAr.out, HFl.out, HF2.out, HB.out⟩
                      case measure => simp [intOf]; omega
                  · have dz : (z == 0) = false := by simp [hz]
                    have E1 : (mkL vs col lits o).fx k = true := by rw [E1]; simp [hz]
                    have HF2 : Hid (IsFirst (mkL vs col lits o) (k + 1) fl) := HF.out.same (fun i => by simp only [first, E1]; simp)
                    clear E1 E2 E3 E4 E5 E6
                    go_wp2_with fail
                    go_roundw
                    case rel => exact ⟨k + 1, fl, by omega, by go_num, HAr.out, HFl.out, HF2.out, HB.out⟩
                    case measure => simp [intOf]; omega
                · obtain rfl : k = lits.length := by omega
                  have HGr : Hid (row49.Good vs col lits o at0 (.slice g1 n1 k1) (.slice g2 n1 k2) lo cl bs wr) := HG6.out.below HB.out (by rw [HGs.out]; omega)
                  obtain ⟨KK, hKK⟩ : ∃ K, keep (rowR (mkL vs col lits o) lits.length) = K := ⟨_, rfl⟩
                  have HKK : Hid (keep (rowR (mkL vs col lits o) lits.length) = KK) := hKK
                  have HKl : Hid (KK.length = n1) := by show KK.length = n1; rw [← HC1.out, HGr.out.2.2.1, hKK, List.length_map]
                  have HWb : Hid (∀ k, k < lits.length → ((mkL vs col lits o).w k).natAbs ≤ 34359738368) := fun k hk => by
                    have h := HO.out.lit k hk
                    unfold rowok.LitOk at h
                    show (wt o k).natAbs ≤ _
                    omega
                  have HMs : Hid (mass KK ≤ lits.length * 34359738368) := by
                    show mass KK ≤ _
                    rw [← hKK]
                    exact Nat.le_trans (mass_keep _) (mass_row _ _ _ HWb.out)
                  have hn17 : n1 ≤ 131072 := by have := HGr.out.2.2.2.2.2; rw [HC1.out] at this; omega
                  have HBV : Hid (Below G W wr) := HB.out
                  obtain ⟨V, hV⟩ : ∃ V, V = wr := ⟨_, rfl⟩
                  subst hV
                  clear hKK HB
                  go_wp2_with fail
                  go_loopw [27, 28, 29] (fun pv sl i wx => ∃ (k p s : Nat), k ≤ n1 ∧ i = .int .i64 k ∧ pv = .int .i64 p ∧ sl = .float .f64 s ∧ Rep s (sel (xv ys) (KK.take k)) ∧ (∀ i q, k ≤ i → KK[i]? = some q → p < first (mkL vs col lits o) lits.length q.1) ∧ wx = V) (fun _ _ i _ => n1 - (intOf i).toNat)
                  case atStart => exact ⟨0, 0, 0, by omega, rfl, rfl, rfl, by simpa [sel] using zero_rep, fun i q _ hq => by have := (kept_first (mkL vs col lits o) lits.length (i := i) (p := q) (by rw [HKK.out]; exact hq)).2; omega, rfl⟩
                  case round =>
                    obtain ⟨k, p, s, hk, rfl, rfl, rfl, hs, hp, hwx⟩ := hrel
                    have hwx := hwx.symm
                    subst hwx
                    have HS : Hid (Rep s (sel (xv ys) (KK.take k))) := hs
                    have HP : Hid (∀ i q, k ≤ i → KK[i]? = some q → p < first (mkL vs col lits o) lits.length q.1) := hp
                    clear hs hp
                    by_cases hlt : k < n1
                    · obtain ⟨⟨qj, qa⟩, hq⟩ : ∃ q, KK[k]? = some q := ⟨_, List.getElem?_eq_getElem (by rw [HKl.out]; exact hlt)⟩
                      have HQ : Hid (KK[k]? = some (qj, qa)) := hq
                      obtain ⟨hq2, hq1⟩ := kept_first (mkL vs col lits o) lits.length (i := k) (p := (qj, qa)) (by rw [HKK.out]; exact hq)
                      obtain ⟨i, hi, hfx, hci⟩ := first_mem _ _ _ hq1
                      have hli := HO.out.lit i hi
                      unfold rowok.LitOk at hli
                      have hqT : qj ≤ T := by
                        show qj ≤ (T : Int)
                        rw [← show (mkL vs col lits o).c i = qj from hci]
                        exact HTop.out _ (by rw [HO.out.eqC]; omega)
                      have hq0 : 0 ≤ qj := by
                        have h := HGood.out i hi
                        unfold bad at h
                        rw [show (vs.getD (lits.getD i 0).natAbs 0 != 0) = false from hfx] at h
                        rw [← show (mkL vs col lits o).c i = qj from hci]
                        simpa [mkL] using h
                      obtain ⟨jn, rfl⟩ := Int.eq_ofNat_of_zero_le hq0
                      have hjT : jn ≤ T := by omega
                      have hcl : cl[k]? = some (jn : Int) := by rw [HGr.out.2.2.1, HKK.out, List.getElem?_map, hq]; rfl
                      obtain ⟨x, hx⟩ : ∃ x, bs[k]? = some x := ⟨_, List.getElem?_eq_getElem (by rw [HC2.out]; exact hlt)⟩
                      have HX : Hid (Rep x qa) := HGr.out.2.2.2.1.2 k x qa hx (by rw [HKK.out, List.getElem?_map, hq]; rfl)
                      obtain ⟨bc1, oc1, rfl, hcc1⟩ := HGr.out.1.get k (by rw [HC1.out]; exact hlt)
                      obtain ⟨bf1, of1, xv1, rfl, hxv, hcf1⟩ := HGr.out.2.1.get k (by rw [List.length_map, HC2.out]; exact hlt)
                      rw [List.getElem?_map, hx] at hxv
                      have hxv : Value.float .f64 x = xv1 := by injection hxv
                      subst hxv
                      rw [show cl.getD k 0 = (jn : Int) by rw [List.getD_eq_getElem?_getD, hcl]; rfl] at hcc1
                      have hjf : jn < fl.length := by rw [HFl.out]; omega
                      have hjc := HAr.out.cell jn hjf
                      rw [HF.out jn hjf] at hjc
                      obtain ⟨f, hf⟩ : ∃ f, first (mkL vs col lits o) lits.length (jn : Int) = f := ⟨_, rfl⟩
                      have hpf := HP.out k (jn, qa) (Nat.le_refl _) hq
                      have hpf : p < f := by rw [← hf]; exact hpf
                      have HP2 : Hid (∀ i q, k + 1 ≤ i → KK[i]? = some q → f < first (mkL vs col lits o) lits.length q.1) := fun i q hi hqi => by
                        rw [← hf]
                        exact kept_ord (mkL vs col lits o) lits.length (i := k) (j := i) (p := (jn, qa)) (q := q) (by omega) (by rw [HKK.out]; exact hq) (by rw [HKK.out]; exact hqi)
                      rw [hf] at hjc
                      have hfn : f ≤ lits.length := by rw [← hf]; exact first_le _ _ _
                      have d : ((FloatKind.format .f64).order x 0 == some .eq) = false := by rw [eq_rep HX.out zero_rep]; simpa using hq2
                      have hst := sel_step (xv ys) hq
                      have hsb := sel_take (xv ys) KK (k + 1)
                      have hms := HMs.out
                      have HST : Hid (sel (xv ys) (KK.take (k + 1)) = sel (xv ys) (KK.take k) + (if xv ys (jn : Int) then qa else 0)) := hst
                      have HSB : Hid ((sel (xv ys) (KK.take (k + 1))).natAbs < 2 ^ 53) := by show (sel (xv ys) (KK.take (k + 1))).natAbs < 2 ^ 53; omega
                      clear hq hq1 hq2 hci hfx hli hi hqT hq0 hcl hx hf hst hsb hms hjf
                      go_wp2_with fail
                      refine (xC _ ys _ _ HEr.out.y).mono ?_
                      rintro e w6 ⟨rfl, h6⟩
                      have h6 := h6.symm
                      subst h6
                      cases hxy : xv ys (jn : Int) with
                      | false =>
                        have HS2 : Hid (Rep s (sel (xv ys) (KK.take (k + 1)))) := by have h := HST.out; rw [hxy] at h; show Rep s _; rw [h]; simpa using HS.out
                        clear hxy
                        go_wp2_with fail
                        go_roundw
                        case rel => exact ⟨k + 1, f, s, by omega, by go_num, rfl, rfl, HS2.out, HP2.out, trivial⟩
                        case measure => simp [intOf]; omega
                      | true =>
                        have hadd : ∃ r, floatBits .add .f64 s x = some r ∧ Rep r (sel (xv ys) (KK.take (k + 1))) := by
                          have h := HST.out
                          rw [hxy] at h
                          rw [h]
                          exact add_rep HS.out HX.out (by have hb := HSB.out; rw [h] at hb; exact hb)
                        obtain ⟨r, hadd, hr⟩ := hadd
                        have HS2 : Hid (Rep r (sel (xv ys) (KK.take (k + 1)))) := hr
                        have hrun := fun (w : World) => run_float_arith (P := Try.prog) (w := w) .add 69 .f64 _ _ _ hadd
                        clear hxy hr hadd
                        go_wp2_with fail
                        go_roundw
                        case rel => exact ⟨k + 1, f, r, by omega, by go_num, rfl, rfl, HS2.out, HP2.out, trivial⟩
                        case measure => simp [intOf]; omega
                    · obtain rfl : k = n1 := by omega
                      have HS3 : Hid (Rep s (sel (xv ys) (rowR (mkL vs col lits o) lits.length))) := by
                        have h := HS.out
                        rw [List.take_of_length_le (by rw [HKl.out]; exact Nat.le_refl _), ← HKK.out, sel_keep] at h
                        exact h
                      clear HS HP
                      go_wp2_with fail
                      go_loopw [31, 32] (fun vl i wx => ∃ (k nd : Nat), k ≤ lits.length ∧ i = .int .i64 k ∧ vl = .int .i64 (valK (mkL vs col lits o) (xv ys) k) ∧ wx = V.drewN nd) (fun _ i _ => lits.length - (intOf i).toNat)
                      case atStart => exact ⟨0, 0, by omega, rfl, rfl, rfl⟩
                      case round =>
                        obtain ⟨k, nd, hk, rfl, rfl, rfl⟩ := hrel
                        have hqb := val_row (mkL vs col lits o) (xv ys) 34359738368 k (fun i hi => HWb.out i (by omega))
                        obtain ⟨Q, hQ⟩ : ∃ Q, valK (mkL vs col lits o) (xv ys) k = Q := ⟨_, rfl⟩
                        have HQ : Hid (valK (mkL vs col lits o) (xv ys) k = Q) := hQ
                        rw [hQ] at hqb ⊢
                        have hQ1 : -4503599627370496 ≤ Q := by omega
                        have hQ2 : Q ≤ 4503599627370496 := by omega
                        clear hqb hQ
                        by_cases hlt : k < lits.length
                        · skip
                          obtain ⟨b, off, rfl, hcl⟩ := HEr.out.l.get k hlt
                          obtain ⟨x, hx⟩ : ∃ x, lits.getD k 0 = x := ⟨_, rfl⟩
                          obtain ⟨v, hv⟩ : ∃ v, x.natAbs = v := ⟨_, rfl⟩
                          obtain ⟨y, hy⟩ : ∃ y, wt o k = y := ⟨_, rfl⟩
                          have hlo := HO.out.lit k hlt
                          unfold rowok.LitOk at hlo
                          rw [hx, hy] at hlo
                          rw [hx] at hcl
                          obtain ⟨hx0, hx1, hx2, hy1, hy2⟩ := hlo
                          have hvn : v < vs.length := by omega
                          have eC := HO.out.eqC
                          have eU := HO.out.eqU
                          have hvU : v < uf.length := by omega
                          have hvC : v < col.length := by omega
                          obtain ⟨bv, ov, rfl, hcv⟩ := HEr.out.v.get v hvn
                          obtain ⟨bu, ou, rfl, hcu⟩ := HEr.out.u.get v hvU
                          obtain ⟨bc, oc, rfl, hcc⟩ := HEr.out.c.get v hvC
                          obtain ⟨z, hz⟩ : ∃ z, vs.getD v 0 = z := ⟨_, rfl⟩
                          obtain ⟨t, ht⟩ : ∃ t, uf.getD v false = t := ⟨_, rfl⟩
                          obtain ⟨j, hj⟩ : ∃ j, col.getD v 0 = j := ⟨_, rfl⟩
                          rw [hz] at hcv
                          rw [ht] at hcu
                          rw [hj] at hcc
                          have E : Hid ((mkL vs col lits o).fx k = (z != 0) ∧ (mkL vs col lits o).tr k = (decide (0 < z) == decide (0 < x)) ∧ (mkL vs col lits o).ng k = decide (x < 0) ∧ (mkL vs col lits o).c k = j ∧ (mkL vs col lits o).w k = y ∧
                              bad vs uf col lits k = (if z != 0 then (!(decide (0 < z) == decide (0 < x))) && t else decide (j < 0))) := by
                            unfold mkL bad
                            simp only [hx, hv, hz, ht, hj, hy]
                            exact ⟨trivial, trivial, trivial, trivial, trivial, trivial⟩
                          have HV : Hid ((x.natAbs : Int) = (v : Int)) := by show (x.natAbs : Int) = v; rw [hv]
                          have HY : Hid (wt o k = y) := hy
                          have HJT : Hid (j ≤ 65536) := hj ▸ HO.out.top v (by omega)
                          clear hx hv hy hz ht hj eC eU
                          go_wp2_with fail
                          refine (absC x _ (by omega) (by omega)).mono ?_
                          rintro e w6 ⟨rfl, h6⟩
                          have h6 := h6.symm
                          subst h6
                          rw [HV.out]
                          obtain ⟨E1, E2, E3, E4, E5, E6⟩ := E.out
                          obtain ⟨bx, hbx⟩ : ∃ bx, decide (0 < x) = bx := ⟨_, rfl⟩
                          rw [hbx] at E2
                          have E3 : (mkL vs col lits o).ng k = !bx := by
                            rw [E3, ← hbx]
                            by_cases h : x < 0
                            · simp [h]; omega
                            · simp [h]; omega
                          by_cases hz : z = 0
                          · subst hz
                            have E1 : (mkL vs col lits o).fx k = false := by rw [E1]; rfl
                            obtain ⟨bj, hbj⟩ : ∃ bj, xv ys j = bj := ⟨_, rfl⟩
                            have hyd : ∀ n, Calls Try.prog 18 #[.slice a6 ys.length c6, .int .i64 j] (V.drewN (nd + n)) fun e w' => e = .returned (.bool bj) ∧ ∃ m, w' = V.drewN (nd + m) := fun n => by
                              rw [← hbj]
                              exact (xC _ ys j _ (HEr.out.y.below (below_drewN (Below.refl _ _) (nd + n)) (Nat.le_refl _))).mono fun _ _ ⟨he, hm⟩ => ⟨he, n, hm⟩
                            have HYD : Hid (∀ n, Calls Try.prog 18 #[.slice a6 ys.length c6, .int .i64 j] (V.drewN (nd + n)) fun e w' => e = .returned (.bool bj) ∧ ∃ m, w' = V.drewN (nd + m)) := hyd
                            clear hyd
                            rw [← E4] at hbj
                            cases bx with
                            | true =>
                              cases bj with
                              | true =>
                                have HK : Hid (valK (mkL vs col lits o) (xv ys) (k + 1) = Q + y) := by show valK (mkL vs col lits o) (xv ys) (k + 1) = Q + y; simp only [valK, E1, E2, E3, hbj, E5, HQ.out]; simp
                                clear E1 E2 E3 E4 E5 E6 hbj
                                go_wp2_with fail
                                go_quiet (first | (go_at_call 18; exact HYD.out _))
                                go_wp2_with fail
                                refine (wC _ o k _ (HEr.out.wt.below (below_drewN (Below.refl _ _) _) (Nat.le_refl _)) (fun ws e => Nat.lt_of_lt_of_le hlt (HO.out.wlen ws e))).mono ?_
                                rintro e w7 ⟨rfl, h7⟩
                                have h7 := h7.symm
                                subst h7
                                rw [HY.out]
                                go_wp2_with fail
                                go_roundw
                                case rel => exact ⟨k + 1, _, by omega, by go_num, by rw [HK.out], rfl⟩
                                case measure => simp [intOf]; omega
                              | false =>
                                have HK : Hid (valK (mkL vs col lits o) (xv ys) (k + 1) = Q) := by show valK (mkL vs col lits o) (xv ys) (k + 1) = Q; simp only [valK, E1, E2, E3, hbj, E5, HQ.out]; simp
                                clear E1 E2 E3 E4 E5 E6 hbj
                                go_wp2_with fail
                                go_quiet (first | (go_at_call 18; exact HYD.out _))
                                go_wp2_with fail
                                go_roundw
                                case rel => exact ⟨k + 1, _, by omega, by go_num, by rw [HK.out], rfl⟩
                                case measure => simp [intOf]; omega
                            | false =>
                              cases bj with
                              | true =>
                                have HK : Hid (valK (mkL vs col lits o) (xv ys) (k + 1) = Q) := by show valK (mkL vs col lits o) (xv ys) (k + 1) = Q; simp only [valK, E1, E2, E3, hbj, E5, HQ.out]; simp
                                clear E1 E2 E3 E4 E5 E6 hbj
                                go_wp2_with fail
                                go_quiet (first | (go_at_call 18; exact HYD.out _))
                                go_wp2_with fail
                                go_roundw
                                case rel => exact ⟨k + 1, _, by omega, by go_num, by rw [HK.out], rfl⟩
                                case measure => simp [intOf]; omega
                              | false =>
                                have HK : Hid (valK (mkL vs col lits o) (xv ys) (k + 1) = Q + y) := by show valK (mkL vs col lits o) (xv ys) (k + 1) = Q + y; simp only [valK, E1, E2, E3, hbj, E5, HQ.out]; simp
                                clear E1 E2 E3 E4 E5 E6 hbj
                                go_wp2_with fail
                                go_quiet (first | (go_at_call 18; exact HYD.out _))
                                go_wp2_with fail
                                refine (wC _ o k _ (HEr.out.wt.below (below_drewN (Below.refl _ _) _) (Nat.le_refl _)) (fun ws e => Nat.lt_of_lt_of_le hlt (HO.out.wlen ws e))).mono ?_
                                rintro e w7 ⟨rfl, h7⟩
                                have h7 := h7.symm
                                subst h7
                                rw [HY.out]
                                go_wp2_with fail
                                go_roundw
                                case rel => exact ⟨k + 1, _, by omega, by go_num, by rw [HK.out], rfl⟩
                                case measure => simp [intOf]; omega
                          · have dz : (z != 0) = true := by simp [hz]
                            rw [dz] at E1
                            obtain ⟨bz, hbz⟩ : ∃ bz, decide (0 < z) = bz := ⟨_, rfl⟩
                            rw [hbz] at E2
                            cases bz with
                            | true =>
                              cases bx with
                              | true =>
                                have HK : Hid (valK (mkL vs col lits o) (xv ys) (k + 1) = Q + y) := by show valK (mkL vs col lits o) (xv ys) (k + 1) = Q + y; simp only [valK, E1, E2, E3, E4, E5, HQ.out]; simp
                                clear E1 E2 E3 E4 E5 E6
                                go_wp2_with fail
                                go_quiet (fail)
                                go_wp2_with fail
                                refine (wC _ o k _ (HEr.out.wt.below (below_drewN (Below.refl _ _) _) (Nat.le_refl _)) (fun ws e => Nat.lt_of_lt_of_le hlt (HO.out.wlen ws e))).mono ?_
                                rintro e w7 ⟨rfl, h7⟩
                                have h7 := h7.symm
                                subst h7
                                rw [HY.out]
                                go_wp2_with fail
                                go_roundw
                                case rel => exact ⟨k + 1, _, by omega, by go_num, by rw [HK.out], rfl⟩
                                case measure => simp [intOf]; omega
                              | false =>
                                have HK : Hid (valK (mkL vs col lits o) (xv ys) (k + 1) = Q) := by show valK (mkL vs col lits o) (xv ys) (k + 1) = Q; simp only [valK, E1, E2, E3, E4, E5, HQ.out]; simp
                                clear E1 E2 E3 E4 E5 E6
                                go_wp2_with fail
                                go_quiet (fail)
                                go_wp2_with fail
                                go_roundw
                                case rel => exact ⟨k + 1, _, by omega, by go_num, by rw [HK.out], rfl⟩
                                case measure => simp [intOf]; omega
                            | false =>
                              cases bx with
                              | true =>
                                have HK : Hid (valK (mkL vs col lits o) (xv ys) (k + 1) = Q) := by show valK (mkL vs col lits o) (xv ys) (k + 1) = Q; simp only [valK, E1, E2, E3, E4, E5, HQ.out]; simp
                                clear E1 E2 E3 E4 E5 E6
                                go_wp2_with fail
                                go_quiet (fail)
                                go_wp2_with fail
                                go_roundw
                                case rel => exact ⟨k + 1, _, by omega, by go_num, by rw [HK.out], rfl⟩
                                case measure => simp [intOf]; omega
                              | false =>
                                have HK : Hid (valK (mkL vs col lits o) (xv ys) (k + 1) = Q + y) := by show valK (mkL vs col lits o) (xv ys) (k + 1) = Q + y; simp only [valK, E1, E2, E3, E4, E5, HQ.out]; simp
                                clear E1 E2 E3 E4 E5 E6
                                go_wp2_with fail
                                go_quiet (fail)
                                go_wp2_with fail
                                refine (wC _ o k _ (HEr.out.wt.below (below_drewN (Below.refl _ _) _) (Nat.le_refl _)) (fun ws e => Nat.lt_of_lt_of_le hlt (HO.out.wlen ws e))).mono ?_
                                rintro e w7 ⟨rfl, h7⟩
                                have h7 := h7.symm
                                subst h7
                                rw [HY.out]
                                go_wp2_with fail
                                go_roundw
                                case rel => exact ⟨k + 1, _, by omega, by go_num, by rw [HK.out], rfl⟩
                                case measure => simp [intOf]; omega
                        · obtain rfl : k = lits.length := by omega
                          have hrl := row_law (mkL vs col lits o) (xv ys) at0 lits.length
                          rw [HQ.out] at hrl
                          have ha0 := HO.out.at0
                          have ha1 := HO.out.at1
                          obtain ⟨r, hsub, hr⟩ := sub_rep HS3.out HGr.out.2.2.2.2.1 (by rw [← hrl]; omega)
                          rw [← hrl] at hr
                          have d : ((FloatKind.format .f64).order (floatOfInt .f64 (Q - at0)) r == some .eq) = true := by
                            rw [eq_rep (ofInt_rep (Q - at0) (by omega)) hr]
                            simp
                          have hrun := fun (w : World) => run_float_arith (P := Try.prog) (w := w) .sub 69 .f64 _ _ _ hsub
                          clear hrl hr hsub
                          go_wp2_with fail
                          go_ret
                          exact ⟨rfl, below_drewN (HB6.out.trans (HBV.out.mono HwG.out)) _⟩
    · clear hr
      go_wp2_with fail
      go_ret
      exact ⟨rfl, Below.refl _ _⟩
end Go.Proofs.Qxb6600645a.main
