/-
  (*reduced).row, walked.
-/
import Derived.Test.Qxb6600645aComp
import Derived.BigRegion
import Derived.Outline
namespace Go.Proofs.Qxb6600645a.rowa
open Go.ChangeShapes Go.WideShapes Go.ChangeAt Go.RowKit Go.Maps
open Go.Proofs.Qxb6600645a.base Go.Proofs.Qxb6600645a.own Go.Proofs.Qxb6600645a.top Go.Proofs.Qxb6600645a.flt Go.Proofs.Qxb6600645a.plain Go.Proofs.Qxb6600645a.mem Go.Proofs.Qxb6600645a.says Go.Proofs.Qxb6600645a.mem2 Go.Proofs.Qxb6600645a.comp
set_option linter.unusedVariables false

theorem wf64 {n : Int} (h0 : 0 ≤ n) (h1 : n ≤ 1048576) : (Lit.int .i64 n).wf = true := by
  simp only [Lit.wf, IntKind.min, IntKind.max, IntKind.signed, IntKind.bits, Bool.and_eq_true, decide_eq_true_eq, if_true]
  omega
theorem cell_new1 (w : World) (v : Value) (e : TypeId) : (w.alloc (.cells #[v] e)).cell? ⟨w.heap.size, 0, none⟩ = some v := by
  unfold World.cell?
  rw [heap_alloc_new]
  rfl
theorem own_cap {e : TypeId} {w : World} {a : Option Addr} {n cap : Nat} {xs : List Value} (h : OwnR e w (.slice a n cap) xs) : xs.length ≤ cap := by
  rcases h.2 with ⟨h1, h2⟩ | ⟨g, cap', cur, h1, _, _, h2, _⟩
  · omega
  · injection h1 with _ _ h1
    omega
theorem sl_take {e : TypeId} {w w' : World} {a : Option Addr} {n0 n cap : Nat} {xs : List Value} (h : OwnR e w (.slice a n0 cap) xs) (hn : n ≤ xs.length) (hs : ∀ k, (Value.slice a n0 cap).ownBlock = some k → w'.heap[k]? = w.heap[k]?) :
    Sl w' (.slice a n cap) (xs.take n) := by
  have h' := h.same hs
  have hl : (xs.take n).length = n := by rw [List.length_take]; omega
  rcases h.2 with ⟨h1, h2⟩ | ⟨g, cap', cur, h1, _, _, h2, _⟩
  · have h0 : n = 0 := by omega
    injection h1 with e1 _ e3
    subst e1
    subst e3
    subst h0
    exact ⟨none, 0, by rw [hl], fun _ => rfl, fun k hk => by rw [hl] at hk; omega⟩
  · injection h1 with e1 _ e3
    subst e1
    refine ⟨_, cap, by rw [hl], fun h => (by cases h), fun k hk => ⟨g, 0, rfl, h'.lt g rfl, ?_⟩⟩
    rw [hl] at hk
    rw [Nat.zero_add, h'.cell k (by omega), List.getElem?_take, if_pos hk]
theorem run_neg (b : Nat) (w : World) : (Op.unary UnOp.neg (.float .f64 b)).run Try.prog w = .ok (.float .f64 (Op.negFloat .f64 b)) w := rfl
/-- behind k literals -/
def Inv (w : World) (N rb : Nat) (lv wv vv uv cv : Value) (vs : List Int) (uf : List Bool) (col lits : List Int) (o : Option (List Int)) (at0 : Int) (k : Nat) (wr : World) : Prop :=
  ∃ cvv fvv lo cl bs D m, RM wr N rb lv wv at0 vv uv cv cvv fvv lo cl bs D m ∧ Says (mkL vs col lits o) at0 k cl bs lo D ∧ Below N w wr ∧ m ≤ k ∧ ∀ i, i < k → bad vs uf col lits i = false
/-- what row hands back -/
def Out (vs : List Int) (uf : List Bool) (col lits : List Int) (o : Option (List Int)) (at0 : Int) (w : World) (e : Ending) (w' : World) : Prop :=
  Below w.heap.size w w' ∧ ((∃ k, k < lits.length ∧ bad vs uf col lits k = true) ∧ e = .returned (.tuple #[.agg #[.slice none 0 0, .slice none 0 0, .float .f64 0], .bool false]) ∨
    (∀ k, k < lits.length → bad vs uf col lits k = false) ∧ ∃ cv fv lo cl bs, e = .returned (.tuple #[.agg #[cv, fv, .float .f64 lo], .bool true]) ∧ Nums w' cv .i64 cl ∧ Sl w' fv (bs.map (Value.float .f64)) ∧
      cl = (keep (rowR (mkL vs col lits o) lits.length)).map (·.1) ∧ Reps bs ((keep (rowR (mkL vs col lits o) lits.length)).map (·.2)) ∧ Rep lo (rowLo (mkL vs col lits o) at0 lits.length) ∧ cl.length ≤ lits.length)
set_option maxRecDepth 100000 in
set_option maxHeartbeats 8000000 in
theorem row1 (rb : Nat) (lv wv vv uv cv : Value) (vs : List Int) (uf : List Bool) (col lits : List Int) (o : Option (List Int)) (at0 : Int) (w : World) (hred : Red w rb vv uv cv)
    (hl : Nums w lv .i64 lits) (hw : WOk w wv o) (hv : Nums w vv .i8 vs) (hu : Bools w uv uf) (hc : Nums w cv .i64 col) (hok : rowok.Ok uf.length col lits o at0 vs.length) (h17 : lits.length ≤ 131072) (hn : vs.length ≤ 1048576) :
    Calls Try.prog 59 #[.pointer (some ⟨rb, 0, none⟩), .agg #[lv, wv, .int .i64 at0]] w (Out vs uf col lits o at0 w) := by
  obtain ⟨i3, hi3, z30, z31, z32⟩ := info_parts info3
  obtain ⟨i69, hi69, z690, z691, z692⟩ := info_parts info69
  have hun := run_neg
  have hmm := @run_makeMap Try.prog
  have hsf := fun (w : World) (a : Addr) (b : Nat) (m : Mode) => run_store Try.prog w a (.float .f64 b) m rfl
  obtain ⟨al, cl, rfl⟩ := hl.shape
  obtain ⟨av, capv, rfl⟩ := hv.shape
  obtain ⟨au, capu, rfl⟩ := hu.shape
  obtain ⟨ac, capc, rfl⟩ := hc.shape
  obtain ⟨aw, nw, cw, rfl⟩ : ∃ a n c, wv = .slice a n c := by
    cases o with
    | none => exact ⟨none, 0, 0, hw⟩
    | some ws => obtain ⟨_, x, n, c, e⟩ := hw; exact ⟨_, _, _, e⟩
  obtain ⟨N, hN⟩ : ∃ N, w.heap.size = N := ⟨_, rfl⟩
  have HI : Hid (Inv w N rb (.slice al lits.length cl) (.slice aw nw cw) (.slice av vs.length capv) (.slice au uf.length capu) (.slice ac col.length capc) vs uf col lits o at0 0
    ((((w.alloc (.cells #[.slice al lits.length cl, .slice aw nw cw, .int .i64 at0] 73)).alloc (.cells #[.slice none 0 0, .slice none 0 0, .float .f64 0] 91)).alloc (.cells #[.slice none 0 0, .slice none 0 0, .float .f64 (floatOfInt .f64 at0)] 91)).alloc (.map #[] 0))) := by
    rw [← hN]
    exact ⟨_, _, _, _, _, _, _, rm0 w rb _ _ _ _ _ at0 _ hred, says0 _ _ hok.at0 hok.at1, ((((Below.refl _ _).alloc (Nat.le_refl _) _).alloc (by simp) _).alloc (by simp; omega) _).alloc (by simp; omega) _, Nat.le_refl _, fun i hi => by omega⟩
  have HL : Hid (Nums w (.slice al lits.length cl) .i64 lits) := hl
  have HW : Hid (WOk w (.slice aw nw cw) o) := hw
  have HV : Hid (Nums w (.slice av vs.length capv) .i8 vs) := hv
  have HU : Hid (Bools w (.slice au uf.length capu) uf) := hu
  have HC : Hid (Nums w (.slice ac col.length capc) .i64 col) := hc
  have HO : Hid (rowok.Ok uf.length col lits o at0 vs.length) := hok
  have HN : Hid (w.heap.size = N) := hN
  clear hl hw hv hu hc hok hred
  go_enter Try.func59, Try.ntmps59
  go_wp2_with fail
  clear hN
  simp only [Nat.add_assoc, Nat.reduceAdd]
  go_loopw [25] (fun i wr => ∃ k : Nat, k ≤ lits.length ∧ i = .int .i64 k ∧ Inv w N rb (.slice al lits.length cl) (.slice aw nw cw) (.slice av vs.length capv) (.slice au uf.length capu) (.slice ac col.length capc) vs uf col lits o at0 k wr) (fun i _ => lits.length - (intOf i).toNat)
  case atStart => exact ⟨0, by omega, rfl, HI.out⟩
  case round =>
    clear HI
    obtain ⟨k, hk, rfl, hI⟩ := hrel
    have HI : Hid _ := hI
    clear hI
    by_cases hlt : k < lits.length
    · obtain ⟨cvv, fvv, lo, cl2, bs, D, m, hR, hS, hB, hmk, hbad⟩ := HI.out
      clear HI
      have hNl : w.heap.size ≤ N := by rw [HN.out]; omega
      obtain ⟨b, off, rfl, hcl⟩ := (HL.out.below hB hNl).get k hlt
      obtain ⟨x, hx⟩ : ∃ x, lits.getD k 0 = x := ⟨_, rfl⟩
      obtain ⟨v, hv⟩ : ∃ v, x.natAbs = v := ⟨_, rfl⟩
      obtain ⟨y, hy⟩ : ∃ y, wt o k = y := ⟨_, rfl⟩
      have hlo := HO.out.lit k hlt
      unfold rowok.LitOk at hlo
      rw [hx, hy] at hlo
      rw [hx] at hcl
      obtain ⟨hx0, hx1, hx2, hy1, hy2⟩ := hlo
      have hvn : v < vs.length := by omega
      have eC := HO.out.eqC
      have eU := HO.out.eqU
      have hvU : v < uf.length := by omega
      have hvC : v < col.length := by omega
      obtain ⟨bv, ov, rfl, hcv⟩ := (HV.out.below hB hNl).get v hvn
      obtain ⟨bu, ou, rfl, hcu⟩ := (HU.out.below hB hNl).get v (by omega)
      obtain ⟨bc, oc, rfl, hcc⟩ := (HC.out.below hB hNl).get v (by omega)
      obtain ⟨z, hz⟩ : ∃ z, vs.getD v 0 = z := ⟨_, rfl⟩
      obtain ⟨t, ht⟩ : ∃ t, uf.getD v false = t := ⟨_, rfl⟩
      obtain ⟨j, hj⟩ : ∃ j, col.getD v 0 = j := ⟨_, rfl⟩
      rw [hz] at hcv
      rw [ht] at hcu
      rw [hj] at hcc
      have E : Hid ((mkL vs col lits o).fx k = (z != 0) ∧ (mkL vs col lits o).tr k = (decide (0 < z) == decide (0 < x)) ∧ (mkL vs col lits o).ng k = decide (x < 0) ∧ (mkL vs col lits o).c k = j ∧ (mkL vs col lits o).w k = y ∧
          bad vs uf col lits k = (if z != 0 then (!(decide (0 < z) == decide (0 < x))) && t else decide (j < 0))) := by
        unfold mkL bad
        simp only [hx, hv, hz, ht, hj, hy]
        exact ⟨trivial, trivial, trivial, trivial, trivial, trivial⟩
      have HB : Hid (Below N w wr) := hB
      have HS : Hid (Says (mkL vs col lits o) at0 k cl2 bs lo D) := hS
      have HR : Hid (RM wr N rb (.slice (some ⟨b, off, none⟩) lits.length cl) (.slice aw nw cw) at0 (.slice (some ⟨bv, ov, none⟩) vs.length capv) (.slice (some ⟨bu, ou, none⟩) uf.length capu) (.slice (some ⟨bc, oc, none⟩) col.length capc) cvv fvv lo cl2 bs D m) := hR
      have HBad : Hid (∀ i, i < k → bad vs uf col lits i = false) := hbad
      have HY : Hid (wt o k = y) := hy
      have HJ : Hid (col.getD v 0 = j) := hj
      have HJT : Hid (j ≤ 65536) := hj ▸ HO.out.top v (by omega)
      have Hr := hR.red
      have hr0 := Hr.c0
      have hr1 := Hr.c1
      have hr3 := Hr.c3
      have hlo2 := hR.lin.c2
      have hfr2 := hR.lin.fr 2
      clear hS hbad hB Hr hx hz ht hj hy HL eC eU
      by_cases hneg : x < 0
      · obtain rfl : x = -(v : Int) := by omega
        clear hv
        go_wp2_with fail
        refine (weightC N _ _ at0 o k _ HR.out.cn (HW.out.below HB.out (by rw [HN.out]; omega)) (fun ws e => Nat.lt_of_lt_of_le hlt (HO.out.wlen ws e))).mono ?_
        rintro e w1 ⟨rfl, h1⟩
        have h1 := h1.symm
        subst h1
        rw [HY.out]
        by_cases hz : z = 0
        · subst hz
          obtain ⟨E1, E2, E3, E4, E5, E6⟩ := E.out
          have E1 : (mkL vs col lits o).fx k = false := by rw [E1]; rfl
          have E6 : bad vs uf col lits k = decide (j < 0) := by rw [E6]; rfl
          by_cases hj0 : j < 0
          · have HBK : Hid (bad vs uf col lits k = true) := by show bad vs uf col lits k = _; rw [E6]; simp [hj0]
            clear E1 E2 E3 E4 E5 E6
            have q0 := HR.out.res.c0
            have q1 := HR.out.res.c1
            have q2 := HR.out.res.c2
            have p0 := HR.out.res.fr 0
            have p1 := HR.out.res.fr 1
            have p2 := HR.out.res.fr 2
            have s0 := lin_self0 HR.out.res
            have s1 := lin_self1 HR.out.res
            have s2 := lin_self2 HR.out.res
            go_wp2_with fail
            refine bodyPost_ret (v := .tuple #[.agg #[.slice none 0 0, .slice none 0 0, .float .f64 0], .bool false]) (by simp [results, Try.results59, go_sem, q0, q1, q2]) rfl ?_
            exact ⟨by rw [HN.out]; exact HB.out, .inl ⟨⟨k, hlt, HBK.out⟩, rfl⟩⟩
          · have HBK : Hid (bad vs uf col lits k = false) := by show bad vs uf col lits k = _; rw [E6]; simp [hj0]
            have hadd0 := HS.out.newLo (by rw [E5]; omega) (by omega)
            obtain ⟨r, hadd, hlo1⟩ := hadd0
            rw [E5] at hadd
            have HLo : Hid (Rep r (if (mkL vs col lits o).ng k then rowLo (mkL vs col lits o) at0 k - (mkL vs col lits o).w k else rowLo (mkL vs col lits o) at0 k)) := by rw [E3, decide_eq_true hneg, if_pos rfl]; exact hlo1
            have HSw : Hid (Rep (Op.negFloat .f64 (floatOfInt .f64 y)) (if (mkL vs col lits o).ng k then - (mkL vs col lits o).w k else (mkL vs col lits o).w k)) := by rw [E3, decide_eq_true hneg, if_pos rfl, E5]; exact neg_rep (ofInt_rep y (by omega))
            obtain ⟨s, hs⟩ : ∃ s, Op.negFloat .f64 (floatOfInt .f64 y) = s := ⟨_, rfl⟩
            rw [hs] at HSw hadd
            have hrun := fun (w : World) => run_float_arith (P := Try.prog) (w := w) .add 69 .f64 _ _ _ hadd
            obtain ⟨W1, hW1⟩ : ∃ W, wr.setCell ⟨N + 2, 2, none⟩ (.float .f64 r) = W := ⟨_, rfl⟩
            have HR1 : Hid (RM W1 N rb (.slice (some ⟨b, off, none⟩) lits.length cl) (.slice aw nw cw) at0 (.slice (some ⟨bv, ov, none⟩) vs.length capv) (.slice (some ⟨bu, ou, none⟩) uf.length capu) (.slice (some ⟨bc, oc, none⟩) col.length capc) cvv fvv r cl2 bs D m) := by rw [← hW1]; exact (HR.out.setlo r).1
            have HB1 : Hid (Below N w W1) := by rw [← hW1]; exact HB.out.trans (HR.out.setlo r).2
            clear hlo1 hadd
            obtain ⟨b2, o2, e2, hcc1⟩ := (HC.out.below HB1.out (by rw [HN.out]; omega)).get v hvC
            cases e2
            rw [HJ.out] at hcc1
            have hr31 := HR1.out.red.c3
            have hmap := HR1.out.map
            have hjwf : (Lit.int .i64 j).wf = true := wf64 (by omega) (by have := HJT.out; omega)
            have HE : Hid ((mkL vs col lits o).fx k = false ∧ (mkL vs col lits o).c k = j ∧ (mkL vs col lits o).w k = y) := ⟨E1, E4, E5⟩
            clear E1 E2 E3 E4 E5 E6
            go_wp2_with (at_lookup; refine wpList_lookup_own_ok_int _ rfl _ _ 96 rfl 3 3 .i64 (int_keyed Try.underlying3) Try.underlying96 Try.underlying3 (zero3 _) (N + 3) m D rfl hmap _ _ rfl (keyOf_int_mk Try.underlying3 hjwf) ?_)
            intro c hat hwc
            have HCI := HS.out.mis
            by_cases hmem : j ∈ cl2
            · obtain ⟨p, hp⟩ := List.getElem?_of_mem hmem
              have hc0 := HCI.2 p j hp
              rw [hat] at hc0
              have hcp : c = (p : Int) := by injection hc0 with h; injection h
              subst hcp
              rw [(HCI.1 j).2 hmem]
              obtain ⟨x2, r2, hx2, hadd2, hS2⟩ := HS.out.hit HE.out.1 (p := p) (by rw [HE.out.2.1]; exact hp) rfl HSw.out HLo.out (by rw [HE.out.2.2]; omega) (by omega)
              have HS2 : Hid (Says (mkL vs col lits o) at0 (k + 1) cl2 (bs.set p r2) r D) := hS2
              have hpb : p < bs.length := (List.getElem?_eq_some_iff.1 hx2).1
              obtain ⟨g, cap2, hfv, _, _⟩ := HR1.out.coef.isSome (by simp; omega)
              rw [List.length_map] at hfv
              subst hfv
              have hf1 := HR1.out.lin.c1
              have hx3 : W1.cell? ⟨g, p, none⟩ = some (.float .f64 x2) := by rw [HR1.out.coef.cell p (by simp; omega), List.getElem?_map, hx2]; rfl
              have hx4 := HR1.out.coef.frozen p
              have hrun2 := fun (w : World) => run_float_arith (P := Try.prog) (w := w) .add 69 .f64 _ _ _ hadd2
              clear hc0 hat hwc HCI hp hmem hS2 hx2 hadd2
              go_wp2_with fail
              go_roundw
              case rel => exact ⟨k + 1, by omega, by go_num, _, _, _, _, _, _, _, (HR1.out.setf p r2).1, HS2.out, HB1.out.trans (HR1.out.setf p r2).2, by omega, upto HBad.out HBK.out⟩
              case measure => simp [intOf]; omega
            · have hh : Maps.has D (.int .i64 j) = false := by
                cases hh : Maps.has D (.int .i64 j)
                · rfl
                · exact absurd ((HCI.1 j).1 hh) hmem
              rw [hh]
              have HS2 : Hid (Says (mkL vs col lits o) at0 (k + 1) (cl2 ++ [j]) (bs ++ [s]) r (D.put (.int .i64 j) (.lit (.int .i64 (cl2.length : Int))))) := by
                have h := HS.out.miss HE.out.1 HR1.out.map.isMap (by rw [HE.out.2.1]; exact hmem) rfl HSw.out HLo.out (by rw [HE.out.2.2]; omega)
                rw [HE.out.2.1] at h
                exact h
              have hm0 : m < maxLen := by unfold maxLen; omega
              have HLen : Hid (cl2.length ≤ k) := HS.out.len
              have HLeb : Hid (bs.length ≤ k) := by show bs.length ≤ k; rw [HS.out.reps.1, List.length_map, ← List.length_map (f := (·.1)), ← HS.out.ecl]; exact HS.out.len
              obtain ⟨a2, cap2, hcv⟩ := HR1.out.cols.shape
              rw [List.length_map] at hcv
              subst hcv
              obtain ⟨a6, cap6, hfv⟩ := HR1.out.coef.shape
              rw [List.length_map] at hfv
              subst hfv
              have hf0 := HR1.out.lin.c0
              clear hat hwc hh HCI hmem
              go_wp2_with (at_mapUpdate; refine wpList_mapUpdate_own _ rfl _ _ _ 96 rfl 3 3 (int_keyed Try.underlying3) Try.underlying96 (plainElem Try.prog 3) (N + 3) m D rfl hmap hm0 _ _ (.int .i64 j) rfl rfl (keyOf_int_mk Try.underlying3 hjwf) (.lit (.int .i64 (cl2.length : Int))) [] (plainElem_int Try.underlying3 (wf64 (by omega) (by have := HLen.out; omega))) ?_)
              intro w2 hown2 hgrow2
              obtain ⟨hR2, hB2⟩ := HR1.out.stepm hown2 hgrow2
              have HR2 : Hid (RM w2 N rb (.slice (some ⟨b, off, none⟩) lits.length cl) (.slice aw nw cw) at0 (.slice (some ⟨bv, ov, none⟩) vs.length capv) (.slice (some ⟨bu, ou, none⟩) uf.length capu) (.slice (some ⟨bc, oc, none⟩) col.length capc) (.slice a2 cl2.length cap2) (.slice a6 bs.length cap6) r cl2 bs (D.put (.int .i64 j) (.lit (.int .i64 (cl2.length : Int)))) (m + 1)) := hR2
              have HB2 : Hid (Below N w w2) := HB1.out.trans hB2
              have hf2 := hR2.lin.c0
              clear hR2 hB2 hown2 hgrow2 hmap hf0 HR1
              go_wp2_with (at_builtin; refine wpList_one Try.underlying23 hi3 z30 z31 z32 rfl rfl _ _ rfl _ (cl2.map (Value.int .i64)) rfl (ownR_alloc HR2.out.cols _) w2.heap.size (.int .i64 j) rfl (cell_new1 _ _ _) rfl (by have := HLen.out; simp; omega) (by have := HLen.out; simp; omega) ?_)
              intro v3 w3 hown3 hext3
              have hown3' : OwnR 3 w3 v3 ((cl2 ++ [j]).map (Value.int .i64)) := by simpa using hown3
              obtain ⟨hR3, hB3⟩ := (rm_alloc HR2.out _).step0 hext3 hown3'
              have hl3 := (rm_alloc HR2.out _).mid0 hext3 hown3'
              obtain ⟨a3, cap3, hv3⟩ := hown3'.shape
              rw [show ((cl2 ++ [j]).map (Value.int .i64)).length = cl2.length + 1 by simp] at hv3
              subst hv3
              have hc31 := hl3.c1
              have hc3 := hl3.c0
              have hfr3 := hl3.fr 0
              have HB3 : Hid (Below N w _) := (HB2.out.alloc (by have := HR2.out.size; omega) _).trans hB3
              obtain ⟨W4, hW4⟩ : ∃ W, w3.setCell ⟨N + 2, 0, none⟩ (.slice a3 (cl2.length + 1) cap3) = W := ⟨_, rfl⟩
              rw [hW4] at hR3 HB3
              have HR3 := (show Hid _ from hR3)
              have hf4 := hR3.lin.c1
              clear hR3 hB3 hown3 hext3 hown3' hl3
              go_wp2_with (at_builtin; refine wpList_one Try.underlying68 hi69 z690 z691 z692 rfl rfl _ _ rfl _ (bs.map (Value.float .f64)) rfl (ownR_alloc HR3.out.coef _) W4.heap.size (.float .f64 s) rfl (cell_new1 _ _ _) rfl (by have := HLeb.out; simp; omega) (by have := HLeb.out; simp; omega) ?_)
              intro v5 w5 hown5 hext5
              have hown5' : OwnR 69 w5 v5 ((bs ++ [s]).map (Value.float .f64)) := by simpa using hown5
              obtain ⟨hR5, hB5⟩ := (rm_alloc HR3.out _).step1 hext5 hown5'
              have hl5 := (rm_alloc HR3.out _).mid1 hext5
              obtain ⟨a5, cap5, hv5⟩ := hown5'.shape
              rw [show ((bs ++ [s]).map (Value.float .f64)).length = bs.length + 1 by simp] at hv5
              subst hv5
              have hc5 := hl5.c1
              have hfr5 := hl5.fr 1
              have HB5 : Hid (Below N w _) := (HB3.out.alloc (by have := HR3.out.size; omega) _).trans hB5
              have HR5 := (show Hid _ from hR5)
              clear hR5 hB5 hown5 hext5 hown5' hl5
              go_wp2_with fail
              go_roundw
              case rel => exact ⟨k + 1, by omega, by go_num, _, _, _, _, _, _, _, HR5.out, HS2.out, HB5.out, by omega, upto HBad.out HBK.out⟩
              case measure => simp [intOf]; omega
        · have dv : decide ((v : Int) < 0) = false := by simp
          have dv0 : decide (0 < -(v : Int)) = false := by simp
          have dz : (z != 0) = true := by simp [hz]
          obtain ⟨E1, E2, E3, E4, E5, E6⟩ := E.out
          rw [dz] at E1 E6
          by_cases hz1 : z < 0
          · have dz1 : decide (0 < z) = false := by simp; omega
            have htr : (decide (0 < z) == decide (0 < -(v : Int))) = true := by rw [dz1, dv0]; rfl
            obtain ⟨r, hsub, hS1⟩ := HS.out.fixT E1 (by rw [E2]; simpa using htr) (by rw [E5]; omega) (by omega)
            rw [E5] at hsub
            have hbk : bad vs uf col lits k = false := by rw [E6]; simp at htr; simp [htr]
            have HS1 : Hid (Says (mkL vs col lits o) at0 (k + 1) cl2 bs r D) := hS1
            have HBK : Hid (bad vs uf col lits k = false) := hbk
            clear E1 E2 E3 E4 E5 E6 hS1 hbk
            have hrun := fun (w : World) => run_float_arith (P := Try.prog) (w := w) .sub 69 .f64 _ _ _ hsub
            go_wp2_with fail
            go_roundw
            case rel => exact ⟨k + 1, by omega, by go_num, _, _, _, _, _, _, _, (HR.out.setlo r).1, HS1.out, HB.out.trans (HR.out.setlo r).2, by omega, upto HBad.out HBK.out⟩
            case measure => simp [intOf]; omega
          · have dz1 : decide (0 < z) = true := by simp; omega
            have htr : (decide (0 < z) == decide (0 < -(v : Int))) = false := by rw [dz1, dv0]; rfl
            rw [htr] at E2 E6
            cases t with
            | false =>
              have HS1 : Hid (Says (mkL vs col lits o) at0 (k + 1) cl2 bs lo D) := HS.out.fixF E1 E2
              have HBK : Hid (bad vs uf col lits k = false) := E6
              clear E1 E2 E3 E4 E5 E6
              go_wp2_with fail
              go_roundw
              case rel => exact ⟨k + 1, by omega, by go_num, _, _, _, _, _, _, _, HR.out, HS1.out, HB.out, by omega, upto HBad.out HBK.out⟩
              case measure => simp [intOf]; omega
            | true =>
              have HBK : Hid (bad vs uf col lits k = true) := E6
              clear E1 E2 E3 E4 E5 E6
              have q0 := HR.out.res.c0
              have q1 := HR.out.res.c1
              have q2 := HR.out.res.c2
              have p0 := HR.out.res.fr 0
              have p1 := HR.out.res.fr 1
              have p2 := HR.out.res.fr 2
              have s0 := lin_self0 HR.out.res
              have s1 := lin_self1 HR.out.res
              have s2 := lin_self2 HR.out.res
              go_wp2_with fail
              refine bodyPost_ret (v := .tuple #[.agg #[.slice none 0 0, .slice none 0 0, .float .f64 0], .bool false]) (by simp [results, Try.results59, go_sem, q0, q1, q2]) rfl ?_
              exact ⟨by rw [HN.out]; exact HB.out, .inl ⟨⟨k, hlt, HBK.out⟩, rfl⟩⟩
      · obtain rfl : x = (v : Int) := by omega
        clear hv
        go_wp2_with fail
        refine (weightC N _ _ at0 o k _ HR.out.cn (HW.out.below HB.out (by rw [HN.out]; omega)) (fun ws e => Nat.lt_of_lt_of_le hlt (HO.out.wlen ws e))).mono ?_
        rintro e w1 ⟨rfl, h1⟩
        have h1 := h1.symm
        subst h1
        rw [HY.out]
        by_cases hz : z = 0
        · subst hz
          obtain ⟨E1, E2, E3, E4, E5, E6⟩ := E.out
          have E1 : (mkL vs col lits o).fx k = false := by rw [E1]; rfl
          have E6 : bad vs uf col lits k = decide (j < 0) := by rw [E6]; rfl
          by_cases hj0 : j < 0
          · have HBK : Hid (bad vs uf col lits k = true) := by show bad vs uf col lits k = _; rw [E6]; simp [hj0]
            clear E1 E2 E3 E4 E5 E6
            have q0 := HR.out.res.c0
            have q1 := HR.out.res.c1
            have q2 := HR.out.res.c2
            have p0 := HR.out.res.fr 0
            have p1 := HR.out.res.fr 1
            have p2 := HR.out.res.fr 2
            have s0 := lin_self0 HR.out.res
            have s1 := lin_self1 HR.out.res
            have s2 := lin_self2 HR.out.res
            go_wp2_with fail
            refine bodyPost_ret (v := .tuple #[.agg #[.slice none 0 0, .slice none 0 0, .float .f64 0], .bool false]) (by simp [results, Try.results59, go_sem, q0, q1, q2]) rfl ?_
            exact ⟨by rw [HN.out]; exact HB.out, .inl ⟨⟨k, hlt, HBK.out⟩, rfl⟩⟩
          · have HBK : Hid (bad vs uf col lits k = false) := by show bad vs uf col lits k = _; rw [E6]; simp [hj0]
            have HLo : Hid (Rep lo (if (mkL vs col lits o).ng k then rowLo (mkL vs col lits o) at0 k - (mkL vs col lits o).w k else rowLo (mkL vs col lits o) at0 k)) := by rw [E3, show decide ((v : Int) < 0) = false by simp]; exact HS.out.rlo
            have HSw : Hid (Rep (floatOfInt .f64 y) (if (mkL vs col lits o).ng k then - (mkL vs col lits o).w k else (mkL vs col lits o).w k)) := by rw [E3, show decide ((v : Int) < 0) = false by simp, E5]; exact ofInt_rep y (by omega)
            obtain ⟨s, hs⟩ : ∃ s, floatOfInt .f64 y = s := ⟨_, rfl⟩
            rw [hs] at HSw
            have HR1 := HR
            have HB1 := HB
            obtain ⟨b2, o2, e2, hcc1⟩ := (HC.out.below HB1.out (by rw [HN.out]; omega)).get v hvC
            cases e2
            rw [HJ.out] at hcc1
            have hr31 := HR1.out.red.c3
            have hmap := HR1.out.map
            have hjwf : (Lit.int .i64 j).wf = true := wf64 (by omega) (by have := HJT.out; omega)
            have HE : Hid ((mkL vs col lits o).fx k = false ∧ (mkL vs col lits o).c k = j ∧ (mkL vs col lits o).w k = y) := ⟨E1, E4, E5⟩
            clear E1 E2 E3 E4 E5 E6
            go_wp2_with (at_lookup; refine wpList_lookup_own_ok_int _ rfl _ _ 96 rfl 3 3 .i64 (int_keyed Try.underlying3) Try.underlying96 Try.underlying3 (zero3 _) (N + 3) m D rfl hmap _ _ rfl (keyOf_int_mk Try.underlying3 hjwf) ?_)
            intro c hat hwc
            have HCI := HS.out.mis
            by_cases hmem : j ∈ cl2
            · obtain ⟨p, hp⟩ := List.getElem?_of_mem hmem
              have hc0 := HCI.2 p j hp
              rw [hat] at hc0
              have hcp : c = (p : Int) := by injection hc0 with h; injection h
              subst hcp
              rw [(HCI.1 j).2 hmem]
              obtain ⟨x2, r2, hx2, hadd2, hS2⟩ := HS.out.hit HE.out.1 (p := p) (by rw [HE.out.2.1]; exact hp) rfl HSw.out HLo.out (by rw [HE.out.2.2]; omega) (by omega)
              have HS2 : Hid (Says (mkL vs col lits o) at0 (k + 1) cl2 (bs.set p r2) lo D) := hS2
              have hpb : p < bs.length := (List.getElem?_eq_some_iff.1 hx2).1
              obtain ⟨g, cap2, hfv, _, _⟩ := HR1.out.coef.isSome (by simp; omega)
              rw [List.length_map] at hfv
              subst hfv
              have hf1 := HR1.out.lin.c1
              have hx3 : wr.cell? ⟨g, p, none⟩ = some (.float .f64 x2) := by rw [HR1.out.coef.cell p (by simp; omega), List.getElem?_map, hx2]; rfl
              have hx4 := HR1.out.coef.frozen p
              have hrun2 := fun (w : World) => run_float_arith (P := Try.prog) (w := w) .add 69 .f64 _ _ _ hadd2
              clear hc0 hat hwc HCI hp hmem hS2 hx2 hadd2
              go_wp2_with fail
              go_roundw
              case rel => exact ⟨k + 1, by omega, by go_num, _, _, _, _, _, _, _, (HR1.out.setf p r2).1, HS2.out, HB1.out.trans (HR1.out.setf p r2).2, by omega, upto HBad.out HBK.out⟩
              case measure => simp [intOf]; omega
            · have hh : Maps.has D (.int .i64 j) = false := by
                cases hh : Maps.has D (.int .i64 j)
                · rfl
                · exact absurd ((HCI.1 j).1 hh) hmem
              rw [hh]
              have HS2 : Hid (Says (mkL vs col lits o) at0 (k + 1) (cl2 ++ [j]) (bs ++ [s]) lo (D.put (.int .i64 j) (.lit (.int .i64 (cl2.length : Int))))) := by
                have h := HS.out.miss HE.out.1 HR1.out.map.isMap (by rw [HE.out.2.1]; exact hmem) rfl HSw.out HLo.out (by rw [HE.out.2.2]; omega)
                rw [HE.out.2.1] at h
                exact h
              have hm0 : m < maxLen := by unfold maxLen; omega
              have HLen : Hid (cl2.length ≤ k) := HS.out.len
              have HLeb : Hid (bs.length ≤ k) := by show bs.length ≤ k; rw [HS.out.reps.1, List.length_map, ← List.length_map (f := (·.1)), ← HS.out.ecl]; exact HS.out.len
              obtain ⟨a2, cap2, hcv⟩ := HR1.out.cols.shape
              rw [List.length_map] at hcv
              subst hcv
              obtain ⟨a6, cap6, hfv⟩ := HR1.out.coef.shape
              rw [List.length_map] at hfv
              subst hfv
              have hf0 := HR1.out.lin.c0
              clear hat hwc hh HCI hmem
              go_wp2_with (at_mapUpdate; refine wpList_mapUpdate_own _ rfl _ _ _ 96 rfl 3 3 (int_keyed Try.underlying3) Try.underlying96 (plainElem Try.prog 3) (N + 3) m D rfl hmap hm0 _ _ (.int .i64 j) rfl rfl (keyOf_int_mk Try.underlying3 hjwf) (.lit (.int .i64 (cl2.length : Int))) [] (plainElem_int Try.underlying3 (wf64 (by omega) (by have := HLen.out; omega))) ?_)
              intro w2 hown2 hgrow2
              obtain ⟨hR2, hB2⟩ := HR1.out.stepm hown2 hgrow2
              have HR2 : Hid (RM w2 N rb (.slice (some ⟨b, off, none⟩) lits.length cl) (.slice aw nw cw) at0 (.slice (some ⟨bv, ov, none⟩) vs.length capv) (.slice (some ⟨bu, ou, none⟩) uf.length capu) (.slice (some ⟨bc, oc, none⟩) col.length capc) (.slice a2 cl2.length cap2) (.slice a6 bs.length cap6) lo cl2 bs (D.put (.int .i64 j) (.lit (.int .i64 (cl2.length : Int)))) (m + 1)) := hR2
              have HB2 : Hid (Below N w w2) := HB1.out.trans hB2
              have hf2 := hR2.lin.c0
              clear hR2 hB2 hown2 hgrow2 hmap hf0 HR1
              go_wp2_with (at_builtin; refine wpList_one Try.underlying23 hi3 z30 z31 z32 rfl rfl _ _ rfl _ (cl2.map (Value.int .i64)) rfl (ownR_alloc HR2.out.cols _) w2.heap.size (.int .i64 j) rfl (cell_new1 _ _ _) rfl (by have := HLen.out; simp; omega) (by have := HLen.out; simp; omega) ?_)
              intro v3 w3 hown3 hext3
              have hown3' : OwnR 3 w3 v3 ((cl2 ++ [j]).map (Value.int .i64)) := by simpa using hown3
              obtain ⟨hR3, hB3⟩ := (rm_alloc HR2.out _).step0 hext3 hown3'
              have hl3 := (rm_alloc HR2.out _).mid0 hext3 hown3'
              obtain ⟨a3, cap3, hv3⟩ := hown3'.shape
              rw [show ((cl2 ++ [j]).map (Value.int .i64)).length = cl2.length + 1 by simp] at hv3
              subst hv3
              have hc31 := hl3.c1
              have hc3 := hl3.c0
              have hfr3 := hl3.fr 0
              have HB3 : Hid (Below N w _) := (HB2.out.alloc (by have := HR2.out.size; omega) _).trans hB3
              obtain ⟨W4, hW4⟩ : ∃ W, w3.setCell ⟨N + 2, 0, none⟩ (.slice a3 (cl2.length + 1) cap3) = W := ⟨_, rfl⟩
              rw [hW4] at hR3 HB3
              have HR3 := (show Hid _ from hR3)
              have hf4 := hR3.lin.c1
              clear hR3 hB3 hown3 hext3 hown3' hl3
              go_wp2_with (at_builtin; refine wpList_one Try.underlying68 hi69 z690 z691 z692 rfl rfl _ _ rfl _ (bs.map (Value.float .f64)) rfl (ownR_alloc HR3.out.coef _) W4.heap.size (.float .f64 s) rfl (cell_new1 _ _ _) rfl (by have := HLeb.out; simp; omega) (by have := HLeb.out; simp; omega) ?_)
              intro v5 w5 hown5 hext5
              have hown5' : OwnR 69 w5 v5 ((bs ++ [s]).map (Value.float .f64)) := by simpa using hown5
              obtain ⟨hR5, hB5⟩ := (rm_alloc HR3.out _).step1 hext5 hown5'
              have hl5 := (rm_alloc HR3.out _).mid1 hext5
              obtain ⟨a5, cap5, hv5⟩ := hown5'.shape
              rw [show ((bs ++ [s]).map (Value.float .f64)).length = bs.length + 1 by simp] at hv5
              subst hv5
              have hc5 := hl5.c1
              have hfr5 := hl5.fr 1
              have HB5 : Hid (Below N w _) := (HB3.out.alloc (by have := HR3.out.size; omega) _).trans hB5
              have HR5 := (show Hid _ from hR5)
              clear hR5 hB5 hown5 hext5 hown5' hl5
              go_wp2_with fail
              go_roundw
              case rel => exact ⟨k + 1, by omega, by go_num, _, _, _, _, _, _, _, HR5.out, HS2.out, HB5.out, by omega, upto HBad.out HBK.out⟩
              case measure => simp [intOf]; omega
        · have dv : decide (0 < v) = true := by simp; omega
          have dv0 : decide (0 < (v : Int)) = true := by simp; omega
          have dz : (z != 0) = true := by simp [hz]
          obtain ⟨E1, E2, E3, E4, E5, E6⟩ := E.out
          rw [dz] at E1 E6
          by_cases hz1 : 0 < z
          · have dz1 : decide (0 < z) = true := by simp [hz1]
            have htr : (decide (0 < z) == decide (0 < (v : Int))) = true := by rw [dz1, dv0]; rfl
            obtain ⟨r, hsub, hS1⟩ := HS.out.fixT E1 (by rw [E2]; simpa using htr) (by rw [E5]; omega) (by omega)
            rw [E5] at hsub
            have hbk : bad vs uf col lits k = false := by rw [E6]; simp at htr; simp [htr]
            have HS1 : Hid (Says (mkL vs col lits o) at0 (k + 1) cl2 bs r D) := hS1
            have HBK : Hid (bad vs uf col lits k = false) := hbk
            clear E1 E2 E3 E4 E5 E6 hS1 hbk
            have hrun := fun (w : World) => run_float_arith (P := Try.prog) (w := w) .sub 69 .f64 _ _ _ hsub
            go_wp2_with fail
            go_roundw
            case rel => exact ⟨k + 1, by omega, by go_num, _, _, _, _, _, _, _, (HR.out.setlo r).1, HS1.out, HB.out.trans (HR.out.setlo r).2, by omega, upto HBad.out HBK.out⟩
            case measure => simp [intOf]; omega
          · have dz1 : decide (0 < z) = false := by simp; omega
            have htr : (decide (0 < z) == decide (0 < (v : Int))) = false := by rw [dz1, dv0]; rfl
            rw [htr] at E2 E6
            cases t with
            | false =>
              have HS1 : Hid (Says (mkL vs col lits o) at0 (k + 1) cl2 bs lo D) := HS.out.fixF E1 E2
              have HBK : Hid (bad vs uf col lits k = false) := E6
              clear E1 E2 E3 E4 E5 E6
              go_wp2_with fail
              go_roundw
              case rel => exact ⟨k + 1, by omega, by go_num, _, _, _, _, _, _, _, HR.out, HS1.out, HB.out, by omega, upto HBad.out HBK.out⟩
              case measure => simp [intOf]; omega
            | true =>
              have HBK : Hid (bad vs uf col lits k = true) := E6
              clear E1 E2 E3 E4 E5 E6
              have q0 := HR.out.res.c0
              have q1 := HR.out.res.c1
              have q2 := HR.out.res.c2
              have p0 := HR.out.res.fr 0
              have p1 := HR.out.res.fr 1
              have p2 := HR.out.res.fr 2
              have s0 := lin_self0 HR.out.res
              have s1 := lin_self1 HR.out.res
              have s2 := lin_self2 HR.out.res
              go_wp2_with fail
              refine bodyPost_ret (v := .tuple #[.agg #[.slice none 0 0, .slice none 0 0, .float .f64 0], .bool false]) (by simp [results, Try.results59, go_sem, q0, q1, q2]) rfl ?_
              exact ⟨by rw [HN.out]; exact HB.out, .inl ⟨⟨k, hlt, HBK.out⟩, rfl⟩⟩
    · obtain rfl : k = lits.length := by omega
      obtain ⟨cvv, fvv, lo, cl2, bs, D, m, hR, hS, hB, hmk, hbad⟩ := HI.out
      clear HI
      obtain ⟨a2, cap2, hcv⟩ := hR.cols.shape
      rw [List.length_map] at hcv
      subst hcv
      obtain ⟨a6, cap6, hfv⟩ := hR.coef.shape
      rw [List.length_map] at hfv
      subst hfv
      have HS : Hid (Says (mkL vs col lits o) at0 lits.length cl2 bs lo D) := hS
      have HBad : Hid (∀ i, i < lits.length → bad vs uf col lits i = false) := hbad
      obtain ⟨R, hRR⟩ : ∃ R, rowR (mkL vs col lits o) lits.length = R := ⟨_, rfl⟩
      have HRR : Hid (rowR (mkL vs col lits o) lits.length = R) := hRR
      have HL2 : Hid (cl2.length = R.length) := by show cl2.length = _; rw [hS.ecl, hRR, List.length_map]
      have HL6 : Hid (bs.length = R.length) := by show bs.length = _; rw [hS.reps.1, hRR, List.length_map]
      have HC0 : Hid (Comp R 0 0 cl2 bs) := comp0 (by rw [hS.ecl, hRR]) (by rw [← hRR]; exact hS.reps)
      have HB : Hid (Below N w wr) := hB
      have HLen : Hid (cl2.length ≤ lits.length) := hS.len
      have hf0 := hR.lin.c0
      have HR : Hid (RM wr N rb (.slice al lits.length cl) (.slice aw nw cw) at0 (.slice av vs.length capv) (.slice au uf.length capu) (.slice ac col.length capc) (.slice a2 cl2.length cap2) (.slice a6 bs.length cap6) lo cl2 bs D m) := hR
      clear hR hS hB hbad hRR HL HV HU HC
      go_wp2_with fail
      go_loopw [15, 132] (fun q i wr => ∃ (k n : Nat) (cl' : List Int) (bs' : List Nat), k ≤ cl2.length ∧ i = .int .i64 k ∧ q = .int .i64 n ∧ RM wr N rb (.slice al lits.length cl) (.slice aw nw cw) at0 (.slice av vs.length capv) (.slice au uf.length capu) (.slice ac col.length capc) (.slice a2 cl2.length cap2) (.slice a6 bs.length cap6) lo cl' bs' D m ∧ Comp R k n cl' bs' ∧ Below N w wr) (fun _ i _ => cl2.length - (intOf i).toNat)
      case atStart => exact ⟨0, 0, cl2, bs, by omega, rfl, rfl, HR.out, HC0.out, HB.out⟩
      case round =>
        clear HR HB HC0 hf0
        obtain ⟨k, n, cl', bs', hk2, rfl, rfl, hR, hC, hB⟩ := hrel
        have HR : Hid (RM wr N rb (.slice al lits.length cl) (.slice aw nw cw) at0 (.slice av vs.length capv) (.slice au uf.length capu) (.slice ac col.length capc) (.slice a2 cl2.length cap2) (.slice a6 bs.length cap6) lo cl' bs' D m) := hR
        have HC2 : Hid (Comp R k n cl' bs') := hC
        have HB : Hid (Below N w wr) := hB
        have hk0 := hR.lin.c0
        have hk1 := hR.lin.c1
        by_cases hlt : k < cl2.length
        · have hkR : k < R.length := by rw [← HL2.out]; exact hlt
          obtain ⟨p, hp⟩ : ∃ p, R[k]? = some p := ⟨_, List.getElem?_eq_getElem hkR⟩
          have hcl' : cl'[k]? = some p.1 := by rw [hC.c' k (Nat.le_refl _), List.getElem?_map, hp]; rfl
          obtain ⟨x, hx⟩ : ∃ x, bs'[k]? = some x := ⟨_, List.getElem?_eq_getElem (by rw [hC.l2]; exact hkR)⟩
          have hrep : Rep x p.2 := hC.b' k x p.2 (Nat.le_refl _) hx (by rw [List.getElem?_map, hp]; rfl)
          obtain ⟨g1, c1, e1, i1, j1⟩ := hR.cols.isSome (by rw [List.length_map, hC.l1]; omega)
          obtain ⟨g2, c2, e2, i2, j2⟩ := hR.coef.isSome (by rw [List.length_map, hC.l2]; omega)
          injection e1 with e1 f1 f2
          injection e2 with e2 f3 f4
          clear f1 f2 f3 f4 i1 j1 i2 j2
          subst e1
          subst e2
          have hx1 : wr.cell? ⟨g1, k, none⟩ = some (.int .i64 p.1) := by rw [hR.cols.cell k (by rw [List.length_map, hC.l1]; exact hkR), List.getElem?_map, hcl']; rfl
          have hx2 : wr.cell? ⟨g2, k, none⟩ = some (.float .f64 x) := by rw [hR.coef.cell k (by rw [List.length_map, hC.l2]; exact hkR), List.getElem?_map, hx]; rfl
          have hk17 : k < 131072 := by have := HLen.out; omega
          have hxb : k < bs.length := by rw [HL6.out]; exact hkR
          have heq := eq_rep hrep zero_rep
          have HP : Hid (R[k]? = some p) := hp
          have HREP : Hid (Rep x p.2) := hrep
          have hle := hC.le
          clear hp hrep hcl' hx hR hC hB hkR
          by_cases h0 : p.2 = 0
          · have d : ((FloatKind.format .f64).order x 0 != some .eq) = false := by rw [bne, heq]; simp [h0]
            have H0 : Hid (p.2 = 0) := h0
            clear heq h0
            go_wp2_with fail
            go_roundw
            case rel => exact ⟨k + 1, n, cl', bs', by omega, by go_num, rfl, HR.out, HC2.out.skip HP.out H0.out, HB.out⟩
            case measure => simp [intOf]; omega
          · have d : ((FloatKind.format .f64).order x 0 != some .eq) = true := by rw [bne, heq]; simp [h0]
            have H0 : Hid (p.2 ≠ 0) := h0
            clear heq h0
            obtain ⟨z1, hz1⟩ : ∃ z, cl'[n]? = some z := ⟨_, List.getElem?_eq_getElem (by rw [HC2.out.l1, ← HL2.out]; omega)⟩
            obtain ⟨z2, hz2⟩ : ∃ z, bs'[n]? = some z := ⟨_, List.getElem?_eq_getElem (by rw [HC2.out.l2, ← HL2.out]; omega)⟩
            have hy1 : wr.cell? ⟨g1, n, none⟩ = some (.int .i64 z1) := by rw [HR.out.cols.cell n (by rw [List.length_map, HC2.out.l1, ← HL2.out]; omega), List.getElem?_map, hz1]; rfl
            have hy2 : wr.cell? ⟨g2, n, none⟩ = some (.float .f64 z2) := by rw [HR.out.coef.cell n (by rw [List.length_map, HC2.out.l2, ← HL2.out]; omega), List.getElem?_map, hz2]; rfl
            have hq1 := HR.out.cols.frozen n
            have hq2 := HR.out.coef.frozen n
            obtain ⟨W1, hW1⟩ : ∃ W, wr.setCell ⟨g1, n, none⟩ (.int .i64 p.1) = W := ⟨_, rfl⟩
            have HR1 : Hid (RM W1 N rb (.slice al lits.length cl) (.slice aw nw cw) at0 (.slice av vs.length capv) (.slice au uf.length capu) (.slice ac col.length capc) (.slice (some ⟨g1, 0, none⟩) cl2.length cap2) (.slice (some ⟨g2, 0, none⟩) bs.length cap6) lo (cl'.set n p.1) bs' D m) := by
              rw [← hW1]; exact (HR.out.setc n p.1).1
            have HB1 : Hid (Below N w W1) := by rw [← hW1]; exact HB.out.trans (HR.out.setc n p.1).2
            have a1 := HR1.out.lin.c1
            have a2 : W1.cell? ⟨g2, n, none⟩ = some (.float .f64 z2) := by rw [HR1.out.coef.cell n (by rw [List.length_map, HC2.out.l2, ← HL2.out]; omega), List.getElem?_map, hz2]; rfl
            have a3 := HR1.out.coef.frozen n
            have hnb : n < bs.length := by omega
            have hnc : n < cl2.length := by omega
            clear hz1 hz2
            go_wp2_with fail
            go_region
            go_wp2_with fail
            go_roundw
            case rel => exact ⟨k + 1, n + 1, cl'.set n p.1, bs'.set n x, by omega, by go_num, by go_num, (HR1.out.setf n x).1.drewN 1, HC2.out.take HP.out H0.out HREP.out, below_drewN (HB1.out.trans (HR1.out.setf n x).2) 1⟩
            case measure => simp [intOf]; omega
        · obtain rfl : k = cl2.length := by omega
          have hkl := HC2.out.le
          have hn3 : n ≤ cl'.length := by rw [HC2.out.l1, ← HL2.out]; exact hkl
          have hn4 : n ≤ bs'.length := by rw [HC2.out.l2, ← HL2.out]; exact hkl
          have hn1 : n ≤ cap2 := Nat.le_trans (by rw [List.length_map]; exact hn3) (own_cap hR.cols)
          have hn2 : n ≤ cap6 := Nat.le_trans (by rw [List.length_map]; exact hn4) (own_cap hR.coef)
          obtain ⟨W1, hW1⟩ : ∃ W, wr.setCell ⟨N + 2, 0, none⟩ (.slice a2 n cap2) = W := ⟨_, rfl⟩
          have hl1 : Lin W1 (N + 2) (.slice a2 n cap2) (.slice a6 bs.length cap6) lo := by rw [← hW1]; exact hR.lin.s0 _
          have b0 := hR.lin.fr 0
          have b1 := hR.lin.fr 1
          have b2 := hl1.c1
          have b3 := hl1.fr 1
          have b4 := hl1.c0
          obtain ⟨V, hV⟩ : ∃ V, (W1.setCell ⟨N + 2, 1, none⟩ (.slice a6 n cap6)).drew = V := ⟨_, rfl⟩
          have hlV : Lin V (N + 2) (.slice a2 n cap2) (.slice a6 n cap6) lo := by rw [← hV]; exact (hl1.s1 _).same rfl
          have hrV : Lin V (N + 1) (.slice none 0 0) (.slice none 0 0) 0 := by
            rw [← hV, ← hW1]
            exact hR.res.same ((set_other _ _ _ _ _ (by omega)).trans (set_other _ _ _ _ _ (by omega)))
          have HN2 : Hid (∀ j, j ≠ N + 2 → V.heap[j]? = wr.heap[j]?) := by
            intro j hj
            rw [← hV, ← hW1]
            exact (set_other _ _ _ _ _ hj).trans (set_other _ _ _ _ _ hj)
          have HBV : Hid (Below N w V) := by
            rw [← hV, ← hW1]
            exact below_drewN ((hB.setCell (p := ⟨N + 2, 0, none⟩) (by show N ≤ N + 2; omega) _).setCell (p := ⟨N + 2, 1, none⟩) (by show N ≤ N + 2; omega) _) 1
          have d0 := hlV.c0
          have d1 := hlV.c1
          have d2 := hlV.c2
          have f0 := hrV.c0
          have g0 := hrV.fr 0
          obtain ⟨V1, hV1⟩ : ∃ W, V.setCell ⟨N + 1, 0, none⟩ (.slice a2 n cap2) = W := ⟨_, rfl⟩
          have hr1 : Lin V1 (N + 1) (.slice a2 n cap2) (.slice none 0 0) 0 := by rw [← hV1]; exact hrV.s0 _
          have f1 := hr1.c1
          have g1 := hr1.fr 1
          obtain ⟨V2, hV2⟩ : ∃ W, V1.setCell ⟨N + 1, 1, none⟩ (.slice a6 n cap6) = W := ⟨_, rfl⟩
          have hr2 : Lin V2 (N + 1) (.slice a2 n cap2) (.slice a6 n cap6) 0 := by rw [← hV2]; exact hr1.s1 _
          have f2 := hr2.c2
          have g2 := hr2.fr 2
          obtain ⟨V3, hV3⟩ : ∃ W, V2.setCell ⟨N + 1, 2, none⟩ (.float .f64 lo) = W := ⟨_, rfl⟩
          have hr3 : Lin V3 (N + 1) (.slice a2 n cap2) (.slice a6 n cap6) lo := by rw [← hV3]; exact hr2.s2 _
          have k0 := hr3.c0
          have k1 := hr3.c1
          have k2 := hr3.c2
          have HNV : Hid (∀ j, j ≠ N + 1 → j ≠ N + 2 → V3.heap[j]? = wr.heap[j]?) := by
            intro j h1 h2
            rw [← hV3, set_other _ _ _ _ _ h1, ← hV2, set_other _ _ _ _ _ h1, ← hV1, set_other _ _ _ _ _ h1]
            exact HN2.out j h2
          have HB3 : Hid (Below N w V3) := by
            rw [← hV3, ← hV2, ← hV1]
            exact ((HBV.out.setCell (p := ⟨N + 1, 0, none⟩) (by show N ≤ N + 1; omega) _).setCell (p := ⟨N + 1, 1, none⟩) (by show N ≤ N + 1; omega) _).setCell (p := ⟨N + 1, 2, none⟩) (by show N ≤ N + 1; omega) _
          clear hR hC hB hl1 hlV hrV hr1 hr2 hr3 HN2
          go_wp2_with fail
          go_region
          go_wp2_with fail
          refine bodyPost_ret (v := .tuple #[.agg #[.slice a2 n cap2, .slice a6 n cap6, .float .f64 lo], .bool true]) (by simp [results, Try.results59, go_sem, k0, k1, k2]) rfl ?_
          have hR := HR.out
          refine ⟨by rw [HN.out]; exact HB3.out, .inr ⟨HBad.out, _, _, _, cl'.take n, bs'.take n, rfl, ?_, ?_, ?_, ?_, HS.out.rlo, ?_⟩⟩
          · unfold Nums
            rw [List.map_take]
            exact sl_take hR.cols (by rw [List.length_map]; exact hn3) fun j hj => HNV.out j (own_other hR.cols hR.res (by decide) j hj) (own_other hR.cols hR.lin (by decide) j hj)
          · rw [List.map_take]
            exact sl_take hR.coef (by rw [List.length_map]; exact hn4) fun j hj => HNV.out j (own_other hR.coef hR.res (by decide) j hj) (own_other hR.coef hR.lin (by decide) j hj)
          · rw [HRR.out]; exact HC2.out.cols HL2.out
          · rw [HRR.out]; exact HC2.out.coef HL2.out
          · have := HLen.out; rw [List.length_take]; omega
end Go.Proofs.Qxb6600645a.rowa
