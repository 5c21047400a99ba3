/-
  The builder's methods space, open, close, element, walked.
-/
import Derived.Test.Qxb6001000aBld
namespace Go.Proofs.Qxb6001000a.meth
open Go.ChangeShapes Go.WideShapes Go.ChangeAt Go.RowKit
open Go.Proofs.Qxb6001000a.base Go.Proofs.Qxb6001000a.own Go.Proofs.Qxb6001000a.own2 Go.Proofs.Qxb6001000a.plain Go.Proofs.Qxb6001000a.num Go.Proofs.Qxb6001000a.bld

theorem shape3 {w : World} {v : Value} {bs : List Int} (h : Own w v bs) : ∃ a n cap, v = .slice a n cap := by
  obtain ⟨a, c, e⟩ := h.shape
  exact ⟨a, _, c, e⟩
theorem shape3R {e : TypeId} {w : World} {v : Value} {xs : List Value} (h : OwnR e w v xs) : ∃ a n cap, v = .slice a n cap := by
  obtain ⟨a, c, e⟩ := h.shape
  exact ⟨a, _, c, e⟩
theorem sp_neutral : ∀ c ∈ ([32, 10] : List Int), Neutral c := lit_neutral _ (by decide)
/-- the builder's state, what matters of it: its text B, n open containers, numbers up to M -/
def St (w : World) (b : Nat) (B : List Int) (os : List Bool) (sp : Bool) (M : Nat) : Prop :=
  ∃ bv ov cv key cs, Full w b bv ov cv sp key B os cs ∧ cs.length = os.length ∧ (∀ c ∈ cs, 0 ≤ c ∧ c ≤ (M : Int)) ∧ 0 ≤ key ∧ key ≤ (M : Int)

set_option maxRecDepth 100000 in
set_option maxHeartbeats 1000000 in
theorem space (b : Nat) (bv ov cv : Value) (sp : Bool) (key : Int) (B : List Int) (os : List Bool) (cs : List Int) (w : World) (h : Full w b bv ov cv sp key B os cs) (hl : B.length ≤ 70368744177664) :
    Calls Try.prog 33 #[.pointer (some ⟨b, 0, none⟩)] w fun e w' => e = .returned (.tuple #[]) ∧ ∃ bv' ns, Full w' b bv' ov cv sp key (B ++ ns) os cs ∧ ns.length ≤ 2 ∧ (∀ c ∈ ns, Neutral c) ∧ Below b w w' := by
  obtain ⟨a, cap, rfl⟩ := h.buf.shape
  have c0 := h.bd.c0
  have c3 := h.bd.c3
  cases sp
  · go_enter Try.func33, Try.ntmps33
    go_wp2_with fail
    go_end0
    exact ⟨rfl, _, [], by simpa using h, by simp, by simp, Below.refl _ _⟩
  · have hown := h.buf
    go_enter Try.func33, Try.ntmps33
    go_wp2_with (at_builtin; refine wpList_app rfl (.tmp 10) (.tmp 11) rfl rfl _ B rfl (hown.alloc _) _ [32, 10] rfl (isB_lit w [32, 10] (by unfold maxLen; simp)) (by simp only [List.length_cons, List.length_nil]; omega) ?_)
    intro v2 w2 hown2 hext2
    replace hext2 := hext2.alloc
    have hm := h.mid0 hext2
    have d0 := hm.c0
    have df := hm.fr 0
    have R := h.step0 hext2 hown2
    obtain ⟨a2, n2, cap2, e2⟩ := shape3 hown2
    rw [e2]
    rw [e2] at R
    clear hown hown2 hext2 h hm e2
    go_wp2_with fail
    go_end0
    exact ⟨rfl, _, [32, 10], R.1, by simp, sp_neutral, R.2⟩

set_option maxRecDepth 100000 in
set_option maxHeartbeats 2000000 in
theorem opn (b : Nat) (bv ov cv : Value) (sp : Bool) (key : Int) (B : List Int) (os : List Bool) (cs : List Int) (o : Bool) (w : World) (h : Full w b bv ov cv sp key B os cs) (hl : B.length ≤ 35184372088832) (hol : os.length ≤ 4294967296) (hcl : cs.length ≤ 4294967296) :
    Calls Try.prog 27 #[.pointer (some ⟨b, 0, none⟩), .bool o] w fun e w' => e = .returned (.tuple #[]) ∧ ∃ bv' ov' cv' c ns, Full w' b bv' ov' cv' sp key (B ++ (c :: ns)) (os ++ [o]) (cs ++ [0]) ∧ (c = 123 ∨ c = 91) ∧ ns.length ≤ 2 ∧ (∀ c ∈ ns, Neutral c) ∧ Below b w w' := by
  obtain ⟨i4, hi4, hz40, hz41, hz42⟩ := info_parts info4
  obtain ⟨i3, hi3, hz30, hz31, hz32⟩ := info_parts info3
  obtain ⟨a, n, cap, rfl⟩ := shape3 h.buf
  obtain ⟨ao, no, co, rfl⟩ := shape3R h.obj
  obtain ⟨ac, nc, cc, rfl⟩ := shape3R h.cnt
  have c0 := h.bd.c0
  have hown := h.buf
  cases o
  · go_enter Try.func27, Try.ntmps27
    go_wp2_with (at_builtin; refine wpList_app rfl (.tmp 18) (.tmp 19) rfl rfl _ B rfl (hown.alloc _) _ [91] rfl (isB_lit w [91] (by unfold maxLen; simp)) (by simp only [List.length_cons, List.length_nil]; omega) ?_)
    intro v2 w2 hown2 hext2
    replace hext2 := hext2.alloc
    have hm := h.mid0 hext2
    have d0 := hm.c0
    have df := hm.fr 0
    have R := h.step0 hext2 hown2
    obtain ⟨a2, n2, cap2, e2⟩ := shape3 hown2
    rw [e2]
    rw [e2] at R
    obtain ⟨R1, R2⟩ := R
    clear hown hown2 hext2 h hm e2 c0
    go_wp2_with fail
    refine (space b _ _ _ sp _ (B ++ [91]) os cs _ R1 (by simp only [List.length_append, List.length_cons, List.length_nil]; omega)).mono ?_
    rintro e w3 ⟨rfl, bv3, ns, F3, hns, hneu, hb3⟩
    have hb := R2.trans hb3
    have HNEU : Hid (∀ c ∈ ns, Neutral c) := hneu
    clear R1 R2 hb3 hneu d0 df
    have g1 := F3.bd.c1
    have hob := F3.obj
    go_wp2_with (at_builtin; refine wpList_one Try.underlying48 hi4 hz40 hz41 hz42 rfl rfl (.tmp 29) (.tmp 31) rfl _ (os.map Value.bool) rfl (ownR_alloc hob _) w3.heap.size (.bool false) rfl (by simp) rfl (by rw [List.length_map]; omega) (by rw [List.length_map]; omega) ?_)
    intro v4 w4 hown4 hext4
    replace hext4 := hext4.alloc
    have hm4 := F3.mid1 hext4
    have d1 := hm4.c1
    have df := hm4.fr 1
    have R := F3.step1 (os' := os ++ [false]) hext4 (by rw [List.map_append]; exact hown4)
    obtain ⟨a4, n4, cap4, e4⟩ := shape3R hown4
    rw [e4]
    rw [e4] at R
    obtain ⟨R1, R2⟩ := R
    have hbb := hb.trans R2
    clear hob hown4 hext4 F3 hm4 e4 g1 hb R2
    have g2 := R1.bd.c2
    have hct := R1.cnt
    generalize hW : w4.setCell ⟨b, 1, none⟩ (.slice a4 n4 cap4) = W4 at *
    go_wp2_with (at_builtin; refine wpList_one Try.underlying49 hi3 hz30 hz31 hz32 rfl rfl (.tmp 39) (.tmp 40) rfl _ (cs.map (Value.int .i64)) rfl (ownR_alloc hct _) W4.heap.size (.int .i64 0) rfl (by simp) rfl (by rw [List.length_map]; omega) (by rw [List.length_map]; omega) ?_)
    intro v6 w6 hown6 hext6
    replace hext6 := hext6.alloc
    have hm6 := R1.mid2 hext6
    have d2 := hm6.c2
    have df2 := hm6.fr 2
    have R := R1.step2 (cs' := cs ++ [0]) hext6 (by rw [List.map_append]; exact hown6)
    obtain ⟨a6, n6, cap6, e6⟩ := shape3R hown6
    rw [e6]
    rw [e6] at R
    obtain ⟨S1, S2⟩ := R
    have hbbb := hbb.trans S2
    clear hct hown6 hext6 R1 hm6 e6 g2 hbb S2 hW d1 df
    go_wp2_with fail
    go_end0
    exact ⟨rfl, _, _, _, 91, ns, by simpa using S1, .inr rfl, hns, HNEU.out, hbbb⟩
  · go_enter Try.func27, Try.ntmps27
    go_wp2_with (at_builtin; refine wpList_app rfl (.tmp 9) (.tmp 10) rfl rfl _ B rfl (hown.alloc _) _ [123] rfl (isB_lit w [123] (by unfold maxLen; simp)) (by simp only [List.length_cons, List.length_nil]; omega) ?_)
    intro v2 w2 hown2 hext2
    replace hext2 := hext2.alloc
    have hm := h.mid0 hext2
    have d0 := hm.c0
    have df := hm.fr 0
    have R := h.step0 hext2 hown2
    obtain ⟨a2, n2, cap2, e2⟩ := shape3 hown2
    rw [e2]
    rw [e2] at R
    obtain ⟨R1, R2⟩ := R
    clear hown hown2 hext2 h hm e2 c0
    go_wp2_with fail
    refine (space b _ _ _ sp _ (B ++ [123]) os cs _ R1 (by simp only [List.length_append, List.length_cons, List.length_nil]; omega)).mono ?_
    rintro e w3 ⟨rfl, bv3, ns, F3, hns, hneu, hb3⟩
    have hb := R2.trans hb3
    have HNEU : Hid (∀ c ∈ ns, Neutral c) := hneu
    clear R1 R2 hb3 hneu d0 df
    have g1 := F3.bd.c1
    have hob := F3.obj
    go_wp2_with (at_builtin; refine wpList_one Try.underlying48 hi4 hz40 hz41 hz42 rfl rfl (.tmp 29) (.tmp 31) rfl _ (os.map Value.bool) rfl (ownR_alloc hob _) w3.heap.size (.bool true) rfl (by simp) rfl (by rw [List.length_map]; omega) (by rw [List.length_map]; omega) ?_)
    intro v4 w4 hown4 hext4
    replace hext4 := hext4.alloc
    have hm4 := F3.mid1 hext4
    have d1 := hm4.c1
    have df := hm4.fr 1
    have R := F3.step1 (os' := os ++ [true]) hext4 (by rw [List.map_append]; exact hown4)
    obtain ⟨a4, n4, cap4, e4⟩ := shape3R hown4
    rw [e4]
    rw [e4] at R
    obtain ⟨R1, R2⟩ := R
    have hbb := hb.trans R2
    clear hob hown4 hext4 F3 hm4 e4 g1 hb R2
    have g2 := R1.bd.c2
    have hct := R1.cnt
    generalize hW : w4.setCell ⟨b, 1, none⟩ (.slice a4 n4 cap4) = W4 at *
    go_wp2_with (at_builtin; refine wpList_one Try.underlying49 hi3 hz30 hz31 hz32 rfl rfl (.tmp 39) (.tmp 40) rfl _ (cs.map (Value.int .i64)) rfl (ownR_alloc hct _) W4.heap.size (.int .i64 0) rfl (by simp) rfl (by rw [List.length_map]; omega) (by rw [List.length_map]; omega) ?_)
    intro v6 w6 hown6 hext6
    replace hext6 := hext6.alloc
    have hm6 := R1.mid2 hext6
    have d2 := hm6.c2
    have df2 := hm6.fr 2
    have R := R1.step2 (cs' := cs ++ [0]) hext6 (by rw [List.map_append]; exact hown6)
    obtain ⟨a6, n6, cap6, e6⟩ := shape3R hown6
    rw [e6]
    rw [e6] at R
    obtain ⟨S1, S2⟩ := R
    have hbbb := hbb.trans S2
    clear hct hown6 hext6 R1 hm6 e6 g2 hbb S2 hW d1 df
    go_wp2_with fail
    go_end0
    exact ⟨rfl, _, _, _, 123, ns, by simpa using S1, .inl rfl, hns, HNEU.out, hbbb⟩

set_option maxRecDepth 100000 in
set_option maxHeartbeats 2000000 in
theorem cls (b : Nat) (bv ov cv : Value) (sp : Bool) (key : Int) (B : List Int) (os : List Bool) (o : Bool) (cs : List Int) (c : Int) (w : World) (h : Full w b bv ov cv sp key B (os ++ [o]) (cs ++ [c])) (hl : B.length ≤ 35184372088832) (hol : os.length ≤ 4294967296) (hcl : cs.length = os.length) :
    Calls Try.prog 29 #[.pointer (some ⟨b, 0, none⟩)] w fun e w' => e = .returned (.tuple #[]) ∧ ∃ bv' ov' cv' ns c, Full w' b bv' ov' cv' sp key (B ++ (ns ++ [c])) os cs ∧ (c = 125 ∨ c = 93) ∧ ns.length ≤ 2 ∧ (∀ c ∈ ns, Neutral c) ∧ Below b w w' := by
  obtain ⟨a, n, cap, rfl⟩ := shape3 h.buf
  obtain ⟨go, co, eo, hco, hcom⟩ := h.obj.isSome (by simp)
  obtain ⟨gc, cc, ec, hcc, hccm⟩ := h.cnt.isSome (by simp)
  rw [show ((os ++ [o]).map Value.bool).length = os.length + 1 by simp] at eo hco
  rw [show ((cs ++ [c]).map (Value.int .i64)).length = os.length + 1 by simp [hcl]] at ec hcc
  subst eo ec
  have c1 := h.bd.c1
  cases o
  · go_enter Try.func29, Try.ntmps29
    go_wp2_with fail
    refine (space b _ _ _ sp _ B _ _ _ h (by omega)).mono ?_
    rintro e w3 ⟨rfl, bv3, ns, F3, hns, hneu, hb3⟩
    have HNEU : Hid (∀ c ∈ ns, Neutral c) := hneu
    clear h hneu c1
    obtain ⟨a3, n3, cap3, e3⟩ := shape3 F3.buf
    rw [e3] at F3
    clear e3
    have g0 := F3.bd.c0
    have g1 := F3.bd.c1
    have go1 := F3.obj.cell os.length (by simp)
    rw [show ((os ++ [false]).map Value.bool)[os.length]? = some (.bool false) by simp] at go1
    have hown := F3.buf
    go_wp2_with (at_builtin; refine wpList_app rfl (.tmp 31) (.tmp 32) rfl rfl _ (B ++ ns) rfl (hown.alloc _) _ [93] rfl (isB_lit w3 [93] (by unfold maxLen; simp)) (by simp only [List.length_append, List.length_cons, List.length_nil]; omega) ?_)
    intro v4 w4 hown4 hext4
    replace hext4 := hext4.alloc
    have hm4 := F3.mid0 hext4
    have d0 := hm4.c0
    have df := hm4.fr 0
    have R := F3.step0 hext4 hown4
    obtain ⟨a4, n4, cap4, e4⟩ := shape3 hown4
    rw [e4]
    rw [e4] at R
    obtain ⟨R1, R2⟩ := R
    have hb := hb3.trans R2
    clear hown hown4 hext4 F3 hm4 e4 g0 g1 go1 hb3 R2
    have g1 := R1.bd.c1
    have g1f := R1.bd.fr 1
    generalize hW : w4.setCell ⟨b, 0, none⟩ (.slice a4 n4 cap4) = W4 at *
    obtain ⟨P1, P2⟩ := R1.popo
    have hb2 := hb.trans P2
    have g2 := P1.bd.c2
    have g2f := P1.bd.fr 2
    clear R1 P2 hb
    generalize hW2 : W4.setCell ⟨b, 1, none⟩ (.slice (some ⟨go, 0, none⟩) os.length co) = W5 at *
    obtain ⟨Q1, Q2⟩ := P1.popc
    have hb4 := hb2.trans Q2
    clear P1 Q2 hb2
    rw [hcl] at Q1 hb4
    go_wp2_with fail
    go_end0
    exact ⟨rfl, _, _, _, ns, 93, by simpa [List.append_assoc] using Q1, .inr rfl, hns, HNEU.out, hb4⟩
  · go_enter Try.func29, Try.ntmps29
    go_wp2_with fail
    refine (space b _ _ _ sp _ B _ _ _ h (by omega)).mono ?_
    rintro e w3 ⟨rfl, bv3, ns, F3, hns, hneu, hb3⟩
    have HNEU : Hid (∀ c ∈ ns, Neutral c) := hneu
    clear h hneu c1
    obtain ⟨a3, n3, cap3, e3⟩ := shape3 F3.buf
    rw [e3] at F3
    clear e3
    have g0 := F3.bd.c0
    have g1 := F3.bd.c1
    have go1 := F3.obj.cell os.length (by simp)
    rw [show ((os ++ [true]).map Value.bool)[os.length]? = some (.bool true) by simp] at go1
    have hown := F3.buf
    go_wp2_with (at_builtin; refine wpList_app rfl (.tmp 22) (.tmp 23) rfl rfl _ (B ++ ns) rfl (hown.alloc _) _ [125] rfl (isB_lit w3 [125] (by unfold maxLen; simp)) (by simp only [List.length_append, List.length_cons, List.length_nil]; omega) ?_)
    intro v4 w4 hown4 hext4
    replace hext4 := hext4.alloc
    have hm4 := F3.mid0 hext4
    have d0 := hm4.c0
    have df := hm4.fr 0
    have R := F3.step0 hext4 hown4
    obtain ⟨a4, n4, cap4, e4⟩ := shape3 hown4
    rw [e4]
    rw [e4] at R
    obtain ⟨R1, R2⟩ := R
    have hb := hb3.trans R2
    clear hown hown4 hext4 F3 hm4 e4 g0 g1 go1 hb3 R2
    have g1 := R1.bd.c1
    have g1f := R1.bd.fr 1
    generalize hW : w4.setCell ⟨b, 0, none⟩ (.slice a4 n4 cap4) = W4 at *
    obtain ⟨P1, P2⟩ := R1.popo
    have hb2 := hb.trans P2
    have g2 := P1.bd.c2
    have g2f := P1.bd.fr 2
    clear R1 P2 hb
    generalize hW2 : W4.setCell ⟨b, 1, none⟩ (.slice (some ⟨go, 0, none⟩) os.length co) = W5 at *
    obtain ⟨Q1, Q2⟩ := P1.popc
    have hb4 := hb2.trans Q2
    clear P1 Q2 hb2
    rw [hcl] at Q1 hb4
    go_wp2_with fail
    go_end0
    exact ⟨rfl, _, _, _, ns, 125, by simpa [List.append_assoc] using Q1, .inl rfl, hns, HNEU.out, hb4⟩
end Go.Proofs.Qxb6001000a.meth
