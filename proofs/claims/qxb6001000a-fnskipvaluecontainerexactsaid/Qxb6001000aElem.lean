/-
  The builder's method element, walked.
-/
import Derived.Test.Qxb6001000aMeth
import Derived.Deep.RegionWith
namespace Go.Proofs.Qxb6001000a.elem
open Go.ChangeShapes Go.WideShapes Go.ChangeAt Go.RowKit
open Go.Proofs.Qxb6001000a.base Go.Proofs.Qxb6001000a.own Go.Proofs.Qxb6001000a.own2 Go.Proofs.Qxb6001000a.plain Go.Proofs.Qxb6001000a.num Go.Proofs.Qxb6001000a.bld Go.Proofs.Qxb6001000a.meth

theorem cnt_cell {w : World} {g n cap : Nat} {cs : List Int} {c : Int} (h : OwnR 3 w (.slice (some ⟨g, 0, none⟩) n cap) ((cs ++ [c]).map (Value.int .i64))) (m : Nat) (hm : cs.length = m) : w.cell? ⟨g, m, none⟩ = some (.int .i64 c) := by
  subst hm
  rw [h.cell cs.length (by simp)]
  simp
theorem obj_cell {w : World} {g n cap : Nat} {os : List Bool} {o : Bool} (h : OwnR 4 w (.slice (some ⟨g, 0, none⟩) n cap) ((os ++ [o]).map Value.bool)) : w.cell? ⟨g, os.length, none⟩ = some (.bool o) := by
  rw [h.cell os.length (by simp)]
  simp
theorem set_last {cs : List Int} {c x : Int} (m : Nat) (hm : cs.length = m) : (cs ++ [c]).set m x = cs ++ [x] := by
  subst hm
  simp

theorem neutral58 : Neutral 58 := by refine ⟨?_, ?_, ?_, ?_, ?_⟩ <;> omega
theorem fullDrew {w : World} {b : Nat} {bv ov cv : Value} {sp : Bool} {key : Int} {B : List Int} {os : List Bool} {cs : List Int} (h : Full w b bv ov cv sp key B os cs) : Full w.drew b bv ov cv sp key B os cs :=
  ⟨h.bd, h.buf.same fun _ _ => rfl, h.obj.same fun _ _ => rfl, h.cnt.same fun _ _ => rfl, h.b1, h.b2, h.b3⟩

set_option maxRecDepth 100000 in
set_option maxHeartbeats 4000000 in
theorem element (b : Nat) (bv ov cv : Value) (sp : Bool) (key : Int) (B : List Int) (os : List Bool) (o : Bool) (cs : List Int) (c : Int) (w : World) (h : Full w b bv ov cv sp key B (os ++ [o]) (cs ++ [c])) (hl : B.length ≤ 17592186044416) (hol : os.length ≤ 4294967296) (hcl : cs.length = os.length)
    (hc0 : 0 ≤ c) (hc1 : c ≤ 4294967296) (hk0 : 0 ≤ key) (hk1 : key ≤ 4294967296) :
    Calls Try.prog 28 #[.pointer (some ⟨b, 0, none⟩)] w fun e w' => e = .returned (.tuple #[]) ∧ ∃ bv' ov' cv' key' ns, Full w' b bv' ov' cv' sp key' (B ++ ns) (os ++ [o]) (cs ++ [c + 1]) ∧ ns.length ≤ 40 ∧ (∀ d, Bal ns (d + 1) (d + 1)) ∧ (key' = key ∨ key' = key + 1) ∧ Below b w w' := by
  obtain ⟨a, n, cap, rfl⟩ := shape3 h.buf
  obtain ⟨go, co, eo, hco, hcom⟩ := h.obj.isSome (by simp)
  obtain ⟨gc, cc, ec, hcc, hccm⟩ := h.cnt.isSome (by simp)
  rw [show ((os ++ [o]).map Value.bool).length = os.length + 1 by simp] at eo hco
  rw [show ((cs ++ [c]).map (Value.int .i64)).length = os.length + 1 by simp [hcl]] at ec hcc
  subst eo ec
  have HCL : Hid (cs.length = os.length) := hcl
  clear hcl
  have c1 := h.bd.c1
  have c2 := h.bd.c2
  have cc0 := cnt_cell h.cnt os.length HCL.out
  by_cases hpos : 0 < c
  · have c0 := h.bd.c0
    have hown := h.buf
    go_enter Try.func28, Try.ntmps28
    go_wp2_with (at_builtin; refine wpList_app rfl (.tmp 21) (.tmp 22) rfl rfl _ B rfl (hown.alloc _) _ [44] rfl (isB_lit w [44] (by unfold maxLen; simp)) (by simp only [List.length_cons, List.length_nil]; omega) ?_)
    intro v2 w2 hown2 hext2
    replace hext2 := hext2.alloc
    have hm := h.mid0 hext2
    have d0 := hm.c0
    have df := hm.fr 0
    have R := h.step0 hext2 hown2
    obtain ⟨a2, n2, cap2, e2⟩ := shape3 hown2
    rw [e2]
    rw [e2] at R
    obtain ⟨R1, R2⟩ := R
    clear hown hown2 hext2 h hm e2 c0 c1 c2 cc0
    go_wp2_with fail
    refine (space b _ _ _ sp _ (B ++ [44]) _ _ _ R1 (by simp only [List.length_append, List.length_cons, List.length_nil]; omega)).mono ?_
    rintro e w3 ⟨rfl, bv3, ns, F3, hns, hneu, hb3⟩
    have hb := R2.trans hb3
    obtain ⟨na, hna⟩ : ∃ na, 44 :: ns = na := ⟨_, rfl⟩
    have hnal : na.length ≤ 3 := by rw [← hna]; simp only [List.length_cons]; omega
    have HNA : Hid (∀ d, Bal na (d + 1) (d + 1)) := by
      rw [← hna]
      intro d
      exact Bal.all (neutral_cons (by refine ⟨?_, ?_, ?_, ?_, ?_⟩ <;> omega) hneu) d
    rw [show B ++ [44] ++ ns = B ++ na by rw [← hna]; simp] at F3
    clear R1 R2 hb3 hneu d0 df hna hns
    obtain ⟨a3, n3, cap3, e3⟩ := shape3 F3.buf
    rw [e3] at F3
    clear e3
    have g1 := F3.bd.c1
    have g2 := F3.bd.c2
    have gcc := cnt_cell F3.cnt os.length HCL.out
    have gcf := F3.cnt.frozen os.length
    obtain ⟨F4, hb4⟩ := F3.setc os.length (c + 1)
    rw [set_last os.length HCL.out] at F4
    replace hb4 := hb.trans hb4
    clear F3 hb
    generalize hW : w3.setCell ⟨gc, os.length, none⟩ (.int .i64 (c + 1)) = W4 at *
    have i1 := F4.bd.c1
    have i0 := F4.bd.c0
    have io := obj_cell F4.obj
    cases o
    · go_wp2_with fail
      go_end0
      exact ⟨rfl, _, _, _, _, na, F4, by omega, HNA.out, .inl rfl, hb4⟩
    · have hown4 := F4.buf
      go_wp2_with (at_builtin; refine wpList_app rfl (.tmp 48) (.tmp 49) rfl rfl _ (B ++ na) rfl (hown4.alloc _) _ [34, 107] rfl (isB_lit W4 [34, 107] (by unfold maxLen; simp)) (by simp only [List.length_append, List.length_cons, List.length_nil]; omega) ?_)
      intro v5 w5 hown5 hext5
      replace hext5 := hext5.alloc
      have hm5 := F4.mid0 hext5
      have d0 := hm5.c0
      have df := hm5.fr 0
      have R := F4.step0 (B' := B ++ na ++ [34, 107]) hext5 (hown5.cast (by simp))
      obtain ⟨a5, n5, cap5, e5⟩ := shape3 hown5
      rw [e5]
      rw [e5] at R
      obtain ⟨F5, hb5⟩ := R
      replace hb5 := hb4.trans hb5
      clear hown4 hown5 hext5 F4 hm5 e5 hb4 i0 i1 io
      generalize hW5 : w5.setCell ⟨b, 0, none⟩ (.slice a5 n5 cap5) = W5 at *
      obtain ⟨B5, hB5⟩ : ∃ B5, B ++ na ++ [34, 107] = B5 := ⟨_, rfl⟩
      rw [hB5] at F5
      have hB5l : B5.length ≤ 17592186044416 + 5 := by rw [← hB5]; simp only [List.length_append, List.length_cons, List.length_nil]; omega
      have HB5 : Hid (B ++ na ++ [34, 107] = B5) := hB5
      clear hB5
      have F5d := fullDrew F5
      have j0 := F5.bd.c0
      have j4 := F5.bd.c4
      go_wp2_with fail
      go_region_with (go_at_call 34; refine (appUint _ B5 key _ F5d.buf hk0 (by omega) (by omega)).mono ?_; rintro e w7 ⟨v7, ds, rfl, hown7, hdl, hds, hext7⟩; have hm7 := F5d.mid0 hext7; have k0 := hm7.c0; have kf := hm7.fr 0; obtain ⟨a7, n7, cap7, e7⟩ := shape3 hown7; rw [e7])
      all_goals
        have R := F5d.step0 hext7 hown7
        rw [e7] at R
        obtain ⟨F7, hb7⟩ := R
        replace hb7 := hb5.trans (((Below.refl b W5).drew).trans hb7)
        have HDS : Hid (∀ c ∈ ds, 48 ≤ c ∧ c ≤ 57) := hds
        clear hown7 hext7 F5 F5d hm7 e7 hb5 j0 j4 hds
        generalize hW7 : w7.setCell ⟨b, 0, none⟩ (.slice a7 n7 cap7) = W7 at *
        have l0 := F7.bd.c0
        have hown7 := F7.buf
        go_wp2_with (at_builtin; refine wpList_app rfl (.tmp 69) (.tmp 70) rfl rfl _ (B5 ++ ds) rfl (hown7.alloc _) _ [34] rfl (isB_lit W7 [34] (by unfold maxLen; simp)) (by simp only [List.length_append, List.length_cons, List.length_nil]; omega) ?_)
        intro v8 w8 hown8 hext8
        replace hext8 := hext8.alloc
        have hm8 := F7.mid0 hext8
        have m0 := hm8.c0
        have mf := hm8.fr 0
        have R := F7.step0 (B' := B5 ++ ds ++ [34]) hext8 (hown8.cast (by simp))
        obtain ⟨a8, n8, cap8, e8⟩ := shape3 hown8
        rw [e8]
        rw [e8] at R
        obtain ⟨F8, hb8⟩ := R
        replace hb8 := hb7.trans hb8
        clear hown7 hown8 hext8 F7 hm8 e8 hb7 l0
        generalize hW8 : w8.setCell ⟨b, 0, none⟩ (.slice a8 n8 cap8) = W8 at *
        have m4 := F8.bd.c4
        have m4f := F8.bd.fr 4
        obtain ⟨F9, hb9⟩ := F8.setk (key + 1)
        replace hb9 := hb8.trans hb9
        clear F8 hb8
        go_wp2_with fail
        refine (space b _ _ _ sp _ (B5 ++ ds ++ [34]) _ _ _ F9 (by simp only [List.length_append, List.length_cons, List.length_nil]; omega)).mono ?_
        rintro e w10 ⟨rfl, bv10, s1, F10, hs1, hneu1, hb10⟩
        replace hb10 := hb9.trans hb10
        have HN1 : Hid (∀ c ∈ s1, Neutral c) := hneu1
        obtain ⟨a10, n10, cap10, e10⟩ := shape3 F10.buf
        rw [e10] at F10
        clear F9 hb9 hneu1 m4 m4f e10
        have p0 := F10.bd.c0
        have hown10 := F10.buf
        go_wp2_with (at_builtin; refine wpList_app rfl (.tmp 87) (.tmp 88) rfl rfl _ (B5 ++ ds ++ [34] ++ s1) rfl (hown10.alloc _) _ [58] rfl (isB_lit w10 [58] (by unfold maxLen; simp)) (by simp only [List.length_append, List.length_cons, List.length_nil]; omega) ?_)
        intro v11 w11 hown11 hext11
        replace hext11 := hext11.alloc
        have hm11 := F10.mid0 hext11
        have q0 := hm11.c0
        have qf := hm11.fr 0
        have R := F10.step0 (B' := B5 ++ ds ++ [34] ++ s1 ++ [58]) hext11 (hown11.cast (by simp))
        obtain ⟨a11, n11, cap11, e11⟩ := shape3 hown11
        rw [e11]
        rw [e11] at R
        obtain ⟨F11, hb11⟩ := R
        replace hb11 := hb10.trans hb11
        clear hown10 hown11 hext11 F10 hm11 e11 hb10 p0
        go_wp2_with fail
        refine (space b _ _ _ sp _ (B5 ++ ds ++ [34] ++ s1 ++ [58]) _ _ _ F11 (by simp only [List.length_append, List.length_cons, List.length_nil]; omega)).mono ?_
        rintro e w12 ⟨rfl, bv12, s2, F12, hs2, hneu2, hb12⟩
        replace hb12 := hb11.trans hb12
        have HN2 : Hid (∀ c ∈ s2, Neutral c) := hneu2
        clear F11 hb11 hneu2 q0 qf
        go_wp2_with fail
        go_end0
        exact ⟨rfl, _, _, _, _, na ++ ((34 :: ((107 :: ds) ++ [34])) ++ (s1 ++ ([58] ++ s2))), by rw [← HB5.out] at F12; simpa using F12, by simp only [List.length_append, List.length_cons, List.length_nil]; omega,
          fun d => (HNA.out d).append ((Bal.str (bodyP_key ds HDS.out) d).append ((Bal.all HN1.out d).append ((Bal.one neutral58 d).append (Bal.all HN2.out d)))), .inr rfl, hb12⟩
  · obtain ⟨na, hna⟩ : ∃ na : List Int, [] = na := ⟨_, rfl⟩
    have hnal : na.length ≤ 3 := by rw [← hna]; simp
    have HNA : Hid (∀ d, Bal na (d + 1) (d + 1)) := by
      rw [← hna]
      intro d
      exact Bal.nil _
    have F3 : Full w b (.slice a n cap) (.slice (some ⟨go, 0, none⟩) (os.length + 1) co) (.slice (some ⟨gc, 0, none⟩) (os.length + 1) cc) sp key (B ++ na) (os ++ [o]) (cs ++ [c]) := by rw [← hna]; simpa using h
    clear h hna
    have gcf := F3.cnt.frozen os.length
    obtain ⟨F4, hb4⟩ := F3.setc os.length (c + 1)
    rw [set_last os.length HCL.out] at F4
    clear F3
    generalize hW : w.setCell ⟨gc, os.length, none⟩ (.int .i64 (c + 1)) = W4 at *
    have i1 := F4.bd.c1
    have i0 := F4.bd.c0
    have io := obj_cell F4.obj
    cases o
    · go_enter Try.func28, Try.ntmps28
      go_wp2_with fail
      go_end0
      exact ⟨rfl, _, _, _, _, na, F4, by omega, HNA.out, .inl rfl, hb4⟩
    · have hown4 := F4.buf
      go_enter Try.func28, Try.ntmps28
      go_wp2_with (at_builtin; refine wpList_app rfl (.tmp 48) (.tmp 49) rfl rfl _ (B ++ na) rfl (hown4.alloc _) _ [34, 107] rfl (isB_lit W4 [34, 107] (by unfold maxLen; simp)) (by simp only [List.length_append, List.length_cons, List.length_nil]; omega) ?_)
      intro v5 w5 hown5 hext5
      replace hext5 := hext5.alloc
      have hm5 := F4.mid0 hext5
      have d0 := hm5.c0
      have df := hm5.fr 0
      have R := F4.step0 (B' := B ++ na ++ [34, 107]) hext5 (hown5.cast (by simp))
      obtain ⟨a5, n5, cap5, e5⟩ := shape3 hown5
      rw [e5]
      rw [e5] at R
      obtain ⟨F5, hb5⟩ := R
      replace hb5 := hb4.trans hb5
      clear hown4 hown5 hext5 F4 hm5 e5 hb4 i0 i1 io
      generalize hW5 : w5.setCell ⟨b, 0, none⟩ (.slice a5 n5 cap5) = W5 at *
      obtain ⟨B5, hB5⟩ : ∃ B5, B ++ na ++ [34, 107] = B5 := ⟨_, rfl⟩
      rw [hB5] at F5
      have hB5l : B5.length ≤ 17592186044416 + 5 := by rw [← hB5]; simp only [List.length_append, List.length_cons, List.length_nil]; omega
      have HB5 : Hid (B ++ na ++ [34, 107] = B5) := hB5
      clear hB5
      have F5d := fullDrew F5
      have j0 := F5.bd.c0
      have j4 := F5.bd.c4
      go_wp2_with fail
      go_region_with (go_at_call 34; refine (appUint _ B5 key _ F5d.buf hk0 (by omega) (by omega)).mono ?_; rintro e w7 ⟨v7, ds, rfl, hown7, hdl, hds, hext7⟩; have hm7 := F5d.mid0 hext7; have k0 := hm7.c0; have kf := hm7.fr 0; obtain ⟨a7, n7, cap7, e7⟩ := shape3 hown7; rw [e7])
      all_goals
        have R := F5d.step0 hext7 hown7
        rw [e7] at R
        obtain ⟨F7, hb7⟩ := R
        replace hb7 := hb5.trans (((Below.refl b W5).drew).trans hb7)
        have HDS : Hid (∀ c ∈ ds, 48 ≤ c ∧ c ≤ 57) := hds
        clear hown7 hext7 F5 F5d hm7 e7 hb5 j0 j4 hds
        generalize hW7 : w7.setCell ⟨b, 0, none⟩ (.slice a7 n7 cap7) = W7 at *
        have l0 := F7.bd.c0
        have hown7 := F7.buf
        go_wp2_with (at_builtin; refine wpList_app rfl (.tmp 69) (.tmp 70) rfl rfl _ (B5 ++ ds) rfl (hown7.alloc _) _ [34] rfl (isB_lit W7 [34] (by unfold maxLen; simp)) (by simp only [List.length_append, List.length_cons, List.length_nil]; omega) ?_)
        intro v8 w8 hown8 hext8
        replace hext8 := hext8.alloc
        have hm8 := F7.mid0 hext8
        have m0 := hm8.c0
        have mf := hm8.fr 0
        have R := F7.step0 (B' := B5 ++ ds ++ [34]) hext8 (hown8.cast (by simp))
        obtain ⟨a8, n8, cap8, e8⟩ := shape3 hown8
        rw [e8]
        rw [e8] at R
        obtain ⟨F8, hb8⟩ := R
        replace hb8 := hb7.trans hb8
        clear hown7 hown8 hext8 F7 hm8 e8 hb7 l0
        generalize hW8 : w8.setCell ⟨b, 0, none⟩ (.slice a8 n8 cap8) = W8 at *
        have m4 := F8.bd.c4
        have m4f := F8.bd.fr 4
        obtain ⟨F9, hb9⟩ := F8.setk (key + 1)
        replace hb9 := hb8.trans hb9
        clear F8 hb8
        go_wp2_with fail
        refine (space b _ _ _ sp _ (B5 ++ ds ++ [34]) _ _ _ F9 (by simp only [List.length_append, List.length_cons, List.length_nil]; omega)).mono ?_
        rintro e w10 ⟨rfl, bv10, s1, F10, hs1, hneu1, hb10⟩
        replace hb10 := hb9.trans hb10
        have HN1 : Hid (∀ c ∈ s1, Neutral c) := hneu1
        obtain ⟨a10, n10, cap10, e10⟩ := shape3 F10.buf
        rw [e10] at F10
        clear F9 hb9 hneu1 m4 m4f e10
        have p0 := F10.bd.c0
        have hown10 := F10.buf
        go_wp2_with (at_builtin; refine wpList_app rfl (.tmp 87) (.tmp 88) rfl rfl _ (B5 ++ ds ++ [34] ++ s1) rfl (hown10.alloc _) _ [58] rfl (isB_lit w10 [58] (by unfold maxLen; simp)) (by simp only [List.length_append, List.length_cons, List.length_nil]; omega) ?_)
        intro v11 w11 hown11 hext11
        replace hext11 := hext11.alloc
        have hm11 := F10.mid0 hext11
        have q0 := hm11.c0
        have qf := hm11.fr 0
        have R := F10.step0 (B' := B5 ++ ds ++ [34] ++ s1 ++ [58]) hext11 (hown11.cast (by simp))
        obtain ⟨a11, n11, cap11, e11⟩ := shape3 hown11
        rw [e11]
        rw [e11] at R
        obtain ⟨F11, hb11⟩ := R
        replace hb11 := hb10.trans hb11
        clear hown10 hown11 hext11 F10 hm11 e11 hb10 p0
        go_wp2_with fail
        refine (space b _ _ _ sp _ (B5 ++ ds ++ [34] ++ s1 ++ [58]) _ _ _ F11 (by simp only [List.length_append, List.length_cons, List.length_nil]; omega)).mono ?_
        rintro e w12 ⟨rfl, bv12, s2, F12, hs2, hneu2, hb12⟩
        replace hb12 := hb11.trans hb12
        have HN2 : Hid (∀ c ∈ s2, Neutral c) := hneu2
        clear F11 hb11 hneu2 q0 qf
        go_wp2_with fail
        go_end0
        exact ⟨rfl, _, _, _, _, na ++ ((34 :: ((107 :: ds) ++ [34])) ++ (s1 ++ ([58] ++ s2))), by rw [← HB5.out] at F12; simpa using F12, by simp only [List.length_append, List.length_cons, List.length_nil]; omega,
          fun d => (HNA.out d).append ((Bal.str (bodyP_key ds HDS.out) d).append ((Bal.all HN1.out d).append ((Bal.one neutral58 d).append (Bal.all HN2.out d)))), .inr rfl, hb12⟩
end Go.Proofs.Qxb6001000a.elem
