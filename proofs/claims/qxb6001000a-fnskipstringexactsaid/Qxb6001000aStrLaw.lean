/-
  ZZSkipString and the law FnSkipStringExact, walked.
-/
import Derived.Test.Qxb6001000aEqual
import Derived.Test.Qxb6001000aSkipStr
namespace Go.Proofs.Qxb6001000a.strlaw
open Go.ChangeShapes Go.WideShapes Go.ChangeAt Go.RowKit
open Go.Proofs.Qxb6001000a.base Go.Proofs.Qxb6001000a.own Go.Proofs.Qxb6001000a.plain Go.Proofs.Qxb6001000a.quoted Go.Proofs.Qxb6001000a.equal Go.Proofs.Qxb6001000a.skipstr Go.Proofs.Qxb6001000a.space

theorem zzSkipStr (g cap n p last : Nat) (ys tl rest : List Int) (P : Bool) (w : World) (hB : Bytes w g 0 ys)
    (hn : ys.length = n) (hle : n ≤ cap) (hm : n ≤ 1099511627776) (hin : In ys tl P last (p + 1) true rest) :
    Calls Try.prog 16 #[.slice (some ⟨g, 0, none⟩) n cap, .int .i64 p] w fun e w' =>
      e = .returned (.tuple #[.slice (some ⟨g, p, none⟩) (last + 1 - p) (cap - p), .bool P, .int .i64 ((last : Int) + 1)]) ∧ Below w.heap.size w w' := by
  have hr := rd_alloc w (.slice (some ⟨g, 0, none⟩) n cap) p
  have hB1 := hB.below ((Below.refl _ _).alloc (Nat.le_refl _) (.cells #[.slice (some ⟨g, 0, none⟩) n cap, .int .i64 p] 43)) hB.1
  have hne : g ≠ w.heap.size := Nat.ne_of_lt hB.1
  have HN : Hid (ys.length = n) := hn
  clear hn hB
  go_enter Try.func16, Try.ntmps16
  go_wp2_with fail
  refine (skipStr w.heap.size g cap n p last ys tl rest P _ hr hB1 hne HN.out hle hm hin).mono ?_
  rintro e w' ⟨rfl, hr', hbut⟩
  have c1 := hr'.c1
  have hb := below_box hbut
  clear hr hr' hbut hB1 hin
  go_wp2_with fail
  go_quiet (fail)
  go_wp2_with fail
  go_ret3
  exact ⟨rfl, below_drewN hb _⟩

theorem Bytes.mid {w : World} {g : Nat} {A B C : List Int} (h : Bytes w g 0 (A ++ (B ++ C))) : Bytes w g A.length B := by
  refine ⟨h.1, fun k hk => ?_⟩
  have := h.cell0 (A.length + k) (by simp; omega)
  rw [this]
  simp [List.getD_eq_getElem?_getD, List.getElem?_append, hk, show ¬ A.length + k < A.length by omega]

theorem in_start (pre body tl : List Int) (P : Bool) (h : bodyP body = some P) : In (pre ++ (34 :: (body ++ [34]) ++ tl)) tl P (pre.length + 1 + body.length) (pre.length + 1) true body := by
  refine ⟨?_, rfl, P, h, by simp⟩
  unfold At
  rw [← List.drop_drop, List.drop_left]
  simp

set_option maxRecDepth 100000 in
set_option maxHeartbeats 2000000 in
theorem walk_in (a0 : Option Addr) (l0 c0 : Nat) (z0 : List Int) (s : ByteArray) (esc : Bool) (a3 : Option Addr) (l3 c3 : Nat) (z3 : List Int) (w : World) (hr0 : IsRow w a0 l0 c0 z0) (hr3 : IsRow w a3 l3 c3 z3)
    (h20 : l0 + s.size + l3 ≤ 1048576) :
    Calls Try.prog 6 #[.slice a0 l0 c0, .string s, .bool esc, .slice a3 l3 c3] w fun e w' => e = .returned (.bool true) ∧ Below w.heap.size w w' := by
  go_enter Try.func6, Try.ntmps6
  go_wp2_with fail
  refine (bytesOk _ _ _ _ _ _ _ _ _ h20).mono ?_
  rintro e w' ⟨rfl, rfl⟩
  go_wp2_with fail
  refine (clone a0 l0 c0 z0 _ hr0 (by omega)).mono ?_
  rintro e w1 ⟨pv, rfl, hpv, hb1⟩
  replace hr3 := hr3.below hb1
  go_wp2_with fail
  refine (clone a3 l3 c3 z3 _ hr3 (by omega)).mono ?_
  rintro e w2 ⟨tv, rfl, htv, hb2⟩
  replace hpv := hpv.below hb2 (Nat.le_refl _)
  obtain ⟨pre, hpre⟩ : ∃ pre, z0.take l0 = pre := ⟨_, rfl⟩
  obtain ⟨tl, htl⟩ : ∃ tl, z3.take l3 = tl := ⟨_, rfl⟩
  rw [hpre] at hpv
  rw [htl] at htv
  have hpl : pre.length ≤ l0 := by rw [← hpre]; exact List.length_take_le _ _
  have htll : tl.length ≤ l3 := by rw [← htl]; exact List.length_take_le _ _
  clear hpre htl hr0 hr3
  go_wp2_with fail
  refine (Go.Proofs.Qxb6001000a.quoted.quoted (.slice none 0 0) [] s esc _ (Own.nil _) (by omega) (by simp)).mono ?_
  rintro e w3 ⟨ev, rfl, hev, hx3⟩
  rw [List.nil_append] at hev
  replace hpv := IsB.ext hpv hx3 (.inl rfl)
  replace htv := IsB.ext htv hx3 (.inl rfl)
  have hb3 := hx3.below (Nat.le_refl _) (fun k h => by cases h)
  replace hev := hev.isB
  clear hx3
  have hql : (quote esc (sb s)).length ≤ 6 * s.size + 2 := by
    have := qbody_len esc (sb s)
    rw [sb_len] at this
    simp [quote]; omega
  have hbody : bodyP (qbody esc (sb s)) = some (plainS esc (sb s)) := bodyP_qbody esc (sb s) (sb_bd s)
  have HBODY : Hid (bodyP (qbody esc (sb s)) = some (plainS esc (sb s))) := hbody
  clear hbody
  obtain ⟨enc, henc⟩ : ∃ enc, quote esc (sb s) = enc := ⟨_, rfl⟩
  rw [henc] at hev hql
  have HENC : Hid (quote esc (sb s) = enc) := henc
  clear henc
  go_wp2_with (at_builtin; refine wpList_app rfl (.tmp 51) (.tmp 52) rfl rfl _ [] rfl (Own.nil _) pv pre rfl hpv (by simp only [List.length_nil]; omega) ?_)
  intro d1 w4 hd1 hx4
  try rw [List.nil_append] at hd1
  obtain ⟨a1, p1, e1⟩ := hd1.shape
  rw [e1]
  rw [e1] at hd1 hx4
  clear e1
  have hev0 := hev
  have htv0 := htv
  replace hev := IsB.ext hev hx4 (.inl rfl)
  replace htv := IsB.ext htv hx4 (.inl rfl)
  go_wp2_with (at_builtin; refine wpList_app rfl (.tmp 56) (.tmp 57) rfl rfl _ pre rfl hd1 ev enc rfl hev (by omega) ?_)
  intro d2 w5 hd2 hx5
  have hx35 := hx4.trans hx5
  obtain ⟨a2, p2, e2⟩ := hd2.shape
  rw [e2]
  rw [e2] at hd2 hx5 hx35
  clear e2
  replace htv := IsB.ext htv0 hx35 (.inl rfl)
  clear hx4 hx5
  go_wp2_with (at_builtin; refine wpList_app rfl (.tmp 61) (.tmp 62) rfl rfl _ (pre ++ enc) rfl hd2 tv tl rfl htv (by rw [List.length_append]; omega) ?_)
  intro d3 w6 hd3 hx6
  try rw [List.length_append] at hx35
  have hx36 := hx35.trans hx6
  have hev6 := IsB.ext hev0 hx36 (.inl rfl)
  have hb6 := hx36.below (Nat.le_refl _) (fun k h => by cases h)
  have hbAll : Below w'.heap.size w' w6 := ((hb1.trans (hb2.mono hb1.size)).trans (hb3.mono (Nat.le_trans hb1.size hb2.size))).trans (hb6.mono (Nat.le_trans hb1.size (Nat.le_trans hb2.size hb3.size)))
  clear hx35 hx6 hx36 hb1 hb2 hb3 hb6 hev htv htv0 hev0 hpv hd1 hd2
  replace hd3 := Own.cast (cs := pre ++ (enc ++ tl)) hd3 (by simp)
  obtain ⟨body, hbod⟩ : ∃ body, qbody esc (sb s) = body := ⟨_, rfl⟩
  obtain ⟨P, hP⟩ : ∃ P, plainS esc (sb s) = P := ⟨_, rfl⟩
  have HP : Hid (plainS esc (sb s) = P) := hP
  have henc2 : enc = 34 :: (body ++ [34]) := by rw [← HENC.out, quote, hbod]
  have hinn : In (pre ++ (enc ++ tl)) tl P (pre.length + 1 + body.length) (pre.length + 1) true body := by
    rw [henc2]
    exact in_start pre body tl P (by rw [← hbod, HBODY.out, hP])
  have hel : enc.length = body.length + 2 := by rw [henc2]; simp
  have hplain : P = true → body = sb s := by
    intro h
    rw [← hbod]
    exact qbody_plain esc (sb s) (by rw [hP, h])
  have HPL : Hid (P = true → body = sb s) := hplain
  have HEB : Hid (enc = 34 :: (body ++ [34])) := henc2
  have HEL : Hid (enc.length = body.length + 2) := hel
  clear hbod hP henc2 hplain
  rcases hd3.isB with ⟨_, hnil⟩ | ⟨g, cap, hd3v, hle, hcap, hB⟩
  · exfalso
    have h := congrArg List.length hnil
    rw [List.length_append, List.length_append, hel, List.length_nil] at h
    omega
  rw [hd3v]
  rcases hev6 with ⟨_, hnil⟩ | ⟨g2, cap2, hevv, hle2, hcap2, hB2⟩
  · exfalso
    rw [hnil] at hel
    simp at hel
  rw [hevv]
  clear hd3v hevv hd3
  clear hel
  obtain ⟨n, hn⟩ : ∃ n, (pre ++ (enc ++ tl)).length = n := ⟨_, rfl⟩
  rw [hn] at hle
  rw [hn]
  have hn2 : n = pre.length + (body.length + 2) + tl.length := by rw [← hn]; simp [HEL.out]; omega
  have HN : Hid ((pre ++ (enc ++ tl)).length = n) := hn
  have HN2 : Hid (n = pre.length + (body.length + 2) + tl.length) := hn2
  have hnb : n ≤ 8388608 := by rw [HEL.out] at hql; omega
  clear hn hn2
  have hend : pre.length + 1 + body.length + 1 - pre.length = enc.length := by rw [HEL.out]; omega
  have hend2 : ((pre.length + 1 + body.length : Nat) : Int) + 1 = (pre.length : Int) + (enc.length : Int) := by rw [HEL.out]; omega
  have HEND : Hid (pre.length + 1 + body.length + 1 - pre.length = enc.length) := hend
  have HEND2 : Hid (((pre.length + 1 + body.length : Nat) : Int) + 1 = (pre.length : Int) + (enc.length : Int)) := hend2
  clear hend hend2
  go_wp2_with fail
  refine (zzSkipStr g cap n pre.length (pre.length + 1 + body.length) (pre ++ (enc ++ tl)) tl body P _ hB HN.out hle (by omega) hinn).mono ?_
  rintro e w7 ⟨rfl, hb7⟩
  rw [HEND.out, HEND2.out]
  have hq := Bytes.mid (hB.below hb7 hB.1)
  have hq2 := hB2.below hb7 hB2.1
  replace hbAll := hbAll.trans (hb7.mono hbAll.size)
  clear hB hB2 hinn hb7
  go_wp2_with fail
  refine (bytesEqual g pre.length (cap - pre.length) g2 0 cap2 enc.length enc _ rfl (by omega) hq hq2).mono ?_
  rintro e w8 ⟨rfl, hb8⟩
  replace hbAll := hbAll.trans (hb8.mono hbAll.size)
  replace hq := hq.below hb8 hq.1
  clear hq2 hb8
  go_wp2_with fail
  refine (plainModel s esc _ (by omega)).mono ?_
  rintro e w9 ⟨rfl, rfl⟩
  rw [HP.out]
  cases P
  · go_wp2_with fail
    go_ret
    exact ⟨rfl, hbAll⟩
  · have hbs := HPL.out rfl
    have hq3 : Bytes w9 g (pre.length + 1) (sb s) := by
      rw [HEB.out] at hq
      refine ⟨hq.1, fun k hk => ?_⟩
      have hkb : k < body.length := by rw [hbs]; exact hk
      have := hq.cell (k + 1) (by simp; omega)
      rw [show pre.length + 1 + k = pre.length + (k + 1) by omega, this]
      simp [List.getD_eq_getElem?_getD, List.getElem?_append, hkb]
      rw [← hbs]
      simp [hkb]
    have hes : enc.length = s.size + 2 := by rw [HEL.out, hbs, sb_len]
    rw [hes]
    obtain ⟨q, hqq⟩ : ∃ q, cap - pre.length = q := ⟨_, rfl⟩
    have hq1 : s.size + 2 ≤ q := by
      have := HN2.out
      have hl2 : (sb s).length = s.size := sb_len s
      rw [hbs] at this
      omega
    rw [hqq]
    clear hqq
    have HQ3 : Hid (Bytes w9 g (pre.length + 1) (sb s)) := hq3
    clear hes hbs hq3 hq
    have hq2 : ¬ (q = 1) := by omega
    go_wp2_with fail
    refine (bytesEqualString g (pre.length + 1) _ s _ (by omega) HQ3.out).mono ?_
    rintro e w10 ⟨rfl, hb10⟩
    replace hbAll := hbAll.trans (hb10.mono hbAll.size)
    go_wp2_with fail
    go_ret
    exact ⟨rfl, hbAll⟩

theorem walk_far (a0 : Option Addr) (l0 c0 : Nat) (s : ByteArray) (esc : Bool) (a3 : Option Addr) (l3 c3 : Nat) (w : World) (h : 1048576 < l0 + s.size + l3) (b0 : l0 ≤ maxLen) (b1 : s.size ≤ maxLen) (b3 : l3 ≤ maxLen) :
    Calls Try.prog 6 #[.slice a0 l0 c0, .string s, .bool esc, .slice a3 l3 c3] w fun e w' => e = .returned (.bool true) ∧ Below w.heap.size w w' := by
  go_enter Try.func6, Try.ntmps6
  go_wp2_with fail
  refine (bytesNo _ _ _ _ _ _ _ _ _ h b0 b1 b3).mono ?_
  rintro e w' ⟨rfl, rfl⟩
  go_wp2_with fail
  go_ret
  exact ⟨rfl, Below.refl _ _⟩

theorem row_le {w : World} {a : Option Addr} {l c : Nat} {z : List Int} (h : IsRow w a l c z) : l ≤ maxLen := by
  rcases h with ⟨_, rfl, _⟩ | ⟨_, _, h1, h2, _⟩
  · exact Nat.zero_le _
  · omega

theorem walk (a0 : Option Addr) (len0 cap0 : Nat) (z0 : List Int) (a1 : ByteArray) (a2 : Bool) (a3 : Option Addr) (len3 cap3 : Nat) (z3 : List Int) (w : World) (w0 : IsRow w a0 len0 cap0 z0) (w1 : a1.size ≤ maxLen) (w3 : IsRow w a3 len3 cap3 z3) :
    Calls Try.prog 6 #[.slice a0 len0 cap0, .string a1, .bool a2, .slice a3 len3 cap3] w fun e w' => e = .returned (.bool true) ∧ Below w.heap.size w w' := by
  by_cases h : len0 + a1.size + len3 ≤ 1048576
  · exact walk_in a0 len0 cap0 z0 a1 a2 a3 len3 cap3 z3 w w0 w3 h
  · exact walk_far a0 len0 cap0 a1 a2 a3 len3 cap3 w (by omega) (row_le w0) w1 (row_le w3)
end Go.Proofs.Qxb6001000a.strlaw
