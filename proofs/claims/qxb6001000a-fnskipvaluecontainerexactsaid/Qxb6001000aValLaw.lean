/-
  zzBytes_FnSkipValueContainerExact and the law FnSkipValueContainerExact, walked.
-/
import Derived.Test.Qxb6001000aClone
import Derived.Test.Qxb6001000aSkipVal
namespace Go.Proofs.Qxb6001000a.vallaw
open Go.ChangeShapes Go.WideShapes Go.ChangeAt Go.RowKit
open Go.Proofs.Qxb6001000a.base Go.Proofs.Qxb6001000a.own Go.Proofs.Qxb6001000a.plain Go.Proofs.Qxb6001000a.skipstr Go.Proofs.Qxb6001000a.skipval Go.Proofs.Qxb6001000a.build Go.Proofs.Qxb6001000a.clones

theorem str_get {ss : List ByteArray} {k : Nat} {v : Value} (h : (ss.map Value.string)[k]? = some v) : ∃ s, ss[k]? = some s ∧ v = .string s := by
  rw [List.getElem?_map] at h
  cases hs : ss[k]? with
  | none => rw [hs] at h; simp at h
  | some s => rw [hs] at h; simp at h; exact ⟨s, rfl, h.symm⟩
def Small (ss : List ByteArray) (k : Nat) : Prop := ∀ j, j < k → ∀ s, ss[j]? = some s → s.size ≤ 1048576
theorem Small.succ {ss : List ByteArray} {k : Nat} {s : ByteArray} (h : Small ss k) (hs : ss[k]? = some s) (hz : s.size ≤ 1048576) : Small ss (k + 1) := by
  intro j hj s' hs'
  by_cases e : j = k
  · subst e
    rw [hs] at hs'
    injection hs' with hs'
    subst hs'
    exact hz
  · exact h j (by omega) s' hs'
/-- what zzBytes says yes to -/
def Fit (l0 l2 l3 l4 l6 : Nat) (ss : List ByteArray) : Prop := l0 ≤ 1048576 ∧ l2 ≤ 1048576 ∧ l3 ≤ 1048576 ∧ l4 ≤ 1048576 ∧ l6 ≤ 1048576 ∧ Small ss l3

def YesIf (e : Ending) (p : Prop) : Prop := ∃ r : Bool, e = .returned (.bool r) ∧ (r = true → p)

set_option maxRecDepth 100000 in
set_option maxHeartbeats 4000000 in
theorem zzB (a0 : Option Addr) (l0 c0 : Nat) (tO : Bool) (a2 : Option Addr) (l2 c2 : Nat) (a3 : Option Addr) (l3 c3 : Nat) (ss : List ByteArray) (a4 : Option Addr) (l4 c4 : Nat) (sp : Bool) (a6 : Option Addr) (l6 c6 : Nat) (w : World)
    (b0 : l0 ≤ maxLen) (b2 : l2 ≤ maxLen) (b4 : l4 ≤ maxLen) (b6 : l6 ≤ maxLen) (hr : RowV w a3 l3 c3 (ss.map Value.string)) (hsm : ∀ s ∈ ss, s.size ≤ maxLen) :
    Calls Try.prog 20 #[.slice a0 l0 c0, .bool tO, .slice a2 l2 c2, .slice a3 l3 c3, .slice a4 l4 c4, .bool sp, .slice a6 l6 c6] w fun e w' => w' = w ∧ YesIf e (Fit l0 l2 l3 l4 l6 ss) := by
  have b3 := hr.le
  have HR : Hid (RowV w a3 l3 c3 (ss.map Value.string)) := hr
  have HSM : Hid (∀ s ∈ ss, s.size ≤ maxLen) := hsm
  clear hr hsm
  unfold maxLen at b0 b2 b3 b4 b6
  by_cases h0 : 1048576 < l0
  · go_enter Try.func20, Try.ntmps20
    go_wp2
    go_ret
    exact ⟨rfl, false, rfl, fun h => by cases h⟩
  by_cases h2 : 1048576 < l2
  · go_enter Try.func20, Try.ntmps20
    go_wp2
    go_ret
    exact ⟨rfl, false, rfl, fun h => by cases h⟩
  by_cases h02 : 1048576 < l0 + l2
  · go_enter Try.func20, Try.ntmps20
    go_wp2
    go_ret
    exact ⟨rfl, false, rfl, fun h => by cases h⟩
  by_cases h3 : 1048576 < l3
  · go_enter Try.func20, Try.ntmps20
    go_wp2
    go_ret
    exact ⟨rfl, false, rfl, fun h => by cases h⟩
  by_cases h023 : 1048576 < l0 + l2 + l3
  · go_enter Try.func20, Try.ntmps20
    go_wp2
    go_ret
    exact ⟨rfl, false, rfl, fun h => by cases h⟩
  go_enter Try.func20, Try.ntmps20
  go_wp2_with fail
  go_loop [15, 16] (fun q i => ∃ (k : Nat) (z : Int), k ≤ l3 ∧ 0 ≤ z ∧ z ≤ 1048576 ∧ q = .int .i64 z ∧ i = .int .i64 k ∧ Small ss k) (fun _ i => l3 - (intOf i).toNat)
  case atStart => exact ⟨0, _, by omega, by omega, by omega, rfl, rfl, fun j hj => by omega⟩
  case round =>
    obtain ⟨k, z, hk, hz0, hz1, rfl, rfl, hS⟩ := hrel
    by_cases hlt : k < l3
    · obtain ⟨bb, off, v, e1, e2, e3⟩ := HR.out.get k hlt
      obtain ⟨s, es, rfl⟩ := str_get e2
      subst e1
      have HES : Hid (ss[k]? = some s) := es
      have hsz : s.size ≤ maxLen := HSM.out s (List.mem_of_getElem? es)
      unfold maxLen at hsz
      clear e2 es
      by_cases hs : 1048576 < s.size
      · go_wp2
        go_ret
        exact ⟨rfl, false, rfl, fun h => by cases h⟩
      · by_cases hzs : 1048576 < z + s.size
        · go_wp2
          go_ret
          exact ⟨rfl, false, rfl, fun h => by cases h⟩
        · have HS2 := hS.succ HES.out (by omega)
          go_wp2
          go_round
          case rel => exact ⟨k + 1, z + s.size, by omega, by omega, by omega, rfl, by go_num, HS2⟩
          case measure => simp [intOf]; omega
    · have HS2 : Small ss l3 := by rw [show l3 = k by omega]; exact hS
      by_cases h4 : 1048576 < l4
      · go_wp2
        go_ret
        exact ⟨rfl, false, rfl, fun h => by cases h⟩
      by_cases hz4 : 1048576 < z + l4
      · go_wp2
        go_ret
        exact ⟨rfl, false, rfl, fun h => by cases h⟩
      by_cases h6 : 1048576 < l6
      · go_wp2
        go_ret
        exact ⟨rfl, false, rfl, fun h => by cases h⟩
      by_cases hz6 : 1048576 < z + l4 + l6
      · go_wp2
        go_ret
        exact ⟨rfl, false, rfl, fun h => by cases h⟩
      have HF : Hid (Fit l0 l2 l3 l4 l6 ss) := ⟨by omega, by omega, by omega, by omega, by omega, HS2⟩
      go_wp2
      go_ret
      exact ⟨rfl, true, rfl, fun _ => HF.out⟩

theorem strs_one (ss : List ByteArray) : ∀ v ∈ ss.map Value.string, v.oneCell' = true := by
  intro v hv
  obtain ⟨s, _, rfl⟩ := List.mem_map.1 hv
  rfl
theorem small_take {ss : List ByteArray} {n : Nat} (h : Small ss n) : ∀ s ∈ ss.take n, s.size ≤ 1048576 := by
  intro s hs
  obtain ⟨j, hj, e⟩ := List.mem_iff_getElem.1 hs
  have hj2 : j < n := by rw [List.length_take] at hj; omega
  refine h j hj2 s ?_
  have : (ss.take n)[j]? = some s := by rw [List.getElem?_eq_getElem hj, e]
  rwa [List.getElem?_take, if_pos hj2] at this
theorem on_start (pre t tl : List Int) (c : Int) (h : Bal t 1 0) : On (pre ++ (c :: t ++ tl)) tl (pre.length + 1) 1 := by
  refine ⟨t ++ tl, ?_, h tl tl (done_zero tl)⟩
  unfold At
  rw [← List.drop_drop, List.drop_left]
  rfl

set_option maxRecDepth 100000 in
set_option maxHeartbeats 8000000 in
theorem walk (a0 : Option Addr) (l0 c0 : Nat) (z0 : List Int) (tO : Bool) (a2 : Option Addr) (l2 c2 : Nat) (z2 : List Int) (a3 : Option Addr) (l3 c3 : Nat) (ss : List ByteArray) (a4 : Option Addr) (l4 c4 : Nat) (z4 : List Int) (sp : Bool) (a6 : Option Addr) (l6 c6 : Nat) (z6 : List Int) (w : World)
    (r0 : IsRow w a0 l0 c0 z0) (r2 : IsRow w a2 l2 c2 z2) (r3 : RowV w a3 l3 c3 (ss.map Value.string)) (r4 : RowV w a4 l4 c4 (z4.map (Value.int .i64))) (r6 : IsRow w a6 l6 c6 z6)
    (hsm : ∀ s ∈ ss, s.size ≤ maxLen) (hn4 : ∀ n ∈ z4, -9223372036854775808 ≤ n ∧ n ≤ 9223372036854775807) (hp2 : ∀ c ∈ z2, 0 ≤ c ∧ c ≤ 255) (b0 : l0 ≤ maxLen) (b2 : l2 ≤ maxLen) (b6 : l6 ≤ maxLen) :
    Calls Try.prog 7 #[.slice a0 l0 c0, .bool tO, .slice a2 l2 c2, .slice a3 l3 c3, .slice a4 l4 c4, .bool sp, .slice a6 l6 c6] w fun e w' => e = .returned (.bool true) ∧ Below w.heap.size w w' := by
  have b3 := r3.le
  have b4 := r4.le
  have HZ : Hid (Calls Try.prog 20 #[.slice a0 l0 c0, .bool tO, .slice a2 l2 c2, .slice a3 l3 c3, .slice a4 l4 c4, .bool sp, .slice a6 l6 c6] w fun e w' => w' = w ∧ YesIf e (Fit l0 l2 l3 l4 l6 ss)) :=
    zzB a0 l0 c0 tO a2 l2 c2 a3 l3 c3 ss a4 l4 c4 sp a6 l6 c6 w b0 b2 b4 b6 r3 hsm
  have HSM : Hid (∀ s ∈ ss, s.size ≤ maxLen) := hsm
  have HN4 : Hid (∀ n ∈ z4, -9223372036854775808 ≤ n ∧ n ≤ 9223372036854775807) := hn4
  have HP2 : Hid (∀ c ∈ z2, 0 ≤ c ∧ c ≤ 255) := hp2
  clear hsm hn4 hp2
  go_enter Try.func7, Try.ntmps7
  go_wp2_with fail
  refine HZ.out.mono ?_
  rintro e w' ⟨rfl, r, rfl, hfit⟩
  clear HZ
  cases r
  · go_wp2_with fail
    go_ret
    exact ⟨rfl, Below.refl _ _⟩
  have HFIT : Hid (Small ss l3) := (hfit rfl).2.2.2.2.2
  obtain ⟨f0, f2, f3, f4, f6, _⟩ := hfit rfl
  clear hfit b0 b2 b3 b4 b6
  by_cases g3 : 65536 < l3
  · go_wp2_with fail
    go_ret
    exact ⟨rfl, Below.refl _ _⟩
  by_cases g4 : 131072 < l4
  · go_wp2_with fail
    go_ret
    exact ⟨rfl, Below.refl _ _⟩
  by_cases gt : 1048576 < l0 + l2 + 16 * l3 + 8 * l4 + l6
  · go_wp2_with fail
    go_ret
    exact ⟨rfl, Below.refl _ _⟩
  go_wp2_with fail
  go_loop [15, 16] (fun q i => ∃ (k : Nat) (z : Int), k ≤ l3 ∧ 0 ≤ z ∧ z ≤ 1048576 ∧ q = .int .i64 z ∧ i = .int .i64 k) (fun _ i => l3 - (intOf i).toNat)
  case atStart => exact ⟨0, _, by omega, by omega, by omega, rfl, rfl⟩
  case round =>
    obtain ⟨k, z, hk, hz0, hz1, rfl, rfl⟩ := hrel
    by_cases hlt : k < l3
    · obtain ⟨bb, off, v, e1, e2, e3⟩ := r3.get k hlt
      obtain ⟨s, es, rfl⟩ := str_get e2
      have hs := HFIT.out k hlt s es
      subst e1
      clear e2 es
      by_cases hzs : 1048576 < z + s.size
      · go_wp2_with fail
        go_ret
        exact ⟨rfl, Below.refl _ _⟩
      · go_wp2_with fail
        go_round
        case rel => exact ⟨k + 1, z + s.size, by omega, by omega, by omega, rfl, by go_num⟩
        case measure => simp [intOf]; omega
    · go_wp2_with fail
      clear hlt hk
      refine (clone a0 l0 c0 z0 _ r0 f0).mono ?_
      rintro e w1 ⟨pv, rfl, hpv, hb1⟩
      replace r2 := r2.below hb1
      replace r3 := r3.below hb1
      replace r4 := r4.below hb1
      replace r6 := r6.below hb1
      go_wp2_with fail
      refine (clone a2 l2 c2 z2 _ r2 f2).mono ?_
      rintro e w2 ⟨ov, rfl, hov, hb2⟩
      replace hpv := hpv.below hb2 (Nat.le_refl _)
      replace r3 := r3.below hb2
      replace r4 := r4.below hb2
      replace r6 := r6.below hb2
      replace hb2 := hb1.trans (hb2.mono hb1.size)
      go_wp2_with fail
      refine (cloneS a3 l3 c3 _ _ r3 (strs_one ss) f3).mono ?_
      rintro e w3 ⟨sv, rfl, hsv, hb3⟩
      replace hpv := hpv.below hb3 (Nat.le_refl _)
      replace hov := hov.below hb3 (Nat.le_refl _)
      replace r4 := r4.below hb3
      replace r6 := r6.below hb3
      replace hb3 := hb2.trans (hb3.mono hb2.size)
      go_wp2_with fail
      refine (cloneN a4 l4 c4 _ _ r4 (ints_oneCell _ _) f4).mono ?_
      rintro e w4 ⟨nv, rfl, hnv, hb4⟩
      replace hpv := hpv.below hb4 (Nat.le_refl _)
      replace hov := hov.below hb4 (Nat.le_refl _)
      replace hsv := hsv.below hb4
      replace r6 := r6.below hb4
      replace hb4 := hb3.trans (hb4.mono hb3.size)
      go_wp2_with fail
      refine (clone a6 l6 c6 z6 _ r6 f6).mono ?_
      rintro e w5 ⟨tv, rfl, htv, hb5⟩
      replace hpv := hpv.below hb5 (Nat.le_refl _)
      replace hov := hov.below hb5 (Nat.le_refl _)
      replace hsv := hsv.below hb5
      replace hnv := hnv.below hb5
      replace hb5 := hb4.trans (hb5.mono hb4.size)
      clear hb1 hb2 hb3 hb4 r0 r2 r3 r4 r6
      rw [← List.map_take] at hsv hnv
      have hB : Hid (Calls Try.prog 23 #[.bool tO, ov, sv, nv, .bool sp] w5 fun e w' => ∃ v c t, e = .returned v ∧ Own w' v (c :: t) ∧ (c = 123 ∨ c = 91) ∧ Bal t 1 0 ∧ t.length ≤ 8000000000000 ∧ Below w5.heap.size w5 w') :=
        build tO sp ov sv nv (z2.take l2) (ss.take l3) (z4.take l4) w5 (IsV.ofB hov) hsv hnv (Nat.le_trans (List.length_take_le _ _) f2) (Nat.le_trans (List.length_take_le _ _) f3) (Nat.le_trans (List.length_take_le _ _) f4)
          (fun c hc => HP2.out c (List.mem_of_mem_take hc)) (small_take HFIT.out) (fun n hn => HN4.out n (List.mem_of_mem_take hn))
      obtain ⟨pre, hpre⟩ : ∃ pre, z0.take l0 = pre := ⟨_, rfl⟩
      obtain ⟨tl, htl⟩ : ∃ tl, z6.take l6 = tl := ⟨_, rfl⟩
      rw [hpre] at hpv
      rw [htl] at htv
      have hpl : pre.length ≤ 1048576 := by rw [← hpre]; exact Nat.le_trans (List.length_take_le _ _) f0
      have htll : tl.length ≤ 1048576 := by rw [← htl]; exact Nat.le_trans (List.length_take_le _ _) f6
      clear hpre htl hov hsv hnv
      go_wp2_with fail
      refine hB.out.mono ?_
      rintro e w6 ⟨vv, c, t, rfl, hvv, hc, hbal, htlen, hb6⟩
      replace hpv := hpv.below hb6 (Nat.le_refl _)
      replace htv := htv.below hb6 (Nat.le_refl _)
      replace hb6 := hb5.trans (hb6.mono hb5.size)
      have HC : Hid (c = 123 ∨ c = 91) := hc
      have HBAL : Hid (Bal t 1 0) := hbal
      replace hvv := hvv.isB
      obtain ⟨val, hval⟩ : ∃ val, c :: t = val := ⟨_, rfl⟩
      rw [hval] at hvv
      have hvl : val.length ≤ 8000000000001 := by rw [← hval]; simp only [List.length_cons]; omega
      have hvp : 0 < val.length := by rw [← hval]; simp
      have HV : Hid (c :: t = val) := hval
      clear hB hb5 hc hbal hval htlen
      go_wp2_with (at_builtin; refine wpList_app rfl (.tmp 108) (.tmp 109) rfl rfl _ [] rfl (Own.nil _) pv pre rfl hpv (by simp only [List.length_nil]; omega) ?_)
      intro d1 w7 hd1 hx7
      try rw [List.nil_append] at hd1
      obtain ⟨a1, p1, e1⟩ := hd1.shape
      rw [e1]
      rw [e1] at hd1 hx7
      clear e1
      have hvv0 := hvv
      have htv0 := htv
      replace hvv := IsB.ext hvv hx7 (.inl rfl)
      clear hpv
      go_wp2_with (at_builtin; refine wpList_app rfl (.tmp 113) (.tmp 114) rfl rfl _ pre rfl hd1 vv val rfl hvv (by omega) ?_)
      intro d2 w8 hd2 hx8
      have hx68 := hx7.trans hx8
      obtain ⟨a2', p2, e2⟩ := hd2.shape
      rw [e2]
      rw [e2] at hd2 hx8 hx68
      clear e2
      replace htv := IsB.ext htv0 hx68 (.inl rfl)
      clear hx7 hx8 hvv
      go_wp2_with (at_builtin; refine wpList_app rfl (.tmp 118) (.tmp 119) rfl rfl _ (pre ++ val) rfl hd2 tv tl rfl htv (by rw [List.length_append]; omega) ?_)
      intro d3 w9 hd3 hx9
      try rw [List.length_append] at hx68
      have hx69 := hx68.trans hx9
      have hb9 := hx69.below (Nat.le_refl _) (fun k h => by cases h)
      replace hb9 := hb6.trans (hb9.mono hb6.size)
      clear hx68 hx9 hx69 hb6 htv htv0 hvv0 hd1 hd2
      replace hd3 := Own.cast (cs := pre ++ (val ++ tl)) hd3 (by simp)
      have hnl : (pre ++ (val ++ tl)).length = pre.length + val.length + tl.length := by simp; omega
      rcases hd3.isB with ⟨_, hnil⟩ | ⟨g, cap, hd3v, hle, hcap, hBy⟩
      · exfalso
        rw [hnil, List.length_nil] at hnl
        omega
      rw [hd3v]
      rw [hnl] at hle
      rw [hnl]
      have hon : On (pre ++ (val ++ tl)) tl (pre.length + 1) 1 := by
        rw [← HV.out]
        exact on_start pre t tl c HBAL.out
      have hget : (pre ++ (val ++ tl)).getD pre.length 0 = c := by
        rw [← HV.out]
        simp [List.getD_eq_getElem?_getD]
      have HNL : Hid ((pre ++ (val ++ tl)).length = pre.length + val.length + tl.length) := hnl
      have HGET : Hid ((pre ++ (val ++ tl)).getD pre.length 0 = c) := hget
      clear hnl hget hd3v hd3
      obtain ⟨nn, hnn⟩ : ∃ nn, pre.length + val.length + tl.length = nn := ⟨_, rfl⟩
      rw [hnn] at hle
      rw [hnn]
      have HNN : Hid (pre.length + val.length + tl.length = nn) := hnn
      have hnb : nn ≤ 9000000000000 ∧ pre.length < nn := by omega
      obtain ⟨hnb1, hnb2⟩ := hnb
      clear hnn
      go_wp2_with fail
      refine (zzSkipVal g cap nn pre.length (pre ++ (val ++ tl)) tl c _ hBy (by rw [HNL.out, HNN.out]) hle (by omega) hnb2 HGET.out HC.out hon).mono ?_
      rintro e w10 ⟨kk, rfl, hkn, hat, hb10⟩
      replace hb10 := hb9.trans (hb10.mono hb9.size)
      have hkk : ((kk : Int) == (pre.length : Int) + (val.length : Int)) = true := by
        have h1 := congrArg List.length hat
        rw [List.length_drop, HNL.out] at h1
        have h2 := HNN.out
        rw [beq_iff_eq]
        omega
      clear hat hon hBy hb9
      go_wp2_with fail
      go_ret
      exact ⟨by simp, hb10⟩
end Go.Proofs.Qxb6001000a.vallaw
