/-
  A proof of the statement Rows.FnToldTrueCountIsMinoritySaid: the walk is ours; the frame behind it is the shell of the seat.
-/
import Derived.Test.Qxb6000740aRows
import Derived.WalkKit
import Derived.ProofKit
import Derived.OpenShut
import Derived.ShutString
namespace Go.Proofs.Qxb6000740a.fnToldTrueCountIsMinority
open Go.ChangeShapes Go.WideShapes Go.ChangeAt Go.RowKit
open Go.ChangeMaps (open_string shut_string)
set_option linter.unusedVariables false      -- a walk need not use every 'w<i>' (that an integer argument fits its kind)

theorem own : ownKnob Try.prog.godebug = none := by kernel_rfl

/-! ### STEP 1: the walk -/
/-- how many of the members 1..k other than 'self' are told the truth, 'h' the half -/
def CntIs (k self h c : Int) : Prop :=
  (k < self ∧ ((k ≤ h ∧ c = k) ∨ (h < k ∧ c = h))) ∨ (self ≤ k ∧ ((k - 1 ≤ h ∧ c = k - 1) ∨ (h < k - 1 ∧ c = h)))
theorem cnt_self {k self h c : Int} (hc : CntIs k self h c) (e : k + 1 = self) : CntIs (k + 1) self h c := by
  unfold CntIs at *; omega
def RankIs (k self r : Int) : Prop := (self < k + 1 ∧ r = k - 1) ∨ (k + 1 ≤ self ∧ r = k)
theorem cnt_yes {k self h c r : Int} (hc : CntIs k self h c) (e : k + 1 ≠ self) (hr : RankIs k self r) (ht : r < h) : CntIs (k + 1) self h (c + 1) := by
  unfold CntIs RankIs at *; omega
theorem cnt_no {k self h c r : Int} (hc : CntIs k self h c) (e : k + 1 ≠ self) (hr : RankIs k self r) (ht : h ≤ r) : CntIs (k + 1) self h c := by
  unfold CntIs RankIs at *; omega

theorem told (n self to : Int) (h1 : 1 ≤ n) (h2 : n ≤ 65536) (h3 : 1 ≤ self) (h4 : self ≤ n) (h5 : 1 ≤ to) (h6 : to ≤ n) (w : World) :
    Calls Try.prog 9 #[.int .i64 n, .int .i64 self, .int .i64 to] w fun e w' => e = .returned (.bool (decide ((if self < to then to - 1 - 1 else to - 1) < (n - 1) / 2))) ∧ w' = w := by
  by_cases h : self < to
  · rw [if_pos h]
    go_enter Try.func9, Try.ntmps9
    go_wp2
    go_ret
    exact ⟨rfl, rfl⟩
  · rw [if_neg h]
    go_enter Try.func9, Try.ntmps9
    go_wp2
    go_ret
    exact ⟨rfl, rfl⟩

theorem walk (a0 : Int) (a1 : Int) (w0 : (Lit.int .i64 a0).wf = true) (w1 : (Lit.int .i64 a1).wf = true) (w : World) :
    Calls Try.prog 4 #[.int .i64 a0, .int .i64 a1] w fun e w' => e = .returned (.bool true) ∧ Grown w w' := by
  by_cases h1 : a0 < 1
  · go_enter Try.func4, Try.ntmps4
    go_wp2
    go_ret
    exact ⟨rfl, Grown.refl _⟩
  by_cases h2 : 65536 < a0
  · go_enter Try.func4, Try.ntmps4
    go_wp2
    go_ret
    exact ⟨rfl, Grown.refl _⟩
  by_cases h3 : a1 < 1
  · go_enter Try.func4, Try.ntmps4
    go_wp2
    go_ret
    exact ⟨rfl, Grown.refl _⟩
  by_cases h4 : a0 < a1
  · go_enter Try.func4, Try.ntmps4
    go_wp2
    go_ret
    exact ⟨rfl, Grown.refl _⟩
  go_enter Try.func4, Try.ntmps4
  go_wp2
  go_loop [5, 6] (fun x i => ∃ k c : Int, 0 ≤ k ∧ k ≤ a0 ∧ 0 ≤ c ∧ c ≤ k ∧ i = .int .i64 (k + 1) ∧ x = .int .i64 c ∧ CntIs k a1 ((a0 - 1) / 2) c) (fun _ i => (a0 + 1 - intOf i).toNat)
  case atStart => exact ⟨0, 0, by omega, by omega, by omega, by omega, rfl, rfl, by unfold CntIs; omega⟩
  case round =>
    obtain ⟨k, c, hk0, hk1, hc0, hc1, rfl, rfl, hcnt⟩ := hrel
    by_cases hlt : k + 1 ≤ a0
    · by_cases he : k + 1 = a1
      · have hq : (k + 1 == a1) = true := beq_iff_eq.2 he
        have HE : Hid (k + 1 = a1) := he
        clear he
        go_wp2
        go_round
        case rel => exact ⟨k + 1, c, by omega, by omega, by omega, by omega, by go_num, rfl, cnt_self hcnt HE.out⟩
        case measure => simp [intOf]; omega
      · have hq : (k + 1 == a1) = false := beq_eq_false_iff_ne.2 he
        have hne : k + 1 ≠ a1 := he
        clear he
        obtain ⟨r, hr⟩ : ∃ r : Int, (if a1 < k + 1 then k + 1 - 1 - 1 else k + 1 - 1) = r := ⟨_, rfl⟩
        have hr2 : RankIs k a1 r := by
          by_cases h : a1 < k + 1
          · rw [if_pos h] at hr; exact .inl ⟨h, by omega⟩
          · rw [if_neg h] at hr; exact .inr ⟨by omega, by omega⟩
        have HR : Hid ((if a1 < k + 1 then k + 1 - 1 - 1 else k + 1 - 1) = r) := hr
        clear hr
        by_cases ht : r < (a0 - 1) / 2
        · go_wp2_with fail
          refine (told a0 a1 (k + 1) (by omega) (by omega) (by omega) (by omega) (by omega) (by omega) _).mono ?_
          rintro e w' ⟨rfl, rfl⟩
          rw [HR.out, decide_eq_true ht]
          go_wp2
          go_round
          case rel => exact ⟨k + 1, c + 1, by omega, by omega, by omega, by omega, by go_num, rfl, cnt_yes hcnt hne hr2 ht⟩
          case measure => simp [intOf]; omega
        · go_wp2_with fail
          refine (told a0 a1 (k + 1) (by omega) (by omega) (by omega) (by omega) (by omega) (by omega) _).mono ?_
          rintro e w' ⟨rfl, rfl⟩
          rw [HR.out, decide_eq_false (show ¬ r < (a0 - 1) / 2 by omega)]
          go_wp2
          go_round
          case rel => exact ⟨k + 1, c, by omega, by omega, by omega, by omega, by go_num, rfl, cnt_no hcnt hne hr2 ht⟩
          case measure => simp [intOf]; omega
    · have hc : c = (a0 - 1) / 2 := by unfold CntIs at hcnt; omega
      have hq : (c == (a0 - 1) / 2) = true := beq_iff_eq.2 hc
      have hle : c ≤ a0 - 1 - c := by omega
      clear hc
      go_wp2
      go_ret
      exact ⟨by simp, Grown.refl _⟩

/-! ### THE ROW's STEP: WRITTEN OUT: LEAVE IT -/
set_option maxRecDepth 100000 in
theorem lifted (os : Os) (started : os.Started) (H : Type) (enc : TypeId × Value → H) :
    ReturnsInHanded {} Try.checked os 4 .any (Rows.fnToldTrueCountIsMinoritySpec.pre6 enc Try.prog Try.f4 Rows.fnToldTrueCountIsMinorityRow.domain false) (Rows.fnToldTrueCountIsMinoritySpec.post enc Try.prog Try.f4 false true false false) := by
  refine returnsInHanded_of_change (C := Try.checked) own started (by kernel_rfl) Try.func4
    (ChangeSpec.witness6 (enc := enc) (C := Try.checked) false ⟨#[], #[.int .i64 0, .int .i64 0], []⟩ 8 (by kernel_rfl) (by kernel_rfl) (by kernel_rfl) (by kernel_rfl)) ?_
  intro W base args ds gs before hval0 hW hcnd _
  have hval : ∀ (j : Nat) t v, Try.f4.params[j]? = some t → args[j]? = some v → Value.okWide Try.prog W .any base t v := hval0
  have hW' := hW
  obtain ⟨p, q, hA0, hV, rfl, hfz, hnd⟩ := hW
  have hA : DataW.TrodAll enc Try.prog W 0 (fun _ => true) true Try.f4.params.toList args.toList ds p := hA0
  rw [Try.params4] at hA hval
  obtain ⟨v0, vs0, d0, ds0, p0, q0, hargs, rfl, rfl, h0, r0⟩ := trodAll_cons hA
  obtain ⟨v1, vs1, d1, ds1, p1, q1, rfl, rfl, rfl, h1, r1⟩ := trodAll_cons r0
  obtain ⟨rfl, rfl, rfl⟩ := trodAll_nil r1
  obtain rfl : args = #[v0, v1] := by cases args; simp_all
  obtain ⟨rfl, rfl⟩ := trodVars_none hV
  obtain ⟨a0, rfl, rfl, rfl, w0⟩ := open_int Try.underlying3 (hval 0 3 v0 rfl rfl) h0
  obtain ⟨a1, rfl, rfl, rfl, w1⟩ := open_int Try.underlying3 (hval 1 3 v1 rfl rfl) h1
  clear hA0 hval0
  simp only [List.append_nil] at hW'
  refine (walk a0 a1 w0 w1 W).mono fun e W' ⟨he, hg⟩ => ?_
  subst he
  exact ⟨_, rfl, post_of_same (pa := []) (pv := []) hW' (fun _ _ _ => (trodAll_cons_mk (shut_bool Try.underlying4 _) trodAll_mk0)) (fun sp _ => (trodAll_cons_mk (shut_int Try.underlying3 w0) (trodAll_cons_mk (shut_int Try.underlying3 w1) trodAll_mk0))) (fun _ _ => rfl) rfl
    (hg.frame _) hg.2.1 (ok_one (by kernel_rfl) rfl (okWide_bool_mk Try.underlying4 _))⟩

theorem over : Rows.fnToldTrueCountIsMinorityRow.holds Try.pinned (OpenSpec.ofChange Rows.fnToldTrueCountIsMinoritySpec) :=
  OpenClaim.holds_of_wide 4 Try.f4 rfl rfl rfl rfl rfl rfl rfl ⟨rfl, rfl, rfl, rfl, rfl⟩ rfl rfl rfl rfl rfl (by kernel_rfl) Try.func4 (by kernel_rfl)
    (of_decide_eq_true (by kernel_rfl)) (by unfold Func.isWrapper; first | (rw [if_pos (by decide +kernel)]; kernel_rfl) | (rw [if_neg (by decide +kernel)]; exact ⟨rfl, rfl⟩))
    (fun os started H enc _ => lifted os started H enc)

/-- ████ THE STATEMENT ████ -/
theorem proved : Rows.FnToldTrueCountIsMinoritySaid :=
  over
end Go.Proofs.Qxb6000740a.fnToldTrueCountIsMinority
