/-
  A proof of the statement Rows.FnRelayEntriesRecurrenceSaid: the walk is ours; the frame behind it is the shell of the seat.
-/
import Derived.Test.Qxb6000740aRows
import Derived.WalkKit
import Derived.ProofKit
import Derived.OpenShut
import Derived.ShutString
namespace Go.Proofs.Qxb6000740a.fnRelayEntriesRecurrence
open Go.ChangeShapes Go.WideShapes Go.ChangeAt Go.RowKit
open Go.ChangeMaps (open_string shut_string)
set_option linter.unusedVariables false      -- a walk need not use every 'w<i>' (that an integer argument fits its kind)

theorem own : ownKnob Try.prog.godebug = none := by kernel_rfl

/-! ### STEP 1: the plain function, and the walk -/
/-- the count of round j + 1 among n members, capped at 1025 -/
def relN (n : Int) : Nat → Int
  | 0 => 1
  | j + 1 => if 1024 < relN n j then 1025 else if 1024 < relN n j * (n - ((j : Int) + 1)) then 1025 else relN n j * (n - ((j : Int) + 1))
def relI (n r : Int) : Int := relN n (r - 1).toNat
theorem relI_one (n : Int) : relI n 1 = 1 := rfl
theorem relI_succ (n r : Int) (hr : 1 ≤ r) :
    relI n (r + 1) = if 1024 < relI n r then 1025 else if 1024 < relI n r * (n - r) then 1025 else relI n r * (n - r) := by
  unfold relI
  obtain ⟨j, hj⟩ : ∃ j : Nat, r = (j : Int) + 1 := ⟨(r - 1).toNat, by omega⟩
  subst hj
  rw [show ((j : Int) + 1 + 1 - 1).toNat = j + 1 by omega, show ((j : Int) + 1 - 1).toNat = j by omega]
  rfl
theorem relI_bd (n r : Int) (hr : 1 ≤ r) (hn : r ≤ n) : 1 ≤ relI n r ∧ relI n r ≤ 1025 := by
  obtain ⟨j, hj⟩ : ∃ j : Nat, r = (j : Int) + 1 := ⟨(r - 1).toNat, by omega⟩
  subst hj
  clear hr
  induction j with
  | zero => rw [show ((0 : Nat) : Int) + 1 = 1 from rfl, relI_one]; omega
  | succ j ih =>
    have ih := ih (by omega)
    have e := relI_succ n ((j : Int) + 1) (by omega)
    rw [show ((j + 1 : Nat) : Int) + 1 = (j : Int) + 1 + 1 by omega, e]
    have hp : 1 * 1 ≤ relI n ((j : Int) + 1) * (n - ((j : Int) + 1)) := Int.mul_le_mul ih.1 (by omega) (by omega) (by omega)
    split
    · omega
    · split <;> omega
/-- once past the cap it stays there -/
theorem relI_top (n k : Int) (hk : 1 ≤ k) (h : relI n k = 1025) (m : Nat) : relI n (k + m) = 1025 := by
  induction m with
  | zero => simpa using h
  | succ m ih =>
    rw [show k + ((m + 1 : Nat) : Int) = k + m + 1 by omega, relI_succ n (k + m) (by omega), ih]
    rfl
theorem mul_bd (c m : Int) (h1 : 1 ≤ c) (h2 : c ≤ 1024) (h3 : 1 ≤ m) (h4 : m ≤ 65536) : 1 ≤ c * m ∧ c * m ≤ 67108864 := by
  have a : 1 * 1 ≤ c * m := Int.mul_le_mul h1 h3 (by omega) (by omega)
  have b : c * m ≤ 1024 * 65536 := Int.mul_le_mul h2 h4 (by omega) (by omega)
  omega
theorem ret_int {k : IntKind} {a b : Int} (h : a = b) : Ending.returned (.int k a) = .returned (.int k b) := by rw [h]

theorem entries (n r : Int) (h1 : 1 ≤ n) (h2 : n ≤ 65536) (h3 : 1 ≤ r) (h4 : r ≤ n) (w : World) :
    Calls Try.prog 13 #[.int .i64 n, .int .i64 r] w fun e w' => e = .returned (.int .i64 (relI n r)) ∧ w' = w := by
  go_enter Try.func13, Try.ntmps13
  go_wp2
  go_loop [5, 6] (fun x i => ∃ k c : Int, 1 ≤ k ∧ k ≤ r ∧ 1 ≤ c ∧ c ≤ 1024 ∧ i = .int .i64 k ∧ x = .int .i64 c ∧ Hid (relI n k = c)) (fun _ i => (r - intOf i).toNat)
  case atStart => exact ⟨1, 1, by omega, by omega, by omega, by omega, rfl, rfl, relI_one n⟩
  case round =>
    obtain ⟨k, c, hk0, hk1, hc0, hc1, rfl, rfl, hcnt⟩ := hrel
    by_cases hlt : k < r
    · obtain ⟨hb1, hb2⟩ := mul_bd c (n - k) hc0 hc1 (by omega) (by omega)
      have HS : Hid (relI n (k + 1) = if 1024 < c then 1025 else if 1024 < c * (n - k) then 1025 else c * (n - k)) := by
        have := relI_succ n k hk0
        rw [hcnt.out] at this
        exact this
      by_cases hgt : 1024 < c * (n - k)
      · go_wp2
        go_ret
        refine ⟨ret_int ?_, rfl⟩
        have h := HS.out
        rw [if_neg (by omega), if_pos hgt] at h
        have := relI_top n (k + 1) (by omega) h (r - (k + 1)).toNat
        rw [show k + 1 + (((r - (k + 1)).toNat : Nat) : Int) = r by omega] at this
        exact this.symm
      · go_wp2
        go_round
        case rel => exact ⟨k + 1, c * (n - k), by omega, by omega, by omega, by omega, by go_num, rfl, by have h := HS.out; rw [if_neg (by omega), if_neg (by omega)] at h; exact h⟩
        case measure => simp [intOf]; omega
    · have e : k = r := by omega
      have HE : Hid (k = r) := e
      clear e
      go_wp2
      go_ret
      exact ⟨ret_int (by rw [← hcnt.out, HE.out]), rfl⟩

theorem entriesZ (n r : Int) (h1 : 1 ≤ n) (h2 : n ≤ 65536) (h3 : 1 ≤ r) (h4 : r ≤ n) (w : World) :
    Calls Try.prog 10 #[.int .i64 n, .int .i64 r] w fun e w' => e = .returned (.int .i64 (relI n r)) ∧ w' = w := by
  go_enter Try.func10, Try.ntmps10
  go_wp2_with fail
  refine (entries n r h1 h2 h3 h4 _).mono ?_
  rintro e w' ⟨rfl, rfl⟩
  go_wp2
  go_ret
  exact ⟨rfl, rfl⟩

theorem walk (a0 : Int) (a1 : Int) (w0 : (Lit.int .i64 a0).wf = true) (w1 : (Lit.int .i64 a1).wf = true) (w : World) :
    Calls Try.prog 5 #[.int .i64 a0, .int .i64 a1] w fun e w' => e = .returned (.bool true) ∧ Grown w w' := by
  by_cases h1 : a0 < 1
  · go_enter Try.func5, Try.ntmps5
    go_wp2
    go_ret
    exact ⟨rfl, Grown.refl _⟩
  by_cases h2 : 65536 < a0
  · go_enter Try.func5, Try.ntmps5
    go_wp2
    go_ret
    exact ⟨rfl, Grown.refl _⟩
  by_cases h3 : a1 < 1
  · go_enter Try.func5, Try.ntmps5
    go_wp2
    go_ret
    exact ⟨rfl, Grown.refl _⟩
  by_cases h4 : a0 < a1
  · go_enter Try.func5, Try.ntmps5
    go_wp2
    go_ret
    exact ⟨rfl, Grown.refl _⟩
  obtain ⟨hb1, hb2⟩ := relI_bd a0 a1 (by omega) (by omega)
  go_enter Try.func5, Try.ntmps5
  go_wp2_with fail
  refine (entriesZ a0 1 (by omega) (by omega) (by omega) (by omega) _).mono ?_
  rintro e w' ⟨rfl, rfl⟩
  rw [relI_one]
  go_wp2_with fail
  refine (entriesZ a0 a1 (by omega) (by omega) (by omega) (by omega) _).mono ?_
  rintro e w' ⟨rfl, rfl⟩
  by_cases he : a1 = a0
  · have hq : (a1 == a0) = true := beq_iff_eq.2 he
    clear he
    go_wp2_with fail
    go_ret
    exact ⟨rfl, Grown.refl _⟩
  · have hq : (a1 == a0) = false := beq_eq_false_iff_ne.2 he
    have HS : Hid _ := relI_succ a0 a1 (by omega)
    generalize relI a0 a1 = a at *
    go_wp2_with fail
    refine (entriesZ a0 (a1 + 1) (by omega) (by omega) (by omega) (by omega) _).mono ?_
    rintro e w' ⟨rfl, rfl⟩
    rw [HS.out]
    by_cases hc : 1024 < a
    · rw [if_pos hc]
      go_wp2
      go_ret
      exact ⟨rfl, Grown.refl _⟩
    · obtain ⟨hm1, hm2⟩ := mul_bd a (a0 - a1) (by omega) (by omega) (by omega) (by omega)
      rw [if_neg hc]
      by_cases hd : 1024 < a * (a0 - a1)
      · rw [if_pos hd]
        go_wp2
        go_ret
        exact ⟨rfl, Grown.refl _⟩
      · rw [if_neg hd]
        go_wp2
        go_ret
        exact ⟨by simp, Grown.refl _⟩

/-! ### THE ROW's STEP: WRITTEN OUT: LEAVE IT -/
set_option maxRecDepth 100000 in
theorem lifted (os : Os) (started : os.Started) (H : Type) (enc : TypeId × Value → H) :
    ReturnsInHanded {} Try.checked os 5 .any (Rows.fnRelayEntriesRecurrenceSpec.pre6 enc Try.prog Try.f5 Rows.fnRelayEntriesRecurrenceRow.domain false) (Rows.fnRelayEntriesRecurrenceSpec.post enc Try.prog Try.f5 false true false false) := by
  refine returnsInHanded_of_change (C := Try.checked) own started (by kernel_rfl) Try.func5
    (ChangeSpec.witness6 (enc := enc) (C := Try.checked) false ⟨#[], #[.int .i64 0, .int .i64 0], []⟩ 8 (by kernel_rfl) (by kernel_rfl) (by kernel_rfl) (by kernel_rfl)) ?_
  intro W base args ds gs before hval0 hW hcnd _
  have hval : ∀ (j : Nat) t v, Try.f5.params[j]? = some t → args[j]? = some v → Value.okWide Try.prog W .any base t v := hval0
  have hW' := hW
  obtain ⟨p, q, hA0, hV, rfl, hfz, hnd⟩ := hW
  have hA : DataW.TrodAll enc Try.prog W 0 (fun _ => true) true Try.f5.params.toList args.toList ds p := hA0
  rw [Try.params5] at hA hval
  obtain ⟨v0, vs0, d0, ds0, p0, q0, hargs, rfl, rfl, h0, r0⟩ := trodAll_cons hA
  obtain ⟨v1, vs1, d1, ds1, p1, q1, rfl, rfl, rfl, h1, r1⟩ := trodAll_cons r0
  obtain ⟨rfl, rfl, rfl⟩ := trodAll_nil r1
  obtain rfl : args = #[v0, v1] := by cases args; simp_all
  obtain ⟨rfl, rfl⟩ := trodVars_none hV
  obtain ⟨a0, rfl, rfl, rfl, w0⟩ := open_int Try.underlying3 (hval 0 3 v0 rfl rfl) h0
  obtain ⟨a1, rfl, rfl, rfl, w1⟩ := open_int Try.underlying3 (hval 1 3 v1 rfl rfl) h1
  clear hA0 hval0
  simp only [List.append_nil] at hW'
  refine (walk a0 a1 w0 w1 W).mono fun e W' ⟨he, hg⟩ => ?_
  subst he
  exact ⟨_, rfl, post_of_same (pa := []) (pv := []) hW' (fun _ _ _ => (trodAll_cons_mk (shut_bool Try.underlying4 _) trodAll_mk0)) (fun sp _ => (trodAll_cons_mk (shut_int Try.underlying3 w0) (trodAll_cons_mk (shut_int Try.underlying3 w1) trodAll_mk0))) (fun _ _ => rfl) rfl
    (hg.frame _) hg.2.1 (ok_one (by kernel_rfl) rfl (okWide_bool_mk Try.underlying4 _))⟩

theorem over : Rows.fnRelayEntriesRecurrenceRow.holds Try.pinned (OpenSpec.ofChange Rows.fnRelayEntriesRecurrenceSpec) :=
  OpenClaim.holds_of_wide 5 Try.f5 rfl rfl rfl rfl rfl rfl rfl ⟨rfl, rfl, rfl, rfl, rfl⟩ rfl rfl rfl rfl rfl (by kernel_rfl) Try.func5 (by kernel_rfl)
    (of_decide_eq_true (by kernel_rfl)) (by unfold Func.isWrapper; first | (rw [if_pos (by decide +kernel)]; kernel_rfl) | (rw [if_neg (by decide +kernel)]; exact ⟨rfl, rfl⟩))
    (fun os started H enc _ => lifted os started H enc)

/-- ████ THE STATEMENT ████ -/
theorem proved : Rows.FnRelayEntriesRecurrenceSaid :=
  over
end Go.Proofs.Qxb6000740a.fnRelayEntriesRecurrence
