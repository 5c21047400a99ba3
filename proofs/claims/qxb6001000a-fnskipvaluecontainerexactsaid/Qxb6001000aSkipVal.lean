/-
  (*reader).skipValue at a container, ZZSkipValue, walked.
-/
import Derived.Test.Qxb6001000aSkipStr
import Derived.Test.Qxb6001000aPlain2
namespace Go.Proofs.Qxb6001000a.skipval
open Go.ChangeShapes Go.WideShapes Go.ChangeAt Go.RowKit
open Go.Proofs.Qxb6001000a.base Go.Proofs.Qxb6001000a.space Go.Proofs.Qxb6001000a.plain Go.Proofs.Qxb6001000a.skipstr

/-- where the loop stands -/
def On (ys out : List Int) (k d : Nat) : Prop := ∃ l, At ys k l ∧ Done l d out
theorem on_end {ys out : List Int} {k : Nat} (h : On ys out k 0) : At ys k out := by
  obtain ⟨l, h1, h2⟩ := h
  rwa [done_zero_eq h2] at h1
theorem on_lt {ys out : List Int} {k d : Nat} (h : On ys out k (d + 1)) : k < ys.length := by
  obtain ⟨l, h1, h2⟩ := h
  cases l with
  | nil => exact (done_nil h2).elim
  | cons c r => have := h1.len; omega
theorem on_str {ys out : List Int} {k d : Nat} (h : On ys out k (d + 1)) (hc : ys.getD k 0 = 34) :
    ∃ tl P last body, In ys tl P last (k + 1) true body ∧ k + 1 ≤ last ∧ last < ys.length ∧ On ys out (last + 1) (d + 1) := by
  obtain ⟨l, h1, h2⟩ := h
  cases l with
  | nil => exact (done_nil h2).elim
  | cons c r =>
    obtain rfl : c = 34 := by rw [← h1.get, hc]
    obtain ⟨r', e1, e2⟩ := done_str h2
    obtain ⟨body, P, rfl, hb⟩ := of_strEnd r.length r (Nat.le_refl _) r' e1
    have hl := h1.next
    have hlen := h1.len
    simp only [List.length_append, List.length_cons] at hlen
    refine ⟨r', P, k + 1 + body.length, body, ⟨hl, rfl, P, hb, by simp⟩, by omega, by omega, r', ?_, e2⟩
    unfold At at *
    rw [show k + 1 + body.length + 1 = k + 1 + (body.length + 1) by omega, ← List.drop_drop, hl, ← List.drop_drop, List.drop_left]
    rfl
theorem on_open {ys out : List Int} {k d : Nat} (h : On ys out k (d + 1)) (hc : ys.getD k 0 = 123 ∨ ys.getD k 0 = 91) : On ys out (k + 1) (d + 2) := by
  obtain ⟨l, h1, h2⟩ := h
  cases l with
  | nil => exact (done_nil h2).elim
  | cons c r => exact ⟨r, h1.next, done_open (by rw [← h1.get]; exact hc) h2⟩
theorem on_close {ys out : List Int} {k d : Nat} (h : On ys out k (d + 1)) (hc : ys.getD k 0 = 125 ∨ ys.getD k 0 = 93) : On ys out (k + 1) d := by
  obtain ⟨l, h1, h2⟩ := h
  cases l with
  | nil => exact (done_nil h2).elim
  | cons c r => exact ⟨r, h1.next, done_close (by rw [← h1.get]; exact hc) h2⟩
theorem on_other {ys out : List Int} {k d : Nat} {c : Int} (h : On ys out k (d + 1)) (hc : ys.getD k 0 = c) (n1 : c ≠ 34) (n2 : c ≠ 123) (n3 : c ≠ 91) (n4 : c ≠ 125) (n5 : c ≠ 93) : On ys out (k + 1) (d + 1) := by
  obtain ⟨l, h1, h2⟩ := h
  cases l with
  | nil => exact (done_nil h2).elim
  | cons c' r =>
    obtain rfl : c' = c := by rw [← h1.get, hc]
    exact ⟨r, h1.next, done_other n1 n2 n3 n4 n5 h2⟩

set_option maxRecDepth 100000 in
set_option maxHeartbeats 4000000 in
theorem skipVal (b g cap n p : Nat) (ys out : List Int) (c : Int) (w : World) (hr : Rd w b (.slice (some ⟨g, 0, none⟩) n cap) p) (hB : Bytes w g 0 ys) (hbg : g ≠ b)
    (hn : ys.length = n) (hle : n ≤ cap) (hm : n ≤ 140737488355328) (hp : p < n) (hc : ys.getD p 0 = c) (hco : c = 123 ∨ c = 91) (hon : On ys out (p + 1) 1) :
    Calls Try.prog 32 #[.pointer (some ⟨b, 0, none⟩)] w fun e w' => e = .returned (.tuple #[]) ∧ ∃ k : Nat, k ≤ n ∧ At ys k out ∧ Rd w' b (.slice (some ⟨g, 0, none⟩) n cap) k ∧ But b w w' := by
  have c0 := hr.c0
  have c1 := hr.c1
  have f1 := hr.f1
  have c2 := hB.cell0 p (by omega)
  rw [hc] at c2
  have HN : Hid (ys.length = n) := hn
  clear hn hc
  rcases hco with rfl | rfl
  all_goals
    go_enter Try.func32, Try.ntmps32
    go_wp2_with fail
    go_quiet (fail)
    go_wp2_with fail
    go_loopw [2] (fun q wr => ∃ k d : Nat, p + 1 ≤ k ∧ d ≤ k ∧ k ≤ n ∧ q = .int .i64 d ∧ On ys out k d ∧ Rd wr b (.slice (some ⟨g, 0, none⟩) n cap) k ∧ But b w wr) (fun _ wr => n - (intOf ((wr.cell? ⟨b, 1, none⟩).getD undef)).toNat)
    case atStart => exact ⟨p + 1, 1, by omega, by omega, by omega, rfl, hon, by simpa using (hr.drewN _).set (p + 1), ((But.refl b w).drewN _).set _ _⟩
    case round =>
      clear c0 c1 f1 c2 hon hr
      obtain ⟨k, d, hk1, hd, hk2, rfl, hon, hrr, hbut⟩ := hrel
      have c0 := hrr.c0
      have c1 := hrr.c1
      have f1 := hrr.f1
      have hBr := hB.same (hbut.block g hbg)
      cases d with
      | zero =>
        have ha := on_end hon
        go_wp2_with fail
        go_end0
        exact ⟨rfl, k, hk2, ha, hrr, hbut⟩
      | succ d =>
        have hkl := on_lt hon
        have c2 := hBr.cell0 k hkl
        obtain ⟨x, hx⟩ : ∃ x, ys.getD k 0 = x := ⟨_, rfl⟩
        rw [hx] at c2
        rw [HN.out] at hkl
        by_cases x34 : x = 34
        · subst x34
          obtain ⟨tl, P, last, body, hin, hl1, hl2, hon2⟩ := on_str hon hx
          rw [HN.out] at hl2
          clear hon hx
          go_wp2_with fail
          go_quiet (fail)
          go_wp2_with fail
          refine (skipStr b g cap n k last ys tl body P _ (hrr.drewN _) (hBr.drewN _) hbg HN.out hle hm hin).mono ?_
          rintro e w2 ⟨rfl, hr2, hb2⟩
          have hbut2 := (hbut.drewN _).trans hb2
          have d1 := hr2.c1
          clear hb2 hBr c2
          go_wp2_with fail
          go_roundw
          case rel => exact ⟨last + 1, d + 1, by omega, by omega, by omega, by go_num, hon2, by simpa using hr2, hbut2⟩
          case measure => rw [d1, c1]; simp [intOf]; omega
        by_cases x123 : x = 123
        · subst x123
          have hon2 := on_open hon (.inl hx)
          clear hon hx
          go_wp2_with fail
          go_quiet (fail)
          go_wp2_with fail
          go_roundw
          case rel => exact ⟨k + 1, d + 2, by omega, by omega, by omega, by go_num, hon2, by simpa using (hrr.drewN _).set ((k : Int) + 1), (hbut.drewN _).set _ _⟩
          case measure => rw [((hrr.drewN _).set _).c1, c1]; simp [intOf]; omega
        by_cases x91 : x = 91
        · subst x91
          have hon2 := on_open hon (.inr hx)
          clear hon hx
          go_wp2_with fail
          go_quiet (fail)
          go_wp2_with fail
          go_roundw
          case rel => exact ⟨k + 1, d + 2, by omega, by omega, by omega, by go_num, hon2, by simpa using (hrr.drewN _).set ((k : Int) + 1), (hbut.drewN _).set _ _⟩
          case measure => rw [((hrr.drewN _).set _).c1, c1]; simp [intOf]; omega
        by_cases x125 : x = 125
        · subst x125
          have hon2 := on_close hon (.inl hx)
          clear hon hx
          go_wp2_with fail
          go_quiet (fail)
          go_wp2_with fail
          go_roundw
          case rel => exact ⟨k + 1, d, by omega, by omega, by omega, by go_num, hon2, by simpa using (hrr.drewN _).set ((k : Int) + 1), (hbut.drewN _).set _ _⟩
          case measure => rw [((hrr.drewN _).set _).c1, c1]; simp [intOf]; omega
        by_cases x93 : x = 93
        · subst x93
          have hon2 := on_close hon (.inr hx)
          clear hon hx
          go_wp2_with fail
          go_quiet (fail)
          go_wp2_with fail
          go_roundw
          case rel => exact ⟨k + 1, d, by omega, by omega, by omega, by go_num, hon2, by simpa using (hrr.drewN _).set ((k : Int) + 1), (hbut.drewN _).set _ _⟩
          case measure => rw [((hrr.drewN _).set _).c1, c1]; simp [intOf]; omega
        have hon2 := on_other hon hx x34 x123 x91 x125 x93
        have b1 : (x == 34) = false := beq_eq_false_iff_ne.2 x34
        have b2 : (x == 123) = false := beq_eq_false_iff_ne.2 x123
        have b3 : (x == 91) = false := beq_eq_false_iff_ne.2 x91
        have b4 : (x == 125) = false := beq_eq_false_iff_ne.2 x125
        have b5 : (x == 93) = false := beq_eq_false_iff_ne.2 x93
        clear hon hx x34 x123 x91 x125 x93
        go_wp2_with fail
        go_quiet (fail)
        go_wp2_with fail
        go_roundw
        case rel => exact ⟨k + 1, d + 1, by omega, by omega, by omega, by go_num, hon2, by simpa using (hrr.drewN _).set ((k : Int) + 1), (hbut.drewN _).set _ _⟩
        case measure => rw [((hrr.drewN _).set _).c1, c1]; simp [intOf]; omega

theorem zzSkipVal (g cap n p : Nat) (ys out : List Int) (c : Int) (w : World) (hB : Bytes w g 0 ys)
    (hn : ys.length = n) (hle : n ≤ cap) (hm : n ≤ 140737488355328) (hp : p < n) (hc : ys.getD p 0 = c) (hco : c = 123 ∨ c = 91) (hon : On ys out (p + 1) 1) :
    Calls Try.prog 24 #[.slice (some ⟨g, 0, none⟩) n cap, .int .i64 p] w fun e w' => ∃ k : Nat, e = .returned (.int .i64 k) ∧ k ≤ n ∧ At ys k out ∧ Below w.heap.size w w' := by
  have hr := rd_alloc w (.slice (some ⟨g, 0, none⟩) n cap) p
  have hB1 := hB.below ((Below.refl _ _).alloc (Nat.le_refl _) (.cells #[.slice (some ⟨g, 0, none⟩) n cap, .int .i64 p] 43)) hB.1
  have hne : g ≠ w.heap.size := Nat.ne_of_lt hB.1
  have HN : Hid (ys.length = n) := hn
  have HC : Hid (ys.getD p 0 = c) := hc
  have HCO : Hid (c = 123 ∨ c = 91) := hco
  clear hn hB hc hco
  go_enter Try.func24, Try.ntmps24
  go_wp2_with fail
  refine (skipVal w.heap.size g cap n p ys out c _ hr hB1 hne HN.out hle hm hp HC.out HCO.out hon).mono ?_
  rintro e w' ⟨rfl, k, hkn, hat, hr', hbut⟩
  have c1 := hr'.c1
  have hb := below_box hbut
  clear hr hr' hbut hB1 hon
  go_wp2_with fail
  go_ret
  exact ⟨k, rfl, hkn, hat, hb⟩
end Go.Proofs.Qxb6001000a.skipval
