/-
  The gates of the law: Words, Bytes, RowBytes, zzBytes, RowOK.
-/
import Derived.Test.Qxb6600645aBase
namespace Go.Proofs.Qxb6600645a.gate
open Go.ChangeShapes Go.WideShapes Go.ChangeAt Go.RowKit
open Go.Proofs.Qxb6600645a.base

theorem wordsC (t n : Int) (w : World) (ht : 0 ≤ t) (ht1 : t ≤ 2097153) (hn : 0 ≤ n) :
    Calls Try.prog 53 #[.int .i64 t, .int .i64 n] w fun e w' => ∃ r, e = .returned (.int .i64 r) ∧ w' = w ∧ 0 ≤ r ∧ (r ≤ 1048576 → t ≤ 1048576 ∧ n ≤ 131072 ∧ r = t + 8 * n) ∧ r ≤ 2097153 := by
  by_cases h1 : 1048576 < t
  · go_enter Try.func53, Try.ntmps53
    go_wp2
    go_ret
    exact ⟨_, rfl, rfl, by omega, by omega, by omega⟩
  by_cases h2 : 131072 < n
  · go_enter Try.func53, Try.ntmps53
    go_wp2
    go_ret
    exact ⟨_, rfl, rfl, by omega, by omega, by omega⟩
  · go_enter Try.func53, Try.ntmps53
    go_wp2
    go_ret
    exact ⟨_, rfl, rfl, by omega, by omega, by omega⟩
def RB (t r : Int) : Prop := 0 ≤ r ∧ (r ≤ 1048576 → t ≤ 1048576) ∧ r ≤ 2097153
theorem bytesC (t n : Int) (w : World) (ht : 0 ≤ t) (ht1 : t ≤ 2097153) (hn : 0 ≤ n) :
    Calls Try.prog 54 #[.int .i64 t, .int .i64 n] w fun e w' => ∃ r, e = .returned (.int .i64 r) ∧ w' = w ∧ RB t r := by
  by_cases h1 : 1048576 < t
  · go_enter Try.func54, Try.ntmps54
    go_wp2
    go_ret
    exact ⟨_, rfl, rfl, by unfold RB; omega⟩
  by_cases h2 : 1048576 < n
  · go_enter Try.func54, Try.ntmps54
    go_wp2
    go_ret
    exact ⟨_, rfl, rfl, by unfold RB; omega⟩
  · go_enter Try.func54, Try.ntmps54
    go_wp2
    go_ret
    exact ⟨_, rfl, rfl, by unfold RB; omega⟩

theorem rowBytesC (a0 : Option Addr) (l0 c0 : Nat) (a1 : Option Addr) (l1 c1 : Nat) (a2 : Option Addr) (l2 c2 : Nat) (a3 : Option Addr) (l3 c3 : Nat) (a4 : Option Addr) (l4 c4 : Nat) (a5 : Option Addr) (l5 c5 : Nat) (w : World) :
    Calls Try.prog 43 #[.slice a0 l0 c0, .slice a1 l1 c1, .slice a2 l2 c2, .slice a3 l3 c3, .slice a4 l4 c4, .slice a5 l5 c5] w fun e w' => ∃ r, e = .returned (.int .i64 r) ∧ w' = w ∧ (r ≤ 1048576 → l2 ≤ 131072 ∧ l3 ≤ 131072) := by
  go_enter Try.func43, Try.ntmps43
  go_wp2_with fail
  refine (bytesC 0 l0 _ (by omega) (by omega) (by omega)).mono ?_
  rintro e w' ⟨r1, rfl, rfl, p1, q1, s1⟩
  go_wp2_with fail
  refine (bytesC r1 l1 _ p1 s1 (by omega)).mono ?_
  rintro e w' ⟨r2, rfl, rfl, p2, q2, s2⟩
  go_wp2_with fail
  refine (wordsC r2 l2 _ p2 s2 (by omega)).mono ?_
  rintro e w' ⟨r3, rfl, rfl, p3, q3, s3⟩
  go_wp2_with fail
  refine (wordsC r3 l3 _ p3 s3 (by omega)).mono ?_
  rintro e w' ⟨r4, rfl, rfl, p4, q4, s4⟩
  go_wp2_with fail
  refine (wordsC r4 l4 _ p4 s4 (by omega)).mono ?_
  rintro e w' ⟨r5, rfl, rfl, p5, q5, s5⟩
  go_wp2_with fail
  refine (bytesC r5 l5 _ p5 s5 (by omega)).mono ?_
  rintro e w' ⟨r6, rfl, rfl, p6, q6, s6⟩
  have HF : Hid (r6 ≤ 1048576 → l2 ≤ 131072 ∧ l3 ≤ 131072) := by
    intro h
    have h6 := q6 h
    have h5 := q5 h6
    have h4 := q4 h5.1
    have h3 := q3 h4.1
    omega
  clear q1 q2 q3 q4 q5 q6
  go_wp2_with fail
  go_ret
  exact ⟨r6, rfl, rfl, HF.out⟩

/-- the lengths that zzBytes lets by -/
def YesIf (e : Ending) (p : Prop) : Prop := ∃ r : Bool, e = .returned (.bool r) ∧ (r = true → p)
set_option maxRecDepth 100000 in
set_option maxHeartbeats 2000000 in
theorem zzC (a0 : Option Addr) (l0 c0 : Nat) (a1 : Option Addr) (l1 c1 : Nat) (a2 : Option Addr) (l2 c2 : Nat) (a3 : Option Addr) (l3 c3 : Nat) (a4 : Option Addr) (l4 c4 : Nat) (n : Int) (a6 : Option Addr) (l6 c6 : Nat) (w : World)
    (b0 : l0 ≤ maxLen) (b1 : l1 ≤ maxLen) (b2 : l2 ≤ maxLen) (b3 : l3 ≤ maxLen) (b4 : l4 ≤ maxLen) (b6 : l6 ≤ maxLen) :
    Calls Try.prog 42 #[.slice a0 l0 c0, .slice a1 l1 c1, .slice a2 l2 c2, .slice a3 l3 c3, .slice a4 l4 c4, .int .i64 n, .slice a6 l6 c6] w fun e w' => w' = w ∧ YesIf e (l0 ≤ 1048576 ∧ l1 ≤ 1048576 ∧ l2 ≤ 1048576 ∧ l3 ≤ 1048576 ∧ l4 ≤ 1048576 ∧ l6 ≤ 1048576) := by
  unfold maxLen at b0 b1 b2 b3 b4 b6
  by_cases h0 : 1048576 < l0
  · go_enter Try.func42, Try.ntmps42
    go_wp2
    go_ret
    exact ⟨rfl, false, rfl, fun h => by cases h⟩
  by_cases h1 : 1048576 < l1
  · go_enter Try.func42, Try.ntmps42
    go_wp2
    go_ret
    exact ⟨rfl, false, rfl, fun h => by cases h⟩
  by_cases h01 : 1048576 < l0 + l1
  · go_enter Try.func42, Try.ntmps42
    go_wp2
    go_ret
    exact ⟨rfl, false, rfl, fun h => by cases h⟩
  by_cases h2 : 1048576 < l2
  · go_enter Try.func42, Try.ntmps42
    go_wp2
    go_ret
    exact ⟨rfl, false, rfl, fun h => by cases h⟩
  by_cases h02 : 1048576 < l0 + l1 + l2
  · go_enter Try.func42, Try.ntmps42
    go_wp2
    go_ret
    exact ⟨rfl, false, rfl, fun h => by cases h⟩
  by_cases h3 : 1048576 < l3
  · go_enter Try.func42, Try.ntmps42
    go_wp2
    go_ret
    exact ⟨rfl, false, rfl, fun h => by cases h⟩
  by_cases h03 : 1048576 < l0 + l1 + l2 + l3
  · go_enter Try.func42, Try.ntmps42
    go_wp2
    go_ret
    exact ⟨rfl, false, rfl, fun h => by cases h⟩
  by_cases h4 : 1048576 < l4
  · go_enter Try.func42, Try.ntmps42
    go_wp2
    go_ret
    exact ⟨rfl, false, rfl, fun h => by cases h⟩
  by_cases h04 : 1048576 < l0 + l1 + l2 + l3 + l4
  · go_enter Try.func42, Try.ntmps42
    go_wp2
    go_ret
    exact ⟨rfl, false, rfl, fun h => by cases h⟩
  by_cases h6 : 1048576 < l6
  · go_enter Try.func42, Try.ntmps42
    go_wp2
    go_ret
    exact ⟨rfl, false, rfl, fun h => by cases h⟩
  by_cases h06 : 1048576 < l0 + l1 + l2 + l3 + l4 + l6
  · go_enter Try.func42, Try.ntmps42
    go_wp2
    go_ret
    exact ⟨rfl, false, rfl, fun h => by cases h⟩
  have HF : Hid (l0 ≤ 1048576 ∧ l1 ≤ 1048576 ∧ l2 ≤ 1048576 ∧ l3 ≤ 1048576 ∧ l4 ≤ 1048576 ∧ l6 ≤ 1048576) := (show _ ∧ _ by omega)
  go_enter Try.func42, Try.ntmps42
  go_wp2
  go_ret
  exact ⟨rfl, true, rfl, fun _ => HF.out⟩
end Go.Proofs.Qxb6600645a.gate
