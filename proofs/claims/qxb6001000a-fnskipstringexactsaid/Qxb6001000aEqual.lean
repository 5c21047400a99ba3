/-
  bytesEqual_b1, bytesEqualString_b1, plainModel_b1, zzBytes_FnSkipStringExact, walked.
-/
import Derived.Test.Qxb6001000aQuote
namespace Go.Proofs.Qxb6001000a.equal
open Go.ChangeShapes Go.WideShapes Go.ChangeAt Go.RowKit
open Go.Proofs.Qxb6001000a.base Go.Proofs.Qxb6001000a.plain Go.Proofs.Qxb6001000a.quoted

set_option maxHeartbeats 400000 in
theorem bytesEqual (g1 o1 c1 g2 o2 c2 n : Nat) (zs : List Int) (w : World) (hn : zs.length = n) (hm : n ≤ 1099511627776) (h1 : Bytes w g1 o1 zs) (h2 : Bytes w g2 o2 zs) :
    Calls Try.prog 17 #[.slice (some ⟨g1, o1, none⟩) n c1, .slice (some ⟨g2, o2, none⟩) n c2] w fun e w' => e = .returned (.bool true) ∧ Below w.heap.size w w' := by
  have HN : Hid (zs.length = n) := hn
  clear hn
  go_enter Try.func17, Try.ntmps17
  go_wp2_with fail
  go_loopw [5] (fun i wr => ∃ k : Nat, k ≤ n ∧ i = .int .i64 k ∧ Below w.heap.size w wr) (fun i _ => n - (intOf i).toNat)
  case atStart => exact ⟨0, by omega, rfl, Below.refl _ _⟩
  case round =>
    obtain ⟨k, hk, rfl, hb⟩ := hrel
    by_cases hlt : k < n
    · have hkl : k < zs.length := by rw [HN.out]; exact hlt
      have d1 := (h1.below hb h1.1).cell k hkl
      have d2 := (h2.below hb h2.1).cell k hkl
      generalize zs.getD k 0 = c at d1 d2
      clear hkl
      go_wp2_with fail
      go_quiet (fail)
      go_wp2_with fail
      go_roundw
      case rel => exact ⟨k + 1, by omega, by go_num, below_drewN hb _⟩
      case measure => simp [intOf]; omega
    · go_wp2_with fail
      go_ret
      exact ⟨rfl, hb⟩

theorem sb_get (s : ByteArray) (k : Nat) (h : k < s.size) : (sb s).getD k 0 = (s[k].toNat : Int) := by
  have h1 : k < (sb s).length := by rw [sb_len]; exact h
  rw [List.getD_eq_getElem?_getD, List.getElem?_eq_getElem h1]
  simp only [sb, List.getElem_map, Option.getD_some]
  rfl

set_option maxHeartbeats 400000 in
theorem bytesEqualString (g o c : Nat) (s : ByteArray) (w : World) (hm : s.size ≤ 1048576) (h : Bytes w g o (sb s)) :
    Calls Try.prog 19 #[.slice (some ⟨g, o, none⟩) s.size c, .string s] w fun e w' => e = .returned (.bool true) ∧ Below w.heap.size w w' := by
  go_enter Try.func19, Try.ntmps19
  go_wp2_with fail
  go_loopw [5] (fun i wr => ∃ k : Nat, k ≤ s.size ∧ i = .int .i64 k ∧ Below w.heap.size w wr) (fun i _ => s.size - (intOf i).toNat)
  case atStart => exact ⟨0, by omega, rfl, Below.refl _ _⟩
  case round =>
    obtain ⟨k, hk, rfl, hb⟩ := hrel
    by_cases hlt : k < s.size
    · have d1 := (h.below hb h.1).cell k (by rw [sb_len]; exact hlt)
      rw [sb_get s k hlt] at d1
      go_wp2_with fail
      go_quiet (fail)
      go_wp2_with fail
      go_roundw
      case rel => exact ⟨k + 1, by omega, by go_num, below_drewN hb _⟩
      case measure => simp [intOf]; omega
    · go_wp2_with fail
      go_ret
      exact ⟨rfl, hb⟩

theorem ret_bool {a b : Bool} (h : a = b) : Ending.returned (.bool a) = .returned (.bool b) := by rw [h]
theorem plain_no {esc : Bool} {s : ByteArray} {k : Nat} (h : k < s.size) (hp : plainB esc (s[k].toNat : Int) = false) : plainS esc (sb s) = false := by
  unfold plainS
  rw [List.all_eq_false]
  refine ⟨(s[k].toNat : Int), ?_, by simp [hp]⟩
  rw [← sb_get s k h, List.getD_eq_getElem?_getD, List.getElem?_eq_getElem (by rw [sb_len]; exact h)]
  exact List.getElem_mem _

set_option maxRecDepth 100000 in
set_option maxHeartbeats 2000000 in
theorem plainModel (s : ByteArray) (esc : Bool) (w : World) (hm : s.size ≤ 1048576) :
    Calls Try.prog 18 #[.string s, .bool esc] w fun e w' => e = .returned (.bool (plainS esc (sb s))) ∧ w' = w := by
  go_enter Try.func18, Try.ntmps18
  go_wp2_with fail
  go_loop [5] (fun i => ∃ k : Nat, k ≤ s.size ∧ i = .int .i64 k ∧ Hid (((sb s).take k).all (plainB esc) = true)) (fun i => s.size - (intOf i).toNat)
  case atStart => exact ⟨0, by omega, rfl, rfl⟩
  case round =>
    obtain ⟨k, hk, rfl, hall⟩ := hrel
    by_cases hlt : k < s.size
    · cases hp : plainB esc (s[k].toNat : Int)
      · have HF : Hid (plainS esc (sb s) = false) := plain_no hlt hp
        have hcase : (s[k].toNat : Int) < 32 ∨ 128 ≤ (s[k].toNat : Int) ∨ (s[k].toNat : Int) = 34 ∨ (s[k].toNat : Int) = 92 ∨ ((s[k].toNat : Int) = 47 ∧ esc = true) := by
          simp only [plainB, Bool.not_eq_false', Bool.or_eq_true, decide_eq_true_eq, beq_iff_eq, Bool.and_eq_true] at hp
          rcases hp with (((h | h) | h) | h) | h
          · exact .inl h
          · exact .inr (.inl h)
          · exact .inr (.inr (.inl h))
          · exact .inr (.inr (.inr (.inl h)))
          · exact .inr (.inr (.inr (.inr h)))
        clear hp hall
        by_cases a1 : (s[k].toNat : Int) < 32
        · clear hcase
          go_wp2_with fail
          go_ret
          exact ⟨ret_bool HF.out.symm, rfl⟩
        by_cases a2 : 128 ≤ (s[k].toNat : Int)
        · clear hcase
          go_wp2_with fail
          go_ret
          exact ⟨ret_bool HF.out.symm, rfl⟩
        by_cases a3 : (s[k].toNat : Int) = 34
        · clear hcase
          go_wp2_with fail
          go_ret
          exact ⟨ret_bool HF.out.symm, rfl⟩
        by_cases a4 : (s[k].toNat : Int) = 92
        · clear hcase
          go_wp2_with fail
          go_ret
          exact ⟨ret_bool HF.out.symm, rfl⟩
        obtain ⟨a5, rfl⟩ : (s[k].toNat : Int) = 47 ∧ esc = true := by
          rcases hcase with h | h | h | h | h
          · exact absurd h a1
          · exact absurd h a2
          · exact absurd h a3
          · exact absurd h a4
          · exact h
        clear hcase
        go_wp2_with fail
        go_ret
        exact ⟨ret_bool HF.out.symm, rfl⟩
      · have HA : Hid (((sb s).take (k + 1)).all (plainB esc) = true) := by
          show List.all _ _ = true
          rw [sb_take s k hlt, List.all_append, hall.out]
          simp [hp]
        have hcase : ¬ (s[k].toNat : Int) < 32 ∧ ¬ 128 ≤ (s[k].toNat : Int) ∧ (s[k].toNat : Int) ≠ 34 ∧ (s[k].toNat : Int) ≠ 92 ∧ ¬ ((s[k].toNat : Int) = 47 ∧ esc = true) := by
          simp only [plainB, Bool.not_eq_true', Bool.or_eq_false_iff, decide_eq_false_iff_not, beq_eq_false_iff_ne, ne_eq, Bool.and_eq_false_imp, beq_iff_eq] at hp
          obtain ⟨⟨⟨⟨p1, p2⟩, p3⟩, p4⟩, p5⟩ := hp
          exact ⟨p1, p2, p3, p4, fun h => by have := p5 h.1; simp [h.2] at this⟩
        obtain ⟨a1, a2, a3, a4, a5⟩ := hcase
        clear hp
        by_cases a6 : (s[k].toNat : Int) = 47
        · have : esc = false := by simpa [a6] using a5
          subst this
          clear a5
          go_wp2_with fail
          go_round
          case rel => exact ⟨k + 1, by omega, by go_num, HA⟩
          case measure => simp [intOf]; omega
        · have b3 : ((s[k].toNat : Int) == 34) = false := beq_eq_false_iff_ne.2 a3
          have b4 : ((s[k].toNat : Int) == 92) = false := beq_eq_false_iff_ne.2 a4
          have b6 : ((s[k].toNat : Int) == 47) = false := beq_eq_false_iff_ne.2 a6
          clear a5 a3 a4 a6
          go_wp2_with fail
          go_round
          case rel => exact ⟨k + 1, by omega, by go_num, HA⟩
          case measure => simp [intOf]; omega
    · have HA : Hid (plainS esc (sb s) = true) := by
        have := hall.out
        rw [List.take_of_length_le (by rw [sb_len]; omega)] at this
        exact this
      go_wp2_with fail
      go_ret
      exact ⟨ret_bool HA.out.symm, rfl⟩

theorem bytesOk (a0 : Option Addr) (l0 c0 : Nat) (s : ByteArray) (esc : Bool) (a3 : Option Addr) (l3 c3 : Nat) (w : World) (h : l0 + s.size + l3 ≤ 1048576) :
    Calls Try.prog 14 #[.slice a0 l0 c0, .string s, .bool esc, .slice a3 l3 c3] w fun e w' => e = .returned (.bool true) ∧ w' = w := by
  go_enter Try.func14, Try.ntmps14
  go_wp2
  go_ret
  exact ⟨rfl, rfl⟩
theorem bytesNo (a0 : Option Addr) (l0 c0 : Nat) (s : ByteArray) (esc : Bool) (a3 : Option Addr) (l3 c3 : Nat) (w : World) (h : 1048576 < l0 + s.size + l3) (b0 : l0 ≤ maxLen) (b1 : s.size ≤ maxLen) (b3 : l3 ≤ maxLen) :
    Calls Try.prog 14 #[.slice a0 l0 c0, .string s, .bool esc, .slice a3 l3 c3] w fun e w' => e = .returned (.bool false) ∧ w' = w := by
  unfold maxLen at *
  by_cases h0 : 1048576 < l0
  · go_enter Try.func14, Try.ntmps14
    go_wp2
    go_ret
    exact ⟨rfl, rfl⟩
  by_cases h1 : 1048576 < s.size
  · go_enter Try.func14, Try.ntmps14
    go_wp2
    go_ret
    exact ⟨rfl, rfl⟩
  by_cases h2 : 1048576 < l0 + s.size
  · go_enter Try.func14, Try.ntmps14
    go_wp2
    go_ret
    exact ⟨rfl, rfl⟩
  by_cases h3 : 1048576 < l3
  · go_enter Try.func14, Try.ntmps14
    go_wp2
    go_ret
    exact ⟨rfl, rfl⟩
  · go_enter Try.func14, Try.ntmps14
    go_wp2
    go_ret
    exact ⟨rfl, rfl⟩
end Go.Proofs.Qxb6001000a.equal
