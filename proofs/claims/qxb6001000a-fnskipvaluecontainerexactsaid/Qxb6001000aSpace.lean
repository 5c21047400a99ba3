/-
  (*reader).skipSpace, ZZSkipSpace and the law FnSkipSpaceStopsAtFirstNonSpace, walked.
-/
import Derived.Test.Qxb6001000aBase
namespace Go.Proofs.Qxb6001000a.space
open Go.ChangeShapes Go.WideShapes Go.ChangeAt Go.RowKit
open Go.Proofs.Qxb6001000a.base

/-- a reader lies in block b: data, off -/
def Rd (w : World) (b : Nat) (v : Value) (off : Int) : Prop := w.heap[b]? = some (.cells #[v, .int .i64 off] 43 (0, 0))
theorem Rd.c0 {w : World} {b : Nat} {v : Value} {off : Int} (h : Rd w b v off) : w.cell? ⟨b, 0, none⟩ = some v := by
  unfold Rd at h; simp [World.cell?, h]
theorem Rd.c1 {w : World} {b : Nat} {v : Value} {off : Int} (h : Rd w b v off) : w.cell? ⟨b, 1, none⟩ = some (.int .i64 off) := by
  unfold Rd at h; simp [World.cell?, h]
theorem Rd.f1 {w : World} {b : Nat} {v : Value} {off : Int} (h : Rd w b v off) : w.frozen? ⟨b, 1, none⟩ = false := by
  unfold Rd at h; simp [World.frozen?, h]
theorem Rd.set {w : World} {b : Nat} {v : Value} {off : Int} (h : Rd w b v off) (off' : Int) : Rd (w.setCell ⟨b, 1, none⟩ (.int .i64 off')) b v off' := by
  unfold Rd at *
  rw [setCell_eq_setRow w b 1 _ 43 (0, 0) _ h]
  exact setRow_heap w b _ _ 43 _ h
theorem Rd.drewN {w : World} {b : Nat} {v : Value} {off : Int} (h : Rd w b v off) (n : Nat) : Rd (w.drewN n) b v off := by unfold Rd at *; simpa using h

/-- w' is w but for writes into block b -/
structure But (b : Nat) (w w' : World) : Prop where
  os : w'.os = w.os
  tape : w'.tape = w.tape
  output : w'.output = w.output
  size : w'.heap.size = w.heap.size
  block : ∀ k, k ≠ b → w'.heap[k]? = w.heap[k]?
theorem But.refl (b : Nat) (w : World) : But b w w := ⟨rfl, rfl, rfl, rfl, fun _ _ => rfl⟩
theorem But.drewN {b : Nat} {w w' : World} (h : But b w w') (n : Nat) : But b w (w'.drewN n) := ⟨h.os, h.tape, h.output, h.size, h.block⟩
theorem But.set {b : Nat} {w w' : World} (h : But b w w') (o : Nat) (v : Value) : But b w (w'.setCell ⟨b, o, none⟩ v) :=
  ⟨h.os, h.tape, h.output, by simp [World.setCell, h.size], fun k hk => by rw [Below.heap_setCell _ _ _ _ hk]; exact h.block k hk⟩
theorem But.trans {b : Nat} {w w1 w2 : World} (h : But b w w1) (k : But b w1 w2) : But b w w2 :=
  ⟨k.os.trans h.os, k.tape.trans h.tape, k.output.trans h.output, k.size.trans h.size, fun i hi => (k.block i hi).trans (h.block i hi)⟩
theorem But.below {b B : Nat} {w w' : World} (h : But b w w') (hB : B ≤ b) : Below B w w' :=
  ⟨h.os, h.tape, h.output, Nat.le_of_eq h.size.symm, fun k hk => h.block k (by omega)⟩

theorem sp_false {c : Int} (h : isSp c = false) : (c == 32) = false ∧ (c == 9) = false ∧ (c == 10) = false ∧ (c == 13) = false := by
  unfold isSp at h; simpa [and_assoc] using h
theorem sp_true {c : Int} (h : isSp c = true) : c = 32 ∨ c = 9 ∨ c = 10 ∨ c = 13 := by
  unfold isSp at h; simpa [or_assoc] using h
/-- what skipSpace comes to: n is the place behind the run of spaces -/
def Stops (ys : List Int) (off n : Nat) : Prop :=
  off ≤ n ∧ n ≤ ys.length ∧ (∀ j, off ≤ j → j < n → isSp (ys.getD j 0) = true) ∧ (n < ys.length → isSp (ys.getD n 0) = false)
/-- so far only spaces -/
def Sps (ys : List Int) (off k : Nat) : Prop := ∀ j, off ≤ j → j < k → isSp (ys.getD j 0) = true
theorem Sps.succ {ys : List Int} {off k : Nat} (h : Sps ys off k) (hk : isSp (ys.getD k 0) = true) : Sps ys off (k + 1) := by
  intro j h1 h2
  by_cases e : j = k
  · rw [e]; exact hk
  · exact h j h1 (by omega)

set_option maxHeartbeats 400000 in
theorem skip_nil (b : Nat) (w : World) (hr : Rd w b (.slice none 0 0) 0) :
    Calls Try.prog 25 #[.pointer (some ⟨b, 0, none⟩)] w fun e w' => e = .returned (.tuple #[]) ∧ Rd w' b (.slice none 0 0) 0 ∧ But b w w' := by
  have c0 := hr.c0
  have c1 := hr.c1
  go_enter Try.func25, Try.ntmps25
  go_wp2_with fail
  refine wp_loop_rounds 1 ?_
  rw [rounds_succ]
  go_wp2_with fail
  go_quiet (fail)
  go_wp2_with fail
  go_end0
  exact ⟨rfl, hr.drewN _, (But.refl b w).drewN _⟩

set_option maxHeartbeats 400000 in
theorem skip_some (b g cap : Nat) (ys : List Int) (off : Nat) (w : World) (hr : Rd w b (.slice (some ⟨g, 0, none⟩) ys.length cap) off) (hB : Bytes w g 0 ys) (hbg : g ≠ b) (ho : off ≤ ys.length) (hm : ys.length ≤ 1048576) :
    Calls Try.prog 25 #[.pointer (some ⟨b, 0, none⟩)] w fun e w' => e = .returned (.tuple #[]) ∧ ∃ n : Nat, Stops ys off n ∧ Rd w' b (.slice (some ⟨g, 0, none⟩) ys.length cap) n ∧ But b w w' := by
  go_enter Try.func25, Try.ntmps25
  go_wp2_with fail
  go_loopw [] (fun wr => ∃ k : Nat, off ≤ k ∧ k ≤ ys.length ∧ Sps ys off k ∧ Rd wr b (.slice (some ⟨g, 0, none⟩) ys.length cap) k ∧ But b w wr) (fun wr => ys.length - (intOf ((wr.cell? ⟨b, 1, none⟩).getD undef)).toNat)
  case atStart => exact ⟨off, by omega, ho, fun j h1 h2 => by omega, hr, But.refl b w⟩
  case round =>
    obtain ⟨k, hk1, hk2, hs, hrr, hbut⟩ := hrel
    have c0 := hrr.c0
    have c1 := hrr.c1
    have f1 := hrr.f1
    by_cases hlt : k < ys.length
    · obtain ⟨c, hcd⟩ : ∃ c, ys.getD k 0 = c := ⟨_, rfl⟩
      have c2 := (hB.same (hbut.block g hbg)).cell0 k hlt
      rw [hcd] at c2
      have HCD : Hid (ys.getD k 0 = c) := hcd
      clear hcd
      cases hsp : isSp c
      · obtain ⟨h1, h2, h3, h4⟩ := sp_false hsp
        go_wp2_with fail
        go_quiet (fail)
        go_wp2_with fail
        go_quiet (fail)
        go_wp2_with fail
        refine bodyPost_ret (results_none rfl _ _ _) rfl ?_
        exact ⟨rfl, k, ⟨hk1, hk2, hs, fun _ => by rw [HCD.out]; exact hsp⟩, hrr.drewN _, hbut.drewN _⟩
      · rcases sp_true hsp with rfl | rfl | rfl | rfl
        all_goals
          go_wp2_with fail
          go_quiet (fail)
          go_wp2_with fail
          go_quiet (fail)
          go_wp2_with fail
          go_roundw
          case rel => exact ⟨k + 1, by omega, by omega, hs.succ (by rw [HCD.out]; rfl), (hrr.drewN _).set _, (hbut.drewN _).set _ _⟩
          case measure => rw [((hrr.drewN _).set _).c1, c1]; simp [intOf]; omega
    · go_wp2_with fail
      go_quiet (fail)
      go_wp2_with fail
      go_end0
      exact ⟨rfl, k, ⟨hk1, hk2, hs, fun h => absurd h hlt⟩, hrr.drewN _, hbut.drewN _⟩

theorem rd_alloc (w : World) (v : Value) (off : Int) : Rd (w.alloc (.cells #[v, .int .i64 off] 43)) w.heap.size v off := by
  unfold Rd
  show (w.heap.push _)[w.heap.size]? = _
  simp
theorem below_box {w w' : World} {o : Obj} (h : But w.heap.size (w.alloc o) w') : Below w.heap.size w w' :=
  ((Below.refl _ _).alloc (Nat.le_refl _) o).trans (h.below (Nat.le_refl _))
theorem zzSkip (v : Value) (ys : List Int) (off : Nat) (w : World) (hv : IsB w v ys) (ho : off ≤ ys.length) (hm : ys.length ≤ 1048576) :
    Calls Try.prog 10 #[v, .int .i64 off] w fun e w' => ∃ n : Nat, e = .returned (.int .i64 n) ∧ Stops ys off n ∧ Below w.heap.size w w' := by
  rcases hv with ⟨rfl, rfl⟩ | ⟨g, cap, rfl, hle, hcap, hB⟩
  · obtain rfl : off = 0 := by simpa using ho
    have hr := rd_alloc w (.slice none 0 0) 0
    go_enter Try.func10, Try.ntmps10
    go_wp2_with fail
    refine (skip_nil w.heap.size _ hr).mono ?_
    rintro e w' ⟨rfl, hr', hbut⟩
    have c1 := hr'.c1
    have hb := below_box hbut
    clear hr hr' hbut
    go_wp2_with fail
    go_ret
    exact ⟨0, rfl, ⟨by omega, by simp, fun j _ h => by omega, fun h => by simp at h⟩, hb⟩
  · have hr := rd_alloc w (.slice (some ⟨g, 0, none⟩) ys.length cap) off
    have hB1 := hB.below ((Below.refl _ _).alloc (Nat.le_refl _) (.cells #[.slice (some ⟨g, 0, none⟩) ys.length cap, .int .i64 off] 43)) hB.1
    have hne : g ≠ w.heap.size := Nat.ne_of_lt hB.1
    clear hB
    go_enter Try.func10, Try.ntmps10
    go_wp2_with fail
    refine (skip_some w.heap.size g cap ys off _ hr hB1 hne ho hm).mono ?_
    rintro e w' ⟨rfl, n, hst, hr', hbut⟩
    have c1 := hr'.c1
    have hb := below_box hbut
    clear hr hr' hbut hB1
    go_wp2_with fail
    go_ret
    exact ⟨n, rfl, hst, hb⟩

theorem bytesOk (a : Option Addr) (len cap : Nat) (off : Int) (w : World) (h : len ≤ 1048576) :
    Calls Try.prog 8 #[.slice a len cap, .int .i64 off] w fun e w' => e = .returned (.bool true) ∧ w' = w := by
  go_enter Try.func8, Try.ntmps8
  go_wp2
  go_ret
  exact ⟨rfl, rfl⟩
theorem bytesNo (a : Option Addr) (len cap : Nat) (off : Int) (w : World) (h : 1048576 < len) :
    Calls Try.prog 8 #[.slice a len cap, .int .i64 off] w fun e w' => e = .returned (.bool false) ∧ w' = w := by
  go_enter Try.func8, Try.ntmps8
  go_wp2
  go_ret
  exact ⟨rfl, rfl⟩

theorem walk_far (a : Option Addr) (len cap : Nat) (off : Int) (w : World) (h : 1048576 < len ∨ off < 0 ∨ (len : Int) < off) :
    Calls Try.prog 3 #[.slice a len cap, .int .i64 off] w fun e w' => e = .returned (.bool true) ∧ Below w.heap.size w w' := by
  by_cases h20 : 1048576 < len
  · go_enter Try.func3, Try.ntmps3
    go_wp2_with fail
    refine (bytesNo _ _ _ _ _ h20).mono ?_
    rintro e w' ⟨rfl, rfl⟩
    go_wp2_with fail
    go_ret
    exact ⟨rfl, Below.refl _ _⟩
  · by_cases h0 : off < 0
    · clear h
      go_enter Try.func3, Try.ntmps3
      go_wp2_with fail
      refine (bytesOk _ _ _ _ _ (by omega)).mono ?_
      rintro e w' ⟨rfl, rfl⟩
      go_wp2_with fail
      go_ret
      exact ⟨rfl, Below.refl _ _⟩
    · have h1 : (len : Int) < off := by omega
      clear h
      go_enter Try.func3, Try.ntmps3
      go_wp2_with fail
      refine (bytesOk _ _ _ _ _ (by omega)).mono ?_
      rintro e w' ⟨rfl, rfl⟩
      go_wp2_with fail
      go_ret
      exact ⟨rfl, Below.refl _ _⟩

theorem walk_in (a : Option Addr) (len cap : Nat) (zs : List Int) (off : Nat) (w : World) (hrow : IsRow w a len cap zs) (h20 : len ≤ 1048576) (ho : off ≤ len) :
    Calls Try.prog 3 #[.slice a len cap, .int .i64 off] w fun e w' => e = .returned (.bool true) ∧ Below w.heap.size w w' := by
  have hlen : (zs.take len).length = len := by
    rcases hrow with ⟨_, rfl, _, rfl⟩ | ⟨_, _, h1, _, h3, _⟩
    · rfl
    · simp; omega
  obtain ⟨ys, hys⟩ : ∃ ys, zs.take len = ys := ⟨_, rfl⟩
  go_enter Try.func3, Try.ntmps3
  go_wp2_with fail
  refine (bytesOk _ _ _ _ _ h20).mono ?_
  rintro e w' ⟨rfl, rfl⟩
  go_wp2_with fail
  refine (clone a len cap zs _ hrow h20).mono ?_
  rintro e w1 ⟨v, rfl, hv, hb1⟩
  rw [hys] at hv hlen
  clear hys
  subst hlen
  go_wp2_with fail
  refine (zzSkip v ys off _ hv ho h20).mono ?_
  rintro e w2 ⟨n, rfl, hst, hb2⟩
  have hv2 := hv.below hb2 (Nat.le_refl _)
  have hb : Below w'.heap.size w' w2 := hb1.trans (hb2.mono hb1.size)
  clear hv hb1 hb2 hrow
  obtain ⟨hn1, hn2, hsp, hend⟩ := hst
  have HSP : Hid (∀ j, off ≤ j → j < n → isSp (ys.getD j 0) = true) := hsp
  have HEND : Hid (n < ys.length → isSp (ys.getD n 0) = false) := hend
  clear hsp hend
  rcases hv2 with ⟨rfl, rfl⟩ | ⟨g, cp, rfl, hle, hcap, hB⟩
  · obtain rfl : n = 0 := by simpa using hn2
    obtain rfl : off = 0 := by omega
    go_wp2_with fail
    refine wp_loop_rounds 1 ?_
    rw [rounds_succ]
    go_wp2_with fail
    go_ret
    exact ⟨rfl, hb⟩
  · have d1 : decide (n < off) = false := by simp; omega
    have d2 : decide (ys.length < n) = false := by simp; omega
    go_wp2_with fail
    go_loopw [6] (fun i wr => ∃ k : Nat, off ≤ k ∧ k ≤ n ∧ i = .int .i64 k ∧ Bytes wr g 0 ys ∧ Below w'.heap.size w' wr) (fun i _ => n - (intOf i).toNat)
    case atStart => exact ⟨off, by omega, hn1, rfl, hB, hb⟩
    case round =>
      clear hB hb
      obtain ⟨k, hk1, hk2, rfl, hB, hb⟩ := hrel
      by_cases hlt : k < n
      · have c0 := hB.cell0 k (by omega)
        have hs := HSP.out k hk1 hlt
        generalize ys.getD k 0 = c at c0 hs
        have hkl : k < ys.length := by omega
        go_wp2_with fail
        refine (isSpace _ _).mono ?_
        rintro e w3 ⟨rfl, rfl⟩
        rw [hs]
        go_wp2_with fail
        go_roundw
        case rel => exact ⟨k + 1, by omega, by omega, by go_num, hB, hb⟩
        case measure => simp [intOf]; omega
      · by_cases he : n = ys.length
        · have hq : ((n : Int) == (ys.length : Int)) = true := by simp [he]
          clear he
          go_wp2_with fail
          go_ret
          exact ⟨by simp, hb⟩
        · have hq : ((n : Int) == (ys.length : Int)) = false := by simp; omega
          have hnl : n < ys.length := by omega
          have c0 := hB.cell0 n hnl
          have hs := HEND.out hnl
          generalize ys.getD n 0 = c at c0 hs
          clear he
          go_wp2_with fail
          refine (isSpace _ _).mono ?_
          rintro e w3 ⟨rfl, rfl⟩
          rw [hs]
          go_wp2_with fail
          go_ret
          exact ⟨by simp, hb⟩

theorem walk (a0 : Option Addr) (len0 cap0 : Nat) (z0 : List Int) (a1 : Int) (w : World) (w0 : IsRow w a0 len0 cap0 z0) :
    Calls Try.prog 3 #[.slice a0 len0 cap0, .int .i64 a1] w fun e w' => e = .returned (.bool true) ∧ Below w.heap.size w w' := by
  by_cases h : 1048576 < len0 ∨ a1 < 0 ∨ (len0 : Int) < a1
  · exact walk_far _ _ _ _ _ h
  · obtain ⟨n, rfl⟩ := Int.eq_ofNat_of_zero_le (show 0 ≤ a1 by omega)
    exact walk_in a0 len0 cap0 z0 n w w0 (by omega) (by omega)
end Go.Proofs.Qxb6001000a.space
