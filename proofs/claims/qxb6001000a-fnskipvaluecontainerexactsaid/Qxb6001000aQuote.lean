/-
  appendQuoted_b1, walked.
-/
import Derived.Test.Qxb6001000aOwn
import Derived.Test.Qxb6001000aPlain
namespace Go.Proofs.Qxb6001000a.quoted
open Go.ChangeShapes Go.WideShapes Go.ChangeAt Go.RowKit
open Go.Proofs.Qxb6001000a.base Go.Proofs.Qxb6001000a.own Go.Proofs.Qxb6001000a.plain

/-- a string's bytes as numbers -/
def sb (s : ByteArray) : List Int := s.data.toList.map fun b => (b.toNat : Int)
theorem sb_len (s : ByteArray) : (sb s).length = s.size := by
  unfold sb
  rw [List.length_map]
  rfl
theorem sb_take (s : ByteArray) (k : Nat) (h : k < s.size) : (sb s).take (k + 1) = (sb s).take k ++ [(s[k].toNat : Int)] := by
  rw [List.take_succ_eq_append_getElem (by rw [sb_len]; exact h)]
  congr 2
  simp [sb]
  rfl
theorem sb_bd (s : ByteArray) : ∀ c ∈ sb s, 0 ≤ c ∧ c < 256 := by
  intro c hc
  simp only [sb, List.mem_map] at hc
  obtain ⟨b, _, rfl⟩ := hc
  have := b.toNat_lt
  omega

theorem and15 (c : Int) (h0 : 0 ≤ c) (h1 : c < 32) : bits BinOp.and IntKind.u8 c 15 = c % 16 := by
  obtain ⟨n, rfl⟩ := Int.eq_ofNat_of_zero_le h0
  have h : ∀ m : Fin 32, bits BinOp.and IntKind.u8 ((m.val : Nat) : Int) 15 = ((m.val : Nat) : Int) % 16 := by decide
  exact h ⟨n, by omega⟩
theorem hex_at (n : Int) (h0 : 0 ≤ n) (h1 : n < 16) (h : n.toNat < ({ data := #[48, 49, 50, 51, 52, 53, 54, 55, 56, 57, 97, 98, 99, 100, 101, 102] } : ByteArray).size) :
    (((({ data := #[48, 49, 50, 51, 52, 53, 54, 55, 56, 57, 97, 98, 99, 100, 101, 102] } : ByteArray)[n.toNat]'h).toNat : Nat) : Int) = hexd n := by
  obtain ⟨m, rfl⟩ := Int.eq_ofNat_of_zero_le h0
  have key : ∀ j : Fin 16, (((({ data := #[48, 49, 50, 51, 52, 53, 54, 55, 56, 57, 97, 98, 99, 100, 101, 102] } : ByteArray)[j.val]'(j.isLt)).toNat : Nat) : Int) = hexd (j.val : Nat) := by decide
  exact key ⟨m, by omega⟩
theorem ownDrew {w : World} {v : Value} {bs : List Int} (h : Own w v bs) : Own w.drew v bs := h.same fun _ _ => rfl
theorem isBDrew {w : World} {v : Value} {bs : List Int} (h : IsB w v bs) : IsB w.drew v bs := h.below ((Below.refl w.heap.size w).drew) (Nat.le_refl _)
theorem isB_hex (w : World) (m n : Int) (h1 : 0 ≤ m) (h2 : m < 16) (h3 : 0 ≤ n) (h4 : n < 16)
    (p : m.toNat < ({ data := #[48, 49, 50, 51, 52, 53, 54, 55, 56, 57, 97, 98, 99, 100, 101, 102] } : ByteArray).size)
    (q : n.toNat < ({ data := #[48, 49, 50, 51, 52, 53, 54, 55, 56, 57, 97, 98, 99, 100, 101, 102] } : ByteArray).size) :
    IsB ((w.alloc (.cells #[.int .u8 92, .int .u8 117, .int .u8 48, .int .u8 48,
      .int .u8 ((({ data := #[48, 49, 50, 51, 52, 53, 54, 55, 56, 57, 97, 98, 99, 100, 101, 102] } : ByteArray)[m.toNat]'p).toNat : Nat),
      .int .u8 ((({ data := #[48, 49, 50, 51, 52, 53, 54, 55, 56, 57, 97, 98, 99, 100, 101, 102] } : ByteArray)[n.toNat]'q).toNat : Nat)] 5)).drew)
      (.slice (some ⟨w.heap.size, 0, none⟩) 6 6) [92, 117, 48, 48, hexd m, hexd n] := by
  rw [hex_at m h1 h2 p, hex_at n h3 h4 q]
  exact isBDrew (isB_lit w [92, 117, 48, 48, hexd m, hexd n] (by unfold maxLen; simp))
theorem next {s : ByteArray} {k : Nat} {esc : Bool} {bs ns : List Int} {v u u2 : Value} {w wr w2 : World} {o : Obj} (hlt : k < s.size)
    {B : List Int} (hB : bs ++ [34] ++ qbody esc ((sb s).take k) = B) (hown : Own w2 u2 (B ++ ns)) (h1 : Ext v w u wr) (h2 : Ext u (wr.alloc o) u2 w2) (hq : qb esc (s[k].toNat : Int) = ns) :
    Own w2 u2 (bs ++ [34] ++ qbody esc ((sb s).take (k + 1))) ∧ Ext v w u2 w2 := by
  refine ⟨hown.cast ?_, h1.trans h2.alloc⟩
  rw [sb_take s k hlt, qbody_snoc, hq, ← hB]
  simp only [List.append_assoc]

set_option maxRecDepth 100000 in
set_option maxHeartbeats 4000000 in
theorem quoted (v : Value) (bs : List Int) (s : ByteArray) (esc : Bool) (w : World) (hown : Own w v bs) (hs : s.size ≤ 1048576) (hb : bs.length ≤ 70368744177664) :
    Calls Try.prog 15 #[v, .string s, .bool esc] w fun e w' => ∃ v', e = .returned v' ∧ Own w' v' (bs ++ quote esc (sb s)) ∧ Ext v w v' w' := by
  go_enter Try.func15, Try.ntmps15
  go_wp2_with (at_builtin; refine wpList_app rfl (.tmp 9) (.tmp 10) rfl rfl v bs rfl (hown.alloc _) _ [34] rfl (isB_lit w [34] (by unfold maxLen; simp)) (by simp; omega) ?_)
  intro v1 w1 hown1 hext1
  replace hext1 := hext1.alloc
  clear hown
  go_wp2_with fail
  go_loopw [0, 7] (fun u i wr => ∃ k : Nat, k ≤ s.size ∧ i = .int .i64 k ∧ Own wr u (bs ++ [34] ++ qbody esc ((sb s).take k)) ∧ Ext v w u wr) (fun _ i _ => s.size - (intOf i).toNat)
  case atStart => exact ⟨0, by omega, rfl, by simpa [qbody] using hown1, hext1⟩
  case round =>
    clear hown1 hext1
    obtain ⟨k, hk, rfl, hown, hext⟩ := hrel
    have hql : (bs ++ [34] ++ qbody esc ((sb s).take k)).length ≤ 70368744177664 + 1 + 6 * 1048576 := by
      have h1 := qbody_len esc ((sb s).take k)
      have h2 : ((sb s).take k).length ≤ k := List.length_take_le _ _
      simp only [List.length_append, List.length_cons, List.length_nil]
      omega
    by_cases hlt : k < s.size
    · obtain ⟨B, hB⟩ : ∃ B, bs ++ [34] ++ qbody esc ((sb s).take k) = B := ⟨_, rfl⟩
      rw [hB] at hown hql
      have HB : Hid (bs ++ [34] ++ qbody esc ((sb s).take k) = B) := hB
      clear hB
      by_cases c34 : (s[k].toNat : Int) = 34
      · have hq : qb esc (s[k].toNat : Int) = [92, 34] := by rw [c34]; rfl
        have HQ : Hid (qb esc (s[k].toNat : Int) = [92, 34]) := hq
        clear hq
        go_wp2_with (at_builtin; refine wpList_app rfl _ _ rfl rfl _ _ rfl (hown.alloc _) _ [92, 34] rfl (isB_lit wr [92, 34] (by unfold maxLen; simp)) (by simp only [List.length_cons, List.length_nil]; omega) ?_)
        intro v2 w2 hown2 hext2
        have R := next hlt HB.out hown2 hext hext2 HQ.out
        clear hown2 hext2 hext hown c34 HQ HB hql
        go_wp2_with fail
        go_roundw
        case rel => exact ⟨k + 1, by omega, by go_num, R.1, R.2⟩
        case measure => simp [intOf]; omega
      by_cases c92 : (s[k].toNat : Int) = 92
      · have hq : qb esc (s[k].toNat : Int) = [92, 92] := by rw [c92]; rfl
        have HQ : Hid (qb esc (s[k].toNat : Int) = [92, 92]) := hq
        clear hq
        go_wp2_with (at_builtin; refine wpList_app rfl _ _ rfl rfl _ _ rfl (hown.alloc _) _ [92, 92] rfl (isB_lit wr [92, 92] (by unfold maxLen; simp)) (by simp only [List.length_cons, List.length_nil]; omega) ?_)
        intro v2 w2 hown2 hext2
        have R := next hlt HB.out hown2 hext hext2 HQ.out
        clear hown2 hext2 hext hown c92 HQ HB hql
        go_wp2_with fail
        go_roundw
        case rel => exact ⟨k + 1, by omega, by go_num, R.1, R.2⟩
        case measure => simp [intOf]; omega
      by_cases c10 : (s[k].toNat : Int) = 10
      · have hq : qb esc (s[k].toNat : Int) = [92, 110] := by rw [c10]; rfl
        have HQ : Hid (qb esc (s[k].toNat : Int) = [92, 110]) := hq
        clear hq
        go_wp2_with (at_builtin; refine wpList_app rfl _ _ rfl rfl _ _ rfl (hown.alloc _) _ [92, 110] rfl (isB_lit wr [92, 110] (by unfold maxLen; simp)) (by simp only [List.length_cons, List.length_nil]; omega) ?_)
        intro v2 w2 hown2 hext2
        have R := next hlt HB.out hown2 hext hext2 HQ.out
        clear hown2 hext2 hext hown c10 HQ HB hql
        go_wp2_with fail
        go_roundw
        case rel => exact ⟨k + 1, by omega, by go_num, R.1, R.2⟩
        case measure => simp [intOf]; omega
      by_cases c9 : (s[k].toNat : Int) = 9
      · have hq : qb esc (s[k].toNat : Int) = [92, 116] := by rw [c9]; rfl
        have HQ : Hid (qb esc (s[k].toNat : Int) = [92, 116]) := hq
        clear hq
        go_wp2_with (at_builtin; refine wpList_app rfl _ _ rfl rfl _ _ rfl (hown.alloc _) _ [92, 116] rfl (isB_lit wr [92, 116] (by unfold maxLen; simp)) (by simp only [List.length_cons, List.length_nil]; omega) ?_)
        intro v2 w2 hown2 hext2
        have R := next hlt HB.out hown2 hext hext2 HQ.out
        clear hown2 hext2 hext hown c9 HQ HB hql
        go_wp2_with fail
        go_roundw
        case rel => exact ⟨k + 1, by omega, by go_num, R.1, R.2⟩
        case measure => simp [intOf]; omega
      by_cases c13 : (s[k].toNat : Int) = 13
      · have hq : qb esc (s[k].toNat : Int) = [92, 114] := by rw [c13]; rfl
        have HQ : Hid (qb esc (s[k].toNat : Int) = [92, 114]) := hq
        clear hq
        go_wp2_with (at_builtin; refine wpList_app rfl _ _ rfl rfl _ _ rfl (hown.alloc _) _ [92, 114] rfl (isB_lit wr [92, 114] (by unfold maxLen; simp)) (by simp only [List.length_cons, List.length_nil]; omega) ?_)
        intro v2 w2 hown2 hext2
        have R := next hlt HB.out hown2 hext hext2 HQ.out
        clear hown2 hext2 hext hown c13 HQ HB hql
        go_wp2_with fail
        go_roundw
        case rel => exact ⟨k + 1, by omega, by go_num, R.1, R.2⟩
        case measure => simp [intOf]; omega
      by_cases c8 : (s[k].toNat : Int) = 8
      · have hq : qb esc (s[k].toNat : Int) = [92, 98] := by rw [c8]; rfl
        have HQ : Hid (qb esc (s[k].toNat : Int) = [92, 98]) := hq
        clear hq
        go_wp2_with (at_builtin; refine wpList_app rfl _ _ rfl rfl _ _ rfl (hown.alloc _) _ [92, 98] rfl (isB_lit wr [92, 98] (by unfold maxLen; simp)) (by simp only [List.length_cons, List.length_nil]; omega) ?_)
        intro v2 w2 hown2 hext2
        have R := next hlt HB.out hown2 hext hext2 HQ.out
        clear hown2 hext2 hext hown c8 HQ HB hql
        go_wp2_with fail
        go_roundw
        case rel => exact ⟨k + 1, by omega, by go_num, R.1, R.2⟩
        case measure => simp [intOf]; omega
      by_cases c12 : (s[k].toNat : Int) = 12
      · have hq : qb esc (s[k].toNat : Int) = [92, 102] := by rw [c12]; rfl
        have HQ : Hid (qb esc (s[k].toNat : Int) = [92, 102]) := hq
        clear hq
        go_wp2_with (at_builtin; refine wpList_app rfl _ _ rfl rfl _ _ rfl (hown.alloc _) _ [92, 102] rfl (isB_lit wr [92, 102] (by unfold maxLen; simp)) (by simp only [List.length_cons, List.length_nil]; omega) ?_)
        intro v2 w2 hown2 hext2
        have R := next hlt HB.out hown2 hext hext2 HQ.out
        clear hown2 hext2 hext hown c12 HQ HB hql
        go_wp2_with fail
        go_roundw
        case rel => exact ⟨k + 1, by omega, by go_num, R.1, R.2⟩
        case measure => simp [intOf]; omega
      by_cases c47 : (s[k].toNat : Int) = 47
      · cases esc
        · have HQ : Hid (qb false (s[k].toNat : Int) = [47]) := by rw [c47]; rfl
          go_wp2_with (at_builtin; refine wpList_app rfl _ _ rfl rfl _ _ rfl (hown.alloc _) _ [47] rfl (isB_lit wr [47] (by unfold maxLen; simp)) (by simp only [List.length_cons, List.length_nil]; omega) ?_)
          intro v2 w2 hown2 hext2
          have R := next hlt HB.out hown2 hext hext2 HQ.out
          clear hown2 hext2 hext hown c47 HQ HB hql
          go_wp2_with fail
          go_roundw
          case rel => exact ⟨k + 1, by omega, by go_num, R.1, R.2⟩
          case measure => simp [intOf]; omega
        · have HQ : Hid (qb true (s[k].toNat : Int) = [92, 47]) := by rw [c47]; rfl
          go_wp2_with (at_builtin; refine wpList_app rfl _ _ rfl rfl _ _ rfl (hown.alloc _) _ [92, 47] rfl (isB_lit wr [92, 47] (by unfold maxLen; simp)) (by simp only [List.length_cons, List.length_nil]; omega) ?_)
          intro v2 w2 hown2 hext2
          have R := next hlt HB.out hown2 hext hext2 HQ.out
          clear hown2 hext2 hext hown c47 HQ HB hql
          go_wp2_with fail
          go_roundw
          case rel => exact ⟨k + 1, by omega, by go_num, R.1, R.2⟩
          case measure => simp [intOf]; omega
      by_cases c32 : (s[k].toNat : Int) < 32
      · have HQ : Hid (qb esc (s[k].toNat : Int) = [92, 117, 48, 48, hexd ((s[k].toNat : Int) / 16), hexd ((s[k].toNat : Int) % 16)]) := by
          show qb esc _ = _
          unfold qb
          rw [if_neg c34, if_neg c92, if_neg (by omega), if_neg c10, if_neg c9, if_neg c13, if_neg c8, if_neg c12, if_pos c32]
        go_wp2_with fail
        have c0 : 0 ≤ (s[k].toNat : Int) := by omega
        generalize hcc : (s[k].toNat : Int) = c at *
        have HC : Hid ((s[k].toNat : Int) = c) := hcc
        clear hcc
        have h16 : 0 ≤ c / 16 ∧ c / 16 < 16 := by omega
        have h16' : 0 ≤ c % 16 ∧ c % 16 < 16 := by omega
        have hand := and15 c c0 c32
        go_region_law (refine step_app rfl (.tmp 79) (.tmp 86) rfl rfl u0 B rfl (ownDrew (hown.alloc _)) _ [92, 117, 48, 48, hexd (c / 16), hexd (c % 16)] rfl (isB_hex wr (c / 16) (c % 16) h16.1 h16.2 h16'.1 h16'.2 _ _) (by simp only [List.length_cons, List.length_nil]; omega) ?_; intro v2 w2 hown2 hext2)
        all_goals
          have R := next hlt HB.out hown2 hext hext2.drew (by rw [HC.out]; exact HQ.out)
          clear hown2 hext2 hext hown c47 c34 c92 c10 c9 c13 c8 c12 c32 HQ HB HC hql
          go_wp2_with fail
          go_roundw
          case rel => exact ⟨k + 1, by omega, by go_num, R.1, R.2⟩
          case measure => simp [intOf]; omega
      · have HQ : Hid (qb esc (s[k].toNat : Int) = [(s[k].toNat : Int)]) := by
          show qb esc _ = _
          unfold qb
          rw [if_neg c34, if_neg c92, if_neg (by omega), if_neg c10, if_neg c9, if_neg c13, if_neg c8, if_neg c12, if_neg c32]
        go_wp2_with (at_builtin; refine wpList_app rfl _ _ rfl rfl _ _ rfl (hown.alloc _) _ [(s[k].toNat : Int)] rfl (isB_lit wr [(s[k].toNat : Int)] (by unfold maxLen; simp)) (by simp only [List.length_cons, List.length_nil]; omega) ?_)
        intro v2 w2 hown2 hext2
        have R := next hlt HB.out hown2 hext hext2 HQ.out
        clear hown2 hext2 hext hown c47 c34 c92 c10 c9 c13 c8 c12 c32 HQ HB hql
        go_wp2_with fail
        go_roundw
        case rel => exact ⟨k + 1, by omega, by go_num, R.1, R.2⟩
        case measure => simp [intOf]; omega
    · go_wp2_with (at_builtin; refine wpList_app rfl _ _ rfl rfl _ _ rfl (hown.alloc _) _ [34] rfl (isB_lit wr [34] (by unfold maxLen; simp)) (by simp only [List.length_cons, List.length_nil]; omega) ?_)
      intro v2 w2 hown2 hext2
      replace hext2 := hext.trans hext2.alloc
      have hown3 : Own w2 v2 (bs ++ quote esc (sb s)) := hown2.cast (by rw [List.take_of_length_le (by rw [sb_len]; omega)]; simp [quote])
      clear hext hown hown2
      go_wp2_with fail
      go_ret
      exact ⟨v2, rfl, hown3, hext2⟩
end Go.Proofs.Qxb6001000a.quoted
