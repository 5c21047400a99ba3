/-
  (*reader).skipString, walked.
-/
import Derived.Test.Qxb6001000aSpace
import Derived.Test.Qxb6001000aPlain
namespace Go.Proofs.Qxb6001000a.skipstr
open Go.ChangeShapes Go.WideShapes Go.ChangeAt Go.RowKit
open Go.Proofs.Qxb6001000a.base Go.Proofs.Qxb6001000a.space Go.Proofs.Qxb6001000a.plain

/-- from place k on the text reads r -/
def At (ys : List Int) (k : Nat) (r : List Int) : Prop := ys.drop k = r
theorem At.len {ys r : List Int} {k : Nat} {c : Int} (h : At ys k (c :: r)) : k + r.length + 1 = ys.length := by
  have := congrArg List.length h
  simp at this
  omega
theorem At.get {ys r : List Int} {k : Nat} {c : Int} (h : At ys k (c :: r)) : ys.getD k 0 = c := by
  have hl := h.len
  have : (ys.drop k)[0]? = some c := by rw [h]; rfl
  rw [List.getElem?_drop] at this
  rw [List.getD_eq_getElem?_getD]
  simp only [Nat.add_zero] at this
  rw [this]
  rfl
theorem At.next {ys r : List Int} {k : Nat} {c : Int} (h : At ys k (c :: r)) : At ys (k + 1) r := by
  unfold At at *
  rw [← List.drop_drop, h]
  rfl
/-- where the loop stands -/
def In (ys tl : List Int) (P : Bool) (last k : Nat) (pl : Bool) (rest : List Int) : Prop :=
  At ys k (rest ++ 34 :: tl) ∧ k + rest.length = last ∧ ∃ p', bodyP rest = some p' ∧ (pl && p') = P
theorem in_end {ys tl : List Int} {P pl : Bool} {last k : Nat} (h : In ys tl P last k pl []) : ys.getD k 0 = 34 ∧ k < ys.length ∧ k = last ∧ pl = P := by
  obtain ⟨h1, h2, p', h3, h4⟩ := h
  have := At.len h1
  refine ⟨At.get h1, by omega, by simpa using h2, ?_⟩
  have : p' = true := by simpa [bodyP] using h3.symm
  subst this
  simpa using h4
theorem in_esc {ys tl r : List Int} {P pl : Bool} {last k : Nat} (h : In ys tl P last k pl (92 :: r)) :
    ys.getD k 0 = 92 ∧ k + 2 < ys.length ∧ k + 2 ≤ last ∧ ∃ r', In ys tl P last (k + 2) false r' := by
  obtain ⟨h1, h2, p', h3, h4⟩ := h
  cases r with
  | nil => rw [bodyP.eq_def] at h3; simp at h3
  | cons x r =>
    rw [bodyP_esc] at h3
    have hl : k + (x :: r ++ 34 :: tl).length + 1 = ys.length := At.len h1
    simp only [List.length_cons, List.length_append] at hl h2
    refine ⟨At.get h1, by omega, by omega, r, At.next (At.next h1), by omega, ?_⟩
    cases hb : bodyP r with
    | none => rw [hb] at h3; simp at h3
    | some q =>
      rw [hb] at h3
      have : p' = false := by simpa using h3.symm
      subst this
      exact ⟨q, rfl, by simpa using h4⟩
theorem in_raw {ys tl r : List Int} {P pl : Bool} {last k : Nat} {c : Int} (h : In ys tl P last k pl (c :: r)) (hne : c ≠ 92) :
    ys.getD k 0 = c ∧ c ≠ 34 ∧ k + 1 < ys.length ∧ k + 1 ≤ last ∧ In ys tl P last (k + 1) (pl && decide (c < 128)) r := by
  obtain ⟨h1, h2, p', h3, h4⟩ := h
  have hl : k + (r ++ 34 :: tl).length + 1 = ys.length := At.len h1
  have h34 : c ≠ 34 := by
    intro e
    rw [bodyP.eq_def] at h3
    simp [e] at h3
  rw [bodyP_raw c r h34 hne] at h3
  simp only [List.length_cons, List.length_append] at hl h2
  refine ⟨At.get h1, h34, by omega, by omega, At.next h1, by omega, ?_⟩
  cases hb : bodyP r with
  | none => rw [hb] at h3; simp at h3
  | some q =>
    rw [hb] at h3
    refine ⟨q, rfl, ?_⟩
    have : p' = (q && decide (c < 128)) := by simpa using h3.symm
    subst this
    rw [← h4]
    cases pl <;> cases q <;> simp

set_option maxRecDepth 100000 in
set_option maxHeartbeats 2000000 in
theorem skipStr (b g cap n p last : Nat) (ys tl rest : List Int) (P : Bool) (w : World) (hr : Rd w b (.slice (some ⟨g, 0, none⟩) n cap) p) (hB : Bytes w g 0 ys) (hbg : g ≠ b)
    (hn : ys.length = n) (hle : n ≤ cap) (hm : n ≤ 140737488355328) (hin : In ys tl P last (p + 1) true rest) :
    Calls Try.prog 26 #[.pointer (some ⟨b, 0, none⟩)] w fun e w' => e = .returned (.tuple #[.slice (some ⟨g, p, none⟩) (last + 1 - p) (cap - p), .bool P]) ∧ Rd w' b (.slice (some ⟨g, 0, none⟩) n cap) (last + 1) ∧ But b w w' := by
  have c0 := hr.c0
  have c1 := hr.c1
  have f1 := hr.f1
  have hlast : p + 1 ≤ last ∧ last < n := by
    obtain ⟨h1, h2, _⟩ := hin
    have := congrArg List.length h1
    simp at this
    omega
  have HN : Hid (ys.length = n) := hn
  clear hn
  obtain ⟨hl1, hl2⟩ := hlast
  go_enter Try.func26, Try.ntmps26
  go_wp2_with fail
  go_loopw [3] (fun q wr => ∃ k pl r, p + 1 ≤ k ∧ k ≤ last ∧ q = .bool pl ∧ In ys tl P last k pl r ∧ Rd wr b (.slice (some ⟨g, 0, none⟩) n cap) k ∧ But b w wr) (fun _ wr => n - (intOf ((wr.cell? ⟨b, 1, none⟩).getD undef)).toNat)
  case atStart => exact ⟨p + 1, true, rest, by omega, by omega, rfl, hin, by simpa using hr.set (p + 1), (But.refl b w).set _ _⟩
  case round =>
    clear c0 c1 f1 hin hr
    obtain ⟨k, pl, r, hk1, hk2, rfl, hin, hrr, hbut⟩ := hrel
    have c0 := hrr.c0
    have c1 := hrr.c1
    have f1 := hrr.f1
    have hBr := hB.same (hbut.block g hbg)
    cases r with
    | nil =>
      obtain ⟨e1, e2, e3, e4⟩ := in_end hin
      have c2 := hBr.cell0 k e2
      rw [e1] at c2
      subst e3 e4
      clear e1
      go_wp2_with fail
      go_quiet (fail)
      go_wp2_with fail
      go_quiet (fail)
      go_wp2_with fail
      go_ret2
      exact ⟨rfl, by first | exact ((hrr.drewN _).set _).drewN _ | exact ((hrr.drewN _).drewN _).set _ | exact (hrr.drewN _).set _, by first | exact ((hbut.drewN _).set _ _).drewN _ | exact ((hbut.drewN _).drewN _).set _ _ | exact (hbut.drewN _).set _ _⟩
    | cons c r =>
      by_cases h92 : c = 92
      · subst h92
        obtain ⟨e1, e2, e3, r', hin'⟩ := in_esc hin
        rw [HN.out] at e2
        have hkl : k < ys.length := by rw [HN.out]; omega
        have c2 := hBr.cell0 k hkl
        rw [e1] at c2
        clear e1 hkl hin
        go_wp2_with fail
        go_quiet (fail)
        go_wp2_with fail
        go_quiet (fail)
        go_wp2_with fail
        go_roundw
        case rel => exact ⟨k + 2, false, r', by omega, by omega, rfl, hin', by rw [show ((k + 2 : Nat) : Int) = (k : Int) + 1 + 1 by omega]; exact ((hrr.drewN _).set _).set _, ((hbut.drewN _).set _ _).set _ _⟩
        case measure => rw [(((hrr.drewN _).set _).set _).c1, c1]; simp [intOf]; omega
      · obtain ⟨e1, e5, e2, e3, hin'⟩ := in_raw hin h92
        rw [HN.out] at e2
        have hkl : k < ys.length := by rw [HN.out]; omega
        have c2 := hBr.cell0 k hkl
        rw [e1] at c2
        clear e1 hkl hin
        by_cases h128 : 128 ≤ c
        · have HIN : In ys tl P last (k + 1) false r := by simpa [show ¬ c < 128 by omega] using hin'
          clear hin'
          go_wp2_with fail
          go_quiet (fail)
          go_wp2_with fail
          go_quiet (fail)
          go_wp2_with fail
          go_roundw
          case rel => exact ⟨k + 1, false, r, by omega, by omega, rfl, HIN, (hrr.drewN _).set _, (hbut.drewN _).set _ _⟩
          case measure => rw [((hrr.drewN _).set _).c1, c1]; simp [intOf]; omega
        · have HIN : In ys tl P last (k + 1) pl r := by simpa [show c < 128 by omega] using hin'
          clear hin'
          go_wp2_with fail
          go_quiet (fail)
          go_wp2_with fail
          go_quiet (fail)
          go_wp2_with fail
          go_roundw
          case rel => exact ⟨k + 1, pl, r, by omega, by omega, rfl, HIN, (hrr.drewN _).set _, (hbut.drewN _).set _ _⟩
          case measure => rw [((hrr.drewN _).set _).c1, c1]; simp [intOf]; omega
end Go.Proofs.Qxb6001000a.skipstr
