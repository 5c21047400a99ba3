/-
  Plain mathematics of JSON string literals: no Go in sight. A byte is an Int from 0 to 255.
-/
namespace Go.Proofs.Qxb6001000a.plain

/-- the digit of a nibble -/
def hexd (n : Int) : Int := if n < 10 then 48 + n else 87 + n
theorem hexd_bd (n : Int) (h0 : 0 ≤ n) (h1 : n < 16) : (48 ≤ hexd n ∧ hexd n ≤ 57) ∨ (97 ≤ hexd n ∧ hexd n ≤ 102) := by
  unfold hexd; split <;> omega
/-- what is written for one byte -/
def qb (esc : Bool) (c : Int) : List Int :=
  if c = 34 then [92, 34] else if c = 92 then [92, 92] else if c = 47 ∧ esc = true then [92, 47]
  else if c = 10 then [92, 110] else if c = 9 then [92, 116] else if c = 13 then [92, 114] else if c = 8 then [92, 98] else if c = 12 then [92, 102]
  else if c < 32 then [92, 117, 48, 48, hexd (c / 16), hexd (c % 16)] else [c]
def qbody (esc : Bool) (s : List Int) : List Int := s.flatMap (qb esc)
def quote (esc : Bool) (s : List Int) : List Int := 34 :: (qbody esc s ++ [34])
theorem qb_len (esc : Bool) (c : Int) : (qb esc c).length ≤ 6 := by
  unfold qb; repeat (split <;> try simp)
theorem qbody_len (esc : Bool) (s : List Int) : (qbody esc s).length ≤ 6 * s.length := by
  induction s with
  | nil => simp [qbody]
  | cons c r ih =>
    have := qb_len esc c
    simp only [qbody, List.flatMap_cons, List.length_append, List.length_cons] at *
    omega
theorem qbody_snoc (esc : Bool) (s : List Int) (c : Int) : qbody esc (s ++ [c]) = qbody esc s ++ qb esc c := by
  simp [qbody]
/-- the inside of a string literal: is it one, and is it plain? -/
def bodyP : List Int → Option Bool
  | [] => some true
  | c :: r => if c = 34 then none else if c = 92 then (match r with | [] => none | _ :: r' => (bodyP r').map fun _ => false) else (bodyP r).map fun p => p && decide (c < 128)
theorem bodyP_esc (x : Int) (r : List Int) : bodyP (92 :: x :: r) = (bodyP r).map fun _ => false := by
  rw [bodyP.eq_def]; simp
theorem bodyP_raw (c : Int) (r : List Int) (h1 : c ≠ 34) (h2 : c ≠ 92) : bodyP (c :: r) = (bodyP r).map fun p => p && decide (c < 128) := by
  rw [bodyP.eq_def]; simp [h1, h2]
/-- the model: is the byte's own text plain? -/
def plainB (esc : Bool) (c : Int) : Bool := !(decide (c < 32) || decide (128 ≤ c) || c == 34 || c == 92 || (c == 47 && esc))
def plainS (esc : Bool) (s : List Int) : Bool := s.all (plainB esc)
theorem bodyP_qb (esc : Bool) (c : Int) (h0 : 0 ≤ c) (h1 : c < 256) (r : List Int) : bodyP (qb esc c ++ r) = (bodyP r).map fun p => plainB esc c && p := by
  have esc2 : ∀ x, plainB esc c = false → bodyP ([92, x] ++ r) = (bodyP r).map fun p => plainB esc c && p := by
    intro x h
    rw [show [92, x] ++ r = 92 :: x :: r from rfl, bodyP_esc, h]
    rfl
  unfold qb
  by_cases a1 : c = 34
  · rw [if_pos a1]; exact esc2 _ (by simp [plainB, a1])
  rw [if_neg a1]
  by_cases a2 : c = 92
  · rw [if_pos a2]; exact esc2 _ (by simp [plainB, a2])
  rw [if_neg a2]
  by_cases a3 : c = 47 ∧ esc = true
  · rw [if_pos a3]; exact esc2 _ (by simp [plainB, a3.1, a3.2])
  rw [if_neg a3]
  by_cases a4 : c = 10
  · rw [if_pos a4]; exact esc2 _ (by simp [plainB, a4])
  rw [if_neg a4]
  by_cases a5 : c = 9
  · rw [if_pos a5]; exact esc2 _ (by simp [plainB, a5])
  rw [if_neg a5]
  by_cases a6 : c = 13
  · rw [if_pos a6]; exact esc2 _ (by simp [plainB, a6])
  rw [if_neg a6]
  by_cases a7 : c = 8
  · rw [if_pos a7]; exact esc2 _ (by simp [plainB, a7])
  rw [if_neg a7]
  by_cases a8 : c = 12
  · rw [if_pos a8]; exact esc2 _ (by simp [plainB, a8])
  rw [if_neg a8]
  by_cases a9 : c < 32
  · rw [if_pos a9]
    have b1 := hexd_bd (c / 16) (by omega) (by omega)
    have b2 := hexd_bd (c % 16) (by omega) (by omega)
    rw [show [92, 117, 48, 48, hexd (c / 16), hexd (c % 16)] ++ r = 92 :: 117 :: 48 :: 48 :: hexd (c / 16) :: hexd (c % 16) :: r from rfl, bodyP_esc,
      bodyP_raw 48 _ (by omega) (by omega), bodyP_raw 48 _ (by omega) (by omega), bodyP_raw (hexd (c / 16)) _ (by omega) (by omega), bodyP_raw (hexd (c % 16)) _ (by omega) (by omega)]
    have : plainB esc c = false := by simp [plainB, a9]
    rw [this]
    cases bodyP r <;> rfl
  · rw [if_neg a9, show [c] ++ r = c :: r from rfl, bodyP_raw c r a1 a2]
    have : plainB esc c = decide (c < 128) := by
      simp only [plainB, beq_eq_false_iff_ne.2 a1, beq_eq_false_iff_ne.2 a2, decide_eq_false a9]
      have : (c == 47 && esc) = false := by
        cases hc : c == 47
        · rfl
        · cases esc
          · rfl
          · exact absurd ⟨beq_iff_eq.1 hc, rfl⟩ a3
      rw [this]
      by_cases h : c < 128
      · simp [h]
      · simp [h]; omega
    rw [this]
    cases bodyP r with
    | none => rfl
    | some p => simp [Bool.and_comm]
theorem bodyP_qbody (esc : Bool) (s : List Int) (h : ∀ c ∈ s, 0 ≤ c ∧ c < 256) : bodyP (qbody esc s) = some (plainS esc s) := by
  induction s with
  | nil => rfl
  | cons c r ih =>
    have hc := h c (by simp)
    rw [show qbody esc (c :: r) = qb esc c ++ qbody esc r from by simp [qbody], bodyP_qb esc c hc.1 hc.2, ih (fun x hx => h x (by simp [hx]))]
    simp [plainS]
/-- a plain text is written as it is -/
theorem qbody_plain (esc : Bool) (s : List Int) (h : plainS esc s = true) : qbody esc s = s := by
  induction s with
  | nil => rfl
  | cons c r ih =>
    simp only [plainS, List.all_cons, Bool.and_eq_true] at h
    have hq : qb esc c = [c] := by
      have hp := h.1
      simp only [plainB, Bool.not_eq_true', Bool.or_eq_false_iff, decide_eq_false_iff_not, beq_eq_false_iff_ne, ne_eq] at hp
      obtain ⟨⟨⟨⟨p1, p2⟩, p3⟩, p4⟩, p5⟩ := hp
      unfold qb
      rw [if_neg p3, if_neg p4, if_neg ?_, if_neg (by omega), if_neg (by omega), if_neg (by omega), if_neg (by omega), if_neg (by omega), if_neg (by omega)]
      intro ⟨e1, e2⟩
      simp [e1, e2] at p5
    rw [show qbody esc (c :: r) = qb esc c ++ qbody esc r from by simp [qbody], hq, ih (by simpa [plainS] using h.2)]
    rfl
end Go.Proofs.Qxb6001000a.plain
