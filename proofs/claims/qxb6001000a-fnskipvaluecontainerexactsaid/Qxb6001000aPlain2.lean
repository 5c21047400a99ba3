/-
  Plain mathematics of a scanner that counts brackets outside strings: no Go in sight.
-/
import Derived.Test.Qxb6001000aPlain
namespace Go.Proofs.Qxb6001000a.plain

/-- what is left behind a string's closing quote -/
def strEnd : List Int → Option (List Int)
  | [] => none
  | c :: r => if c = 34 then some r else if c = 92 then (match r with | [] => none | _ :: r' => strEnd r') else strEnd r
theorem strEnd_esc (x : Int) (r : List Int) : strEnd (92 :: x :: r) = strEnd r := by rw [strEnd.eq_def]; simp
theorem strEnd_raw (c : Int) (r : List Int) (h1 : c ≠ 34) (h2 : c ≠ 92) : strEnd (c :: r) = strEnd r := by rw [strEnd.eq_def]; simp [h1, h2]
theorem strEnd_quote (r : List Int) : strEnd (34 :: r) = some r := by rw [strEnd.eq_def]; simp
theorem strEnd_of : ∀ (n : Nat) (body : List Int), body.length ≤ n → ∀ P r, bodyP body = some P → strEnd (body ++ 34 :: r) = some r := by
  intro n
  induction n with
  | zero =>
    intro body hl P r _
    obtain rfl : body = [] := List.eq_nil_of_length_eq_zero (by omega)
    exact strEnd_quote r
  | succ n ih =>
    intro body hl P r h
    cases body with
    | nil => exact strEnd_quote r
    | cons c t =>
      by_cases h34 : c = 34
      · rw [bodyP.eq_def] at h; simp [h34] at h
      by_cases h92 : c = 92
      · subst h92
        cases t with
        | nil => rw [bodyP.eq_def] at h; simp at h
        | cons x t =>
          rw [bodyP_esc] at h
          cases hb : bodyP t with
          | none => rw [hb] at h; simp at h
          | some q =>
            show strEnd (92 :: x :: (t ++ 34 :: r)) = some r
            rw [strEnd_esc]
            exact ih t (by simp at hl; omega) q r hb
      · rw [bodyP_raw c t h34 h92] at h
        cases hb : bodyP t with
        | none => rw [hb] at h; simp at h
        | some q =>
          show strEnd (c :: (t ++ 34 :: r)) = some r
          rw [strEnd_raw c _ h34 h92]
          exact ih t (by simp at hl; omega) q r hb
theorem of_strEnd : ∀ (n : Nat) (l : List Int), l.length ≤ n → ∀ r, strEnd l = some r → ∃ body P, l = body ++ 34 :: r ∧ bodyP body = some P := by
  intro n
  induction n with
  | zero =>
    intro l hl r h
    obtain rfl : l = [] := List.eq_nil_of_length_eq_zero (by omega)
    rw [strEnd.eq_def] at h; simp at h
  | succ n ih =>
    intro l hl r h
    cases l with
    | nil => rw [strEnd.eq_def] at h; simp at h
    | cons c t =>
      by_cases h34 : c = 34
      · subst h34
        rw [strEnd_quote] at h
        injection h with h
        subst h
        exact ⟨[], true, rfl, rfl⟩
      by_cases h92 : c = 92
      · subst h92
        cases t with
        | nil => rw [strEnd.eq_def] at h; simp at h
        | cons x t =>
          rw [strEnd_esc] at h
          obtain ⟨body, P, rfl, hb⟩ := ih t (by simp at hl; omega) r h
          exact ⟨92 :: x :: body, false, rfl, by rw [bodyP_esc, hb]; rfl⟩
      · rw [strEnd_raw c t h34 h92] at h
        obtain ⟨body, P, rfl, hb⟩ := ih t (by simp at hl; omega) r h
        exact ⟨c :: body, P && decide (c < 128), rfl, by rw [bodyP_raw c _ h34 h92, hb]; rfl⟩

/-- the scanner: the text that is left when the depth has come to nothing -/
def skipN : Nat → List Int → Nat → Option (List Int)
  | 0, _, _ => none
  | _ + 1, l, 0 => some l
  | _ + 1, [], _ + 1 => none
  | n + 1, c :: r, d + 1 =>
    if c = 34 then (match strEnd r with | none => none | some r' => skipN n r' (d + 1))
    else if c = 123 ∨ c = 91 then skipN n r (d + 2) else if c = 125 ∨ c = 93 then skipN n r d else skipN n r (d + 1)
def Done (l : List Int) (d : Nat) (out : List Int) : Prop := ∃ n, skipN n l d = some out
theorem done_zero (l : List Int) : Done l 0 l := ⟨1, rfl⟩
theorem done_zero_eq {l out : List Int} (h : Done l 0 out) : l = out := by
  obtain ⟨n, h⟩ := h
  cases n with
  | zero => simp [skipN] at h
  | succ n => simpa [skipN] using h
theorem done_nil {d : Nat} {out : List Int} (h : Done [] (d + 1) out) : False := by
  obtain ⟨n, h⟩ := h
  cases n <;> simp [skipN] at h
theorem done_str {r : List Int} {d : Nat} {out : List Int} (h : Done (34 :: r) (d + 1) out) : ∃ r', strEnd r = some r' ∧ Done r' (d + 1) out := by
  obtain ⟨n, h⟩ := h
  cases n with
  | zero => simp [skipN] at h
  | succ n =>
    rw [skipN] at h
    simp only [if_true] at h
    cases hs : strEnd r with
    | none => rw [hs] at h; simp at h
    | some r' => rw [hs] at h; exact ⟨r', rfl, n, h⟩
theorem done_open {c : Int} {r : List Int} {d : Nat} {out : List Int} (hc : c = 123 ∨ c = 91) (h : Done (c :: r) (d + 1) out) : Done r (d + 2) out := by
  obtain ⟨n, h⟩ := h
  cases n with
  | zero => simp [skipN] at h
  | succ n =>
    rw [skipN, if_neg (by omega), if_pos hc] at h
    exact ⟨n, h⟩
theorem done_close {c : Int} {r : List Int} {d : Nat} {out : List Int} (hc : c = 125 ∨ c = 93) (h : Done (c :: r) (d + 1) out) : Done r d out := by
  obtain ⟨n, h⟩ := h
  cases n with
  | zero => simp [skipN] at h
  | succ n =>
    rw [skipN, if_neg (by omega), if_neg (by omega), if_pos hc] at h
    exact ⟨n, h⟩
theorem done_other {c : Int} {r : List Int} {d : Nat} {out : List Int} (h1 : c ≠ 34) (h2 : c ≠ 123) (h3 : c ≠ 91) (h4 : c ≠ 125) (h5 : c ≠ 93) (h : Done (c :: r) (d + 1) out) : Done r (d + 1) out := by
  obtain ⟨n, h⟩ := h
  cases n with
  | zero => simp [skipN] at h
  | succ n =>
    rw [skipN, if_neg h1, if_neg (by omega), if_neg (by omega)] at h
    exact ⟨n, h⟩

/-- t takes the scanner from depth a to depth b -/
def Bal (t : List Int) (a b : Nat) : Prop := ∀ rest out, Done rest b out → Done (t ++ rest) a out
theorem Bal.nil (a : Nat) : Bal [] a a := fun _ _ h => h
theorem Bal.append {s t : List Int} {a b c : Nat} (h : Bal s a b) (k : Bal t b c) : Bal (s ++ t) a c := by
  intro rest out hd
  rw [List.append_assoc]
  exact h _ _ (k _ _ hd)
def Neutral (c : Int) : Prop := c ≠ 34 ∧ c ≠ 123 ∧ c ≠ 91 ∧ c ≠ 125 ∧ c ≠ 93
theorem Bal.one {c : Int} (hc : Neutral c) (d : Nat) : Bal [c] (d + 1) (d + 1) := by
  obtain ⟨h1, h2, h3, h4, h5⟩ := hc
  rintro rest out ⟨n, h⟩
  refine ⟨n + 1, ?_⟩
  show skipN (n + 1) (c :: rest) (d + 1) = some out
  rw [skipN, if_neg h1, if_neg (by omega), if_neg (by omega)]
  exact h
theorem Bal.all {l : List Int} (hl : ∀ c ∈ l, Neutral c) (d : Nat) : Bal l (d + 1) (d + 1) := by
  induction l with
  | nil => exact Bal.nil _
  | cons c r ih => exact (Bal.one (hl c (by simp)) d).append (ih fun x hx => hl x (by simp [hx]))
theorem Bal.op {c : Int} (hc : c = 123 ∨ c = 91) (d : Nat) : Bal [c] (d + 1) (d + 2) := by
  rintro rest out ⟨n, h⟩
  refine ⟨n + 1, ?_⟩
  show skipN (n + 1) (c :: rest) (d + 1) = some out
  rw [skipN, if_neg (by omega), if_pos hc]
  exact h
theorem Bal.cl {c : Int} (hc : c = 125 ∨ c = 93) (d : Nat) : Bal [c] (d + 1) d := by
  rintro rest out ⟨n, h⟩
  refine ⟨n + 1, ?_⟩
  show skipN (n + 1) (c :: rest) (d + 1) = some out
  rw [skipN, if_neg (by omega), if_neg (by omega), if_pos hc]
  exact h
theorem Bal.str {body : List Int} {P : Bool} (hb : bodyP body = some P) (d : Nat) : Bal (34 :: (body ++ [34])) (d + 1) (d + 1) := by
  rintro rest out ⟨n, h⟩
  refine ⟨n + 1, ?_⟩
  have e : strEnd (body ++ 34 :: rest) = some rest := strEnd_of body.length body (Nat.le_refl _) P rest hb
  show skipN (n + 1) (34 :: (body ++ [34] ++ rest)) (d + 1) = some out
  rw [List.append_assoc, show [34] ++ rest = 34 :: rest from rfl, skipN]
  simp only [if_true, e]
  exact h
/-- a key: k and digits -/
theorem bodyP_key (ds : List Int) (h : ∀ c ∈ ds, 48 ≤ c ∧ c ≤ 57) : bodyP (107 :: ds) = some true := by
  rw [bodyP_raw 107 ds (by omega) (by omega)]
  have : bodyP ds = some true := by
    induction ds with
    | nil => rfl
    | cons c r ih =>
      have hc := h c (by simp)
      rw [bodyP_raw c r (by omega) (by omega), ih fun x hx => h x (by simp [hx])]
      simp; omega
  rw [this]
  rfl
end Go.Proofs.Qxb6001000a.plain
