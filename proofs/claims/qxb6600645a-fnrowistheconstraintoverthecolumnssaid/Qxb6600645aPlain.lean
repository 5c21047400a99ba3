/-
  Plain mathematics of a row: columns with coefficients, gathered literal by literal. No program in sight.
-/
namespace Go.Proofs.Qxb6600645a.plain

/-- the coefficient a goes to column j: at its place, or at the end -/
def addc (R : List (Int × Int)) (j a : Int) : List (Int × Int) :=
  match R with
  | [] => [(j, a)]
  | p :: r => if p.1 = j then (p.1, p.2 + a) :: r else p :: addc r j a
/-- the sum over the columns that X takes -/
def sel (X : Int → Bool) : List (Int × Int) → Int
  | [] => 0
  | p :: r => (if X p.1 then p.2 else 0) + sel X r
theorem sel_addc (X : Int → Bool) (R : List (Int × Int)) (j a : Int) : sel X (addc R j a) = sel X R + (if X j then a else 0) := by
  induction R with
  | nil => simp [addc, sel]
  | cons p r ih =>
    unfold addc
    split
    · rename_i h
      simp only [sel, h]
      split <;> omega
    · simp only [sel, ih]; omega
theorem addc_len (R : List (Int × Int)) (j a : Int) : (addc R j a).length ≤ R.length + 1 := by
  induction R with
  | nil => simp [addc]
  | cons p r ih =>
    unfold addc
    split
    · simp
    · simp only [List.length_cons]; omega
/-- the column is not there: the end -/
theorem addc_new (R : List (Int × Int)) (j a : Int) (h : ∀ p ∈ R, p.1 ≠ j) : addc R j a = R ++ [(j, a)] := by
  induction R with
  | nil => rfl
  | cons p r ih =>
    unfold addc
    rw [if_neg (h p (by simp)), ih (fun q hq => h q (by simp [hq]))]
    rfl
/-- the columns are distinct, and one of them is at place k: the set there -/
theorem addc_at (R : List (Int × Int)) (j a b : Int) (k : Nat) (hk : R[k]? = some (j, b)) (hd : (R.map (·.1)).Nodup) : addc R j a = R.set k (j, b + a) := by
  induction R generalizing k with
  | nil => simp at hk
  | cons p r ih =>
    unfold addc
    cases k with
    | zero =>
      simp at hk
      subst hk
      simp
    | succ k =>
      simp only [List.getElem?_cons_succ] at hk
      rw [List.map_cons, List.nodup_cons] at hd
      have hne : p.1 ≠ j := by
        intro e
        apply hd.1
        rw [e]
        exact List.mem_map.2 ⟨(j, b), List.mem_of_getElem? hk, rfl⟩
      rw [if_neg hne, ih k hk hd.2]
      rfl
theorem addc_cols_old (R : List (Int × Int)) (j a : Int) (h : j ∈ R.map (·.1)) : (addc R j a).map (·.1) = R.map (·.1) := by
  induction R with
  | nil => simp at h
  | cons p r ih =>
    unfold addc
    split
    · simp
    · rename_i hne
      rw [List.map_cons, List.mem_cons] at h
      rcases h with h | h
      · exact absurd h.symm hne
      · rw [List.map_cons, ih h, List.map_cons]
theorem addc_cols_new (R : List (Int × Int)) (j a : Int) (h : j ∉ R.map (·.1)) : (addc R j a).map (·.1) = R.map (·.1) ++ [j] := by
  rw [addc_new R j a (fun p hp e => h (List.mem_map.2 ⟨p, hp, e⟩))]
  simp
/-- the sizes of the coefficients add up to at most S -/
def mass : List (Int × Int) → Nat
  | [] => 0
  | p :: r => p.2.natAbs + mass r
theorem mass_addc (R : List (Int × Int)) (j a : Int) : mass (addc R j a) ≤ mass R + a.natAbs := by
  induction R with
  | nil => simp [addc, mass]
  | cons p r ih =>
    unfold addc
    split
    · simp only [mass]; omega
    · simp only [mass]; omega
theorem mass_get {R : List (Int × Int)} {k : Nat} {p : Int × Int} (h : R[k]? = some p) : p.2.natAbs ≤ mass R := by
  induction R generalizing k with
  | nil => simp at h
  | cons q r ih =>
    cases k with
    | zero => simp at h; subst h; simp only [mass]; omega
    | succ k => have := ih (k := k) (by simpa using h); simp only [mass]; omega

/-- the literals: fixed?, true where fixed?, negative?, column, weight -/
structure Lits where
  fx : Nat → Bool
  tr : Nat → Bool
  ng : Nat → Bool
  c : Nat → Int
  w : Nat → Int
/-- the row behind k literals -/
def rowR (L : Lits) : Nat → List (Int × Int)
  | 0 => []
  | k + 1 => if L.fx k then rowR L k else addc (rowR L k) (L.c k) (if L.ng k then - L.w k else L.w k)
def rowLo (L : Lits) (a : Int) : Nat → Int
  | 0 => a
  | k + 1 => if L.fx k then (if L.tr k then rowLo L a k - L.w k else rowLo L a k) else (if L.ng k then rowLo L a k - L.w k else rowLo L a k)
/-- the value of the constraint -/
def valK (L : Lits) (X : Int → Bool) : Nat → Int
  | 0 => 0
  | k + 1 => if (if L.fx k then L.tr k else (X (L.c k) == !L.ng k)) then valK L X k + L.w k else valK L X k
theorem row_law (L : Lits) (X : Int → Bool) (a : Int) (k : Nat) : valK L X k - a = sel X (rowR L k) - rowLo L a k := by
  induction k with
  | zero => simp [valK, rowR, rowLo, sel]
  | succ k ih =>
    simp only [valK, rowR, rowLo]
    cases L.fx k
    · simp only [Bool.false_eq_true, if_false]
      rw [sel_addc]
      cases L.ng k <;> cases X (L.c k) <;> simp <;> omega
    · simp only [if_true]
      cases L.tr k <;> simp <;> omega
/-- by column: one more than where it first stands among the free literals; nought where it does not -/
def first (L : Lits) : Nat → Int → Nat
  | 0, _ => 0
  | k + 1, j => if L.fx k = false ∧ L.c k = j ∧ first L k j = 0 then k + 1 else first L k j
theorem first_le (L : Lits) (k : Nat) (j : Int) : first L k j ≤ k := by
  induction k with
  | zero => simp [first]
  | succ k ih => simp only [first]; split <;> omega
theorem pw_mono {l : List Int} {p q : Int → Int → Prop} (h : l.Pairwise p) (hpq : ∀ i ∈ l, ∀ j ∈ l, p i j → q i j) : l.Pairwise q := by
  induction l with
  | nil => exact List.Pairwise.nil
  | cons x r ih =>
    rw [List.pairwise_cons] at h ⊢
    exact ⟨fun j hj => hpq x (by simp) j (by simp [hj]) (h.1 j hj), ih h.2 (fun i hi j hj => hpq i (by simp [hi]) j (by simp [hj]))⟩
/-- the columns stand in the order of their first places -/
def Ord (L : Lits) (k : Nat) (cols : List Int) : Prop := (∀ j, first L k j ≠ 0 ↔ j ∈ cols) ∧ cols.Pairwise (fun i j => first L k i < first L k j)
theorem ord_row (L : Lits) (k : Nat) : Ord L k ((rowR L k).map (·.1)) := by
  induction k with
  | zero => exact ⟨fun j => by simp [first, rowR], by simp [rowR]⟩
  | succ k ih =>
    obtain ⟨h1, h2⟩ := ih
    simp only [rowR]
    cases hf : L.fx k
    · simp only [Bool.false_eq_true, if_false]
      by_cases hm : L.c k ∈ (rowR L k).map (·.1)
      · rw [addc_cols_old _ _ _ hm]
        have hsame : ∀ j, first L (k + 1) j = first L k j := by
          intro j
          simp only [first]
          rw [if_neg]
          intro ⟨_, e, h0⟩
          exact (h1 j).2 (e ▸ hm) h0
        exact ⟨fun j => by rw [hsame]; exact h1 j, by simpa only [hsame] using h2⟩
      · rw [addc_cols_new _ _ _ hm]
        have hold : ∀ j, j ∈ (rowR L k).map (·.1) → first L (k + 1) j = first L k j := by
          intro j hj
          simp only [first]
          rw [if_neg]
          intro ⟨_, e, h0⟩
          exact hm (e ▸ hj)
        have hnew : first L (k + 1) (L.c k) = k + 1 := by
          have h0 : first L k (L.c k) = 0 := by
            by_cases hz : first L k (L.c k) = 0
            · exact hz
            · exact absurd ((h1 _).1 hz) hm
          simp [first, hf, h0]
        refine ⟨fun j => ?_, ?_⟩
        · rw [List.mem_append, List.mem_singleton]
          by_cases hj : j = L.c k
          · subst hj
            rw [hnew]
            simp
          · have : first L (k + 1) j = first L k j := by
              simp only [first]
              rw [if_neg]
              intro ⟨_, e, _⟩
              exact hj e.symm
            rw [this]
            constructor
            · intro h; exact .inl ((h1 j).1 h)
            · intro h
              rcases h with h | h
              · exact (h1 j).2 h
              · exact absurd h hj
        · rw [List.pairwise_append]
          refine ⟨?_, by simp, ?_⟩
          · refine pw_mono h2 ?_
            intro i hi j hj hlt
            rw [hold i hi, hold j hj]
            exact hlt
          · intro i hi j hj
            simp at hj
            subst hj
            rw [hold i hi, hnew]
            have := first_le L k i
            omega
    · simp only [if_true]
      have hsame : ∀ j, first L (k + 1) j = first L k j := by
        intro j
        simp only [first, hf]
        simp
      exact ⟨fun j => by rw [hsame]; exact h1 j, by simpa only [hsame] using h2⟩
theorem nodup_row (L : Lits) (k : Nat) : ((rowR L k).map (·.1)).Nodup := by
  refine pw_mono (ord_row L k).2 ?_
  intro i _ j _ h e
  subst e
  omega
/-- what is kept in the end -/
def keep (R : List (Int × Int)) : List (Int × Int) := R.filter (fun p => p.2 != 0)
theorem sel_keep (X : Int → Bool) (R : List (Int × Int)) : sel X (keep R) = sel X R := by
  induction R with
  | nil => rfl
  | cons p r ih =>
    unfold keep at *
    rw [List.filter_cons]
    split
    · simp only [sel, ih]
    · rename_i h
      have : p.2 = 0 := by simpa using h
      simp only [sel, ih, this]
      split <;> omega
theorem keep_ord (L : Lits) (k : Nat) : ((keep (rowR L k)).map (·.1)).Pairwise (fun i j => first L k i < first L k j) :=
  List.Pairwise.sublist (List.Sublist.map _ List.filter_sublist) (ord_row L k).2
theorem keep_mem (L : Lits) (k : Nat) (p : Int × Int) (h : p ∈ keep (rowR L k)) : p.2 ≠ 0 ∧ first L k p.1 ≠ 0 := by
  unfold keep at h
  rw [List.mem_filter] at h
  exact ⟨by simpa using h.2, ((ord_row L k).1 p.1).2 (List.mem_map.2 ⟨p, h.1, rfl⟩)⟩
end Go.Proofs.Qxb6600645a.plain
