/-
  The last plain facts on a row: bounds, the order of what is kept, sums step by step. No program in sight.
-/
import Derived.Test.Qxb6600645aPlain
namespace Go.Proofs.Qxb6600645a.fin
open Go.Proofs.Qxb6600645a.plain

theorem mass_row (L : Lits) (c n : Nat) (h : ∀ k, k < n → (L.w k).natAbs ≤ c) : mass (rowR L n) ≤ n * c := by
  induction n with
  | zero => simp [rowR, mass]
  | succ n ih =>
    have ih := ih (fun k hk => h k (by omega))
    have hw := h n (by omega)
    rw [Nat.succ_mul]
    simp only [rowR]
    split
    · omega
    · have := mass_addc (rowR L n) (L.c n) (if L.ng n then - L.w n else L.w n)
      have hb : (if L.ng n then - L.w n else L.w n).natAbs ≤ c := by split <;> omega
      omega
theorem lo_row (L : Lits) (a : Int) (c n : Nat) (h : ∀ k, k < n → (L.w k).natAbs ≤ c) : (rowLo L a n).natAbs ≤ a.natAbs + n * c := by
  induction n with
  | zero => simp [rowLo]
  | succ n ih =>
    have ih := ih (fun k hk => h k (by omega))
    have hw := h n (by omega)
    rw [Nat.succ_mul]
    simp only [rowLo]
    split <;> split <;> omega
theorem val_row (L : Lits) (X : Int → Bool) (c n : Nat) (h : ∀ k, k < n → (L.w k).natAbs ≤ c) : (valK L X n).natAbs ≤ n * c := by
  induction n with
  | zero => simp [valK]
  | succ n ih =>
    have ih := ih (fun k hk => h k (by omega))
    have hw := h n (by omega)
    rw [Nat.succ_mul]
    simp only [valK]
    generalize (if L.fx n then L.tr n else (X (L.c n) == !L.ng n)) = b
    cases b <;> simp <;> omega
theorem mass_keep (R : List (Int × Int)) : mass (keep R) ≤ mass R := by
  induction R with
  | nil => simp [keep, mass]
  | cons p r ih =>
    unfold keep at *
    rw [List.filter_cons]
    split
    · simp only [mass]; omega
    · simp only [mass]; omega
theorem sel_take (X : Int → Bool) (K : List (Int × Int)) (k : Nat) : (sel X (K.take k)).natAbs ≤ mass K := by
  induction K generalizing k with
  | nil => simp [sel]
  | cons p r ih =>
    cases k with
    | zero => simp [sel]
    | succ k =>
      have := ih k
      simp only [List.take_succ_cons, sel, mass]
      split <;> omega
theorem sel_append (X : Int → Bool) (K M : List (Int × Int)) : sel X (K ++ M) = sel X K + sel X M := by
  induction K with
  | nil => simp [sel]
  | cons p r ih => simp only [List.cons_append, sel, ih]; omega
theorem sel_step (X : Int → Bool) {K : List (Int × Int)} {k : Nat} {p : Int × Int} (h : K[k]? = some p) : sel X (K.take (k + 1)) = sel X (K.take k) + (if X p.1 then p.2 else 0) := by
  rw [List.take_add_one, h]
  show sel X (K.take k ++ [p]) = _
  rw [sel_append]
  simp [sel]
theorem first_mem (L : Lits) (n : Nat) (j : Int) (h : first L n j ≠ 0) : ∃ i, i < n ∧ L.fx i = false ∧ L.c i = j := by
  induction n with
  | zero => simp [first] at h
  | succ n ih =>
    simp only [first] at h
    split at h
    · rename_i hc
      exact ⟨n, by omega, hc.1, hc.2.1⟩
    · obtain ⟨i, hi, h1, h2⟩ := ih h
      exact ⟨i, by omega, h1, h2⟩
theorem kept_first (L : Lits) (n : Nat) {i : Nat} {p : Int × Int} (h : (keep (rowR L n))[i]? = some p) : p.2 ≠ 0 ∧ first L n p.1 ≠ 0 := keep_mem L n p (List.mem_of_getElem? h)
theorem kept_ord (L : Lits) (n : Nat) {i j : Nat} {p q : Int × Int} (hij : i < j) (hp : (keep (rowR L n))[i]? = some p) (hq : (keep (rowR L n))[j]? = some q) : first L n p.1 < first L n q.1 := by
  have h := List.pairwise_iff_getElem.1 (keep_ord L n)
  obtain ⟨hi, ei⟩ := List.getElem?_eq_some_iff.1 hp
  obtain ⟨hj, ej⟩ := List.getElem?_eq_some_iff.1 hq
  have := h i j (by simpa using hi) (by simpa using hj) hij
  simpa [ei, ej] using this
end Go.Proofs.Qxb6600645a.fin
