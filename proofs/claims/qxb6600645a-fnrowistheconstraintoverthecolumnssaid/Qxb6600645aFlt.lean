/-
  Whole numbers below 2^53 in size as floats of 64 bits: sums, differences and negations of such are exact. No program in sight.
-/
import Derived.Laws.FloatArith
namespace Go.Proofs.Qxb6600645a.flt
open Ieee

/-- the place of the last digit of all, a name so that no power of it is reckoned -/
def Q : Nat := 1074
theorem hQ : Q = 1074 := rfl
/-- the datum stands for the whole number n (a zero of either sign for 0) -/
def RepD (d : Datum) (n : Int) : Prop := ∃ (s : Bool) (m a : Nat), d = .number s m ((a : Int) - 1074) ∧ m * 2 ^ a = n.natAbs * 2 ^ Q ∧ (n ≠ 0 → s = decide (n < 0))
/-- the word stands for n -/
def Rep (b : Nat) (n : Int) : Prop := RepD (double.read b) n

theorem log_unique {m e e' : Nat} (h1 : 2 ^ e ≤ m) (h2 : m < 2 ^ (e + 1)) (h3 : 2 ^ e' ≤ m) (h4 : m < 2 ^ (e' + 1)) : e = e' := by
  have a := (Nat.pow_lt_pow_iff_right (a := 2) (by omega)).1 (Nat.lt_of_le_of_lt h1 h4)
  have b := (Nat.pow_lt_pow_iff_right (a := 2) (by omega)).1 (Nat.lt_of_le_of_lt h3 h2)
  omega
theorem log_bounds (m : Nat) (h : m ≠ 0) : 2 ^ m.log2 ≤ m ∧ m < 2 ^ (m.log2 + 1) := ⟨Nat.log2_self_le h, Nat.lt_log2_self⟩
theorem log_shift {m a N k : Nat} (hN : N ≠ 0) (h : m * 2 ^ a = N * 2 ^ k) : m.log2 + a = N.log2 + k := by
  have hm : m ≠ 0 := by
    intro e
    rw [e, Nat.zero_mul] at h
    have : 0 < N * 2 ^ k := Nat.mul_pos (by omega) (Nat.two_pow_pos k)
    omega
  obtain ⟨m1, m2⟩ := log_bounds m hm
  obtain ⟨n1, n2⟩ := log_bounds N hN
  refine log_unique (m := m * 2 ^ a) ?_ ?_ ?_ ?_
  · rw [Nat.pow_add]; exact Nat.mul_le_mul_right _ m1
  · rw [show m.log2 + a + 1 = m.log2 + 1 + a by omega, Nat.pow_add]; exact Nat.mul_lt_mul_of_pos_right m2 (Nat.two_pow_pos a)
  · rw [h, Nat.pow_add]; exact Nat.mul_le_mul_right _ n1
  · rw [h, show N.log2 + k + 1 = N.log2 + 1 + k by omega, Nat.pow_add]; exact Nat.mul_lt_mul_of_pos_right n2 (Nat.two_pow_pos k)
/-- a cut that drops nothing but zeros is exact -/
theorem cut_exact (neg : Bool) (q drop : Nat) (hq : 0 < q) : Toward.even.cut neg (q * 2 ^ drop) drop = q := by
  have hlog : drop ≤ (q * 2 ^ drop).log2 + 2 := by
    have : (q * 2 ^ drop).log2 = q.log2 + drop := by
      have := log_shift (m := q * 2 ^ drop) (a := 0) (N := q) (k := drop) (by omega) (by simp)
      omega
    omega
  unfold Toward.cut
  have hg : 1 <<< min drop ((q * 2 ^ drop).log2 + 2) = 2 ^ drop := by
    rw [Nat.min_eq_left hlog, Nat.one_shiftLeft]
  have hp : 0 < 2 ^ drop := Nat.two_pow_pos drop
  simp only [hg, Nat.mul_div_cancel q hp, Nat.mul_mod_left]
  have h1 : ¬ (2 ^ drop < 2 * 0) := by omega
  have h2 : (2 ^ drop == 2 * 0) = false := by rw [beq_eq_false_iff_ne]; omega
  simp
theorem read_normal (s : Bool) (e K : Nat) (he : e ≤ 52) (hK1 : 2 ^ 52 ≤ K) (hK2 : K < 2 ^ 53) :
    double.read (double.word s (min ((e + 1022) * 2 ^ 52 + K) double.infRung)) = .number s K (((e + 1022 : Nat) : Int) - 1074) := by
  have hinf : double.infRung = 2047 * 2 ^ 52 := rfl
  have hsw : double.signWeight = 2 ^ 63 := rfl
  have hbin : double.binade = 2 ^ 52 := rfl
  have hleast : double.leastPlace = -1074 := rfl
  have hmin : min ((e + 1022) * 2 ^ 52 + K) double.infRung = (e + 1022) * 2 ^ 52 + K := by
    rw [hinf]
    apply Nat.min_eq_left
    omega
  rw [hmin]
  unfold Format.read Format.word
  rw [hinf, hsw, hbin, hleast]
  have hw1 : (if s = true then 2 ^ 63 + ((e + 1022) * 2 ^ 52 + K) else (e + 1022) * 2 ^ 52 + K) % 2 ^ 63 = (e + 1022) * 2 ^ 52 + K := by
    cases s <;> simp <;> omega
  have hw2 : ((if s = true then 2 ^ 63 + ((e + 1022) * 2 ^ 52 + K) else (e + 1022) * 2 ^ 52 + K) / 2 ^ 63 % 2 == 1) = s := by
    cases s
    · rw [beq_eq_false_iff_ne]; simp; omega
    · rw [beq_iff_eq]; simp; omega
  simp only [hw1, hw2]
  rw [if_neg (by omega), if_pos (by omega)]
  have h1 : 2 ^ 52 + ((e + 1022) * 2 ^ 52 + K) % 2 ^ 52 = K := by omega
  have h2 : (((e + 1022) * 2 ^ 52 + K) / 2 ^ 52 - 1 : Nat) = e + 1022 := by omega
  rw [h1, h2]
  congr 1
theorem read_zero (s : Bool) : double.read (double.word s 0) = .number s 0 (((0 : Nat) : Int) - 1074) := by cases s <;> rfl

theorem write_rep {s : Bool} {m a : Nat} {n : Int} (h : m * 2 ^ a = n.natAbs * 2 ^ Q) (hs : n ≠ 0 → s = decide (n < 0)) (hn : n.natAbs < 2 ^ 53) : Rep (double.write (.number s m ((a : Int) - 1074))) n := by
  show RepD (double.read (double.nearest s m ((a : Int) - 1074))) n
  by_cases hz : n = 0
  · subst hz
    have hm : m = 0 := by
      rw [Int.natAbs_zero, Nat.zero_mul] at h
      rcases Nat.mul_eq_zero.1 h with h | h
      · exact h
      · have := Nat.two_pow_pos a; omega
    subst hm
    rw [Format.nearest, if_pos rfl, read_zero]
    exact ⟨s, 0, 0, rfl, by simp, fun h => absurd rfl h⟩
  · have hN : n.natAbs ≠ 0 := by omega
    have hm : m ≠ 0 := by
      intro e
      rw [e, Nat.zero_mul] at h
      have : 0 < n.natAbs * 2 ^ Q := Nat.mul_pos (by omega) (Nat.two_pow_pos _)
      omega
    have hlog := log_shift hN h
    obtain ⟨n1, n2⟩ := log_bounds n.natAbs hN
    have he : n.natAbs.log2 ≤ 52 := by
      have := (Nat.pow_lt_pow_iff_right (a := 2) (by omega)).1 (Nat.lt_of_le_of_lt n1 hn)
      omega
    generalize hNN : n.natAbs = N at *
    generalize N.log2 = e at *
    have hK1 : 2 ^ 52 ≤ N * 2 ^ (52 - e) := by
      rw [show (2 : Nat) ^ 52 = 2 ^ e * 2 ^ (52 - e) by rw [← Nat.pow_add]; congr 1; omega]
      exact Nat.mul_le_mul_right _ n1
    have hK2 : N * 2 ^ (52 - e) < 2 ^ 53 := by
      rw [show (2 : Nat) ^ 53 = 2 ^ (e + 1) * 2 ^ (52 - e) by rw [← Nat.pow_add]; congr 1; omega]
      exact Nat.mul_lt_mul_of_pos_right n2 (Nat.two_pow_pos _)
    have hfb : (double.fractionBits : Int) = 52 := rfl
    have hleast : double.leastPlace = -1074 := rfl
    have hbin : double.binade = 2 ^ 52 := rfl
    have hlast : max ((a : Int) - 1074 + (m.log2 : Int) - (double.fractionBits : Int)) double.leastPlace = (e : Int) - 52 := by
      have hq := hQ
      rw [hfb, hleast]
      omega
    rw [Format.nearest, if_neg hm]
    simp only [hlast]
    have hkept : Toward.even.cut s (m <<< ((a : Int) - 1074 - ((e : Int) - 52)).toNat) ((e : Int) - 52 - ((a : Int) - 1074)).toNat = N * 2 ^ (52 - e) := by
      by_cases hc : 1022 + e ≤ a
      · rw [show ((a : Int) - 1074 - ((e : Int) - 52)).toNat = a - (1022 + e) by omega, show ((e : Int) - 52 - ((a : Int) - 1074)).toNat = 0 by omega, Nat.shiftLeft_eq]
        have hk : m * 2 ^ (a - (1022 + e)) = N * 2 ^ (52 - e) := by
          have : m * 2 ^ (a - (1022 + e)) * 2 ^ (1022 + e) = N * 2 ^ (52 - e) * 2 ^ (1022 + e) := by
            rw [Nat.mul_assoc, ← Nat.pow_add, Nat.mul_assoc, ← Nat.pow_add, show a - (1022 + e) + (1022 + e) = a by omega, show 52 - e + (1022 + e) = Q by have := hQ; omega]
            exact h
          exact Nat.eq_of_mul_eq_mul_right (Nat.two_pow_pos _) this
        rw [hk]
        have := cut_exact s (N * 2 ^ (52 - e)) 0 (Nat.lt_of_lt_of_le (Nat.two_pow_pos 52) hK1)
        simpa using this
      · rw [show ((a : Int) - 1074 - ((e : Int) - 52)).toNat = 0 by omega, show ((e : Int) - 52 - ((a : Int) - 1074)).toNat = 1022 + e - a by omega, Nat.shiftLeft_zero]
        have hk : m = N * 2 ^ (52 - e) * 2 ^ (1022 + e - a) := by
          have : m * 2 ^ a = N * 2 ^ (52 - e) * 2 ^ (1022 + e - a) * 2 ^ a := by
            rw [Nat.mul_assoc, ← Nat.pow_add, Nat.mul_assoc, ← Nat.pow_add, show 52 - e + (1022 + e - a + a) = Q by have := hQ; omega]
            exact h
          exact Nat.eq_of_mul_eq_mul_right (Nat.two_pow_pos _) this
        rw [hk]
        exact cut_exact s _ _ (Nat.lt_of_lt_of_le (Nat.two_pow_pos 52) hK1)
    rw [hkept, hleast, hbin, show ((e : Int) - 52 - -1074).toNat = e + 1022 by omega, read_normal s e _ he hK1 hK2]
    refine ⟨s, N * 2 ^ (52 - e), e + 1022, rfl, ?_, hs⟩
    rw [hNN, Nat.mul_assoc, ← Nat.pow_add, show 52 - e + (e + 1022) = Q by have := hQ; omega]

/-- a datum's number, over a common place; k stands for the least place, so that no power of it is reckoned -/
theorem signed_val {k : Nat} {s : Bool} {m a c : Nat} {n : Int} (h : m * 2 ^ a = n.natAbs * 2 ^ k) (hs : n ≠ 0 → s = decide (n < 0)) (hc : c ≤ a) : signed s m (a - c) * 2 ^ c = n * 2 ^ k := by
  have hm : ((m <<< (a - c) : Nat) : Int) * 2 ^ c = (n.natAbs : Int) * 2 ^ k := by
    have : m <<< (a - c) * 2 ^ c = n.natAbs * 2 ^ k := by
      rw [Nat.shiftLeft_eq, Nat.mul_assoc, ← Nat.pow_add, show a - c + c = a by omega]
      exact h
    exact_mod_cast this
  by_cases hz : n = 0
  · subst hz
    simp only [Int.natAbs_zero, Int.natCast_zero, Int.zero_mul] at hm ⊢
    have h0 : ((m <<< (a - c) : Nat) : Int) = 0 := by
      rcases Int.mul_eq_zero.1 hm with h | h
      · exact h
      · exact absurd h (Int.ne_of_gt (Int.pow_pos (by omega)))
    unfold signed
    cases s
    · simp only [Bool.false_eq_true, if_false]; rw [h0, Int.zero_mul]
    · simp only [if_true]; rw [h0]; simp
  · have hs' := hs hz
    unfold signed
    by_cases hneg : n < 0
    · rw [hs', decide_eq_true hneg, if_pos rfl, Int.neg_mul, hm, show (n.natAbs : Int) = -n by omega, Int.neg_mul, Int.neg_neg]
    · rw [hs', decide_eq_false hneg, if_neg (by simp), hm, show (n.natAbs : Int) = n by omega]
theorem pow_pos' (c : Nat) : (0 : Int) < 2 ^ c := Int.pow_pos (by omega)
theorem lt_iff {c k : Nat} {u v r s : Int} (hu : u * 2 ^ c = r * 2 ^ k) (hv : v * 2 ^ c = s * 2 ^ k) : u < v ↔ r < s := by
  constructor
  · intro hl
    have := Int.mul_lt_mul_of_pos_right hl (pow_pos' c)
    rw [hu, hv] at this
    exact Int.lt_of_mul_lt_mul_right this (Int.le_of_lt (pow_pos' k))
  · intro hl
    have := Int.mul_lt_mul_of_pos_right hl (pow_pos' k)
    rw [← hu, ← hv] at this
    exact Int.lt_of_mul_lt_mul_right this (Int.le_of_lt (pow_pos' c))
theorem sum_core {k : Nat} {s t : Bool} {m n p q : Nat} {a b : Int} (h1 : m * 2 ^ p = a.natAbs * 2 ^ k) (h2 : a ≠ 0 → s = decide (a < 0)) (k1 : n * 2 ^ q = b.natAbs * 2 ^ k) (k2 : b ≠ 0 → t = decide (b < 0)) :
    ∃ r, (Datum.number s m ((p : Int) - 1074)).sum (.number t n ((q : Int) - 1074)) = some r ∧ ∃ (s : Bool) (m c : Nat), r = .number s m ((c : Int) - 1074) ∧ m * 2 ^ c = (a + b).natAbs * 2 ^ k ∧ (a + b ≠ 0 → s = decide (a + b < 0)) := by
  have hmin : min ((p : Int) - 1074) ((q : Int) - 1074) = ((min p q : Nat) : Int) - 1074 := by omega
  have e1 : ((p : Int) - 1074 - (((min p q : Nat) : Int) - 1074)).toNat = p - min p q := by omega
  have e2 : ((q : Int) - 1074 - (((min p q : Nat) : Int) - 1074)).toNat = q - min p q := by omega
  have v1 := signed_val h1 h2 (Nat.min_le_left p q)
  have v2 := signed_val k1 k2 (Nat.min_le_right p q)
  refine ⟨_, rfl, ?_⟩
  simp only [hmin, e1, e2]
  generalize signed s m (p - min p q) = S1 at v1
  generalize signed t n (q - min p q) = S2 at v2
  generalize min p q = c at v1 v2
  have v : (S1 + S2) * 2 ^ c = (a + b) * 2 ^ k := by rw [Int.add_mul, v1, v2, Int.add_mul]
  have v0 : (0 : Int) * 2 ^ c = 0 * 2 ^ k := by simp
  refine ⟨_, _, c, rfl, ?_, ?_⟩
  · have := congrArg Int.natAbs v
    rw [Int.natAbs_mul, Int.natAbs_mul, Int.natAbs_pow, Int.natAbs_pow] at this
    exact this
  · intro hne
    have hlt := lt_iff v v0
    have hgt := lt_iff v0 v
    have hne' : S1 + S2 ≠ 0 := by omega
    rw [if_neg hne']
    by_cases hl : a + b < 0
    · rw [decide_eq_true hl, decide_eq_true (hlt.2 hl)]
    · rw [decide_eq_false hl, decide_eq_false (fun h => hl (hlt.1 h))]
theorem order_core {k : Nat} {s t : Bool} {m n p q : Nat} {a b : Int} (h1 : m * 2 ^ p = a.natAbs * 2 ^ k) (h2 : a ≠ 0 → s = decide (a < 0)) (k1 : n * 2 ^ q = b.natAbs * 2 ^ k) (k2 : b ≠ 0 → t = decide (b < 0)) :
    (Datum.number s m ((p : Int) - 1074)).order (.number t n ((q : Int) - 1074)) = some (compare a b) := by
  have hmin : min ((p : Int) - 1074) ((q : Int) - 1074) = ((min p q : Nat) : Int) - 1074 := by omega
  have e1 : ((p : Int) - 1074 - (((min p q : Nat) : Int) - 1074)).toNat = p - min p q := by omega
  have e2 : ((q : Int) - 1074 - (((min p q : Nat) : Int) - 1074)).toNat = q - min p q := by omega
  have v1 := signed_val h1 h2 (Nat.min_le_left p q)
  have v2 := signed_val k1 k2 (Nat.min_le_right p q)
  simp only [Datum.order, hmin, e1, e2]
  generalize signed s m (p - min p q) = S1 at v1
  generalize signed t n (q - min p q) = S2 at v2
  generalize min p q = c at v1 v2
  congr 1
  have g1 := lt_iff v1 v2
  have g2 := lt_iff v2 v1
  show compareOfLessAndEq S1 S2 = compareOfLessAndEq a b
  unfold compareOfLessAndEq
  by_cases l1 : a < b
  · rw [if_pos (g1.2 l1), if_pos l1]
  · rw [if_neg (fun h => l1 (g1.1 h)), if_neg l1]
    by_cases l2 : b < a
    · have l2' := g2.2 l2
      rw [if_neg (by omega), if_neg (by omega)]
    · rw [if_pos (by omega), if_pos (by omega)]
theorem sum_rep {d d' : Datum} {a b : Int} (h : RepD d a) (h' : RepD d' b) : ∃ r, d.sum d' = some r ∧ ∃ (s : Bool) (m c : Nat), r = .number s m ((c : Int) - 1074) ∧ m * 2 ^ c = (a + b).natAbs * 2 ^ Q ∧ (a + b ≠ 0 → s = decide (a + b < 0)) := by
  obtain ⟨s, m, p, rfl, h1, h2⟩ := h
  obtain ⟨t, n, q, rfl, k1, k2⟩ := h'
  exact sum_core h1 h2 k1 k2
theorem opp_rep {d : Datum} {a : Int} (h : RepD d a) : RepD d.opposite (-a) := by
  obtain ⟨s, m, p, rfl, h1, h2⟩ := h
  refine ⟨!s, m, p, rfl, by rw [Int.natAbs_neg]; exact h1, fun hne => ?_⟩
  rw [h2 (by omega)]
  by_cases hl : a < 0
  · rw [decide_eq_true hl, decide_eq_false (by omega)]; rfl
  · rw [decide_eq_false hl, decide_eq_true (by omega)]; rfl
theorem add_rep {x y : Nat} {a b : Int} (h : Rep x a) (h' : Rep y b) (hb : (a + b).natAbs < 2 ^ 53) : ∃ r, floatBits .add .f64 x y = some r ∧ Rep r (a + b) := by
  obtain ⟨r, e, s, m, c, rfl, h1, h2⟩ := sum_rep h h'
  refine ⟨_, ?_, write_rep h1 h2 hb⟩
  show ((double.read x).sum (double.read y)).map double.write = _
  rw [e]
  rfl
theorem sub_rep {x y : Nat} {a b : Int} (h : Rep x a) (h' : Rep y b) (hb : (a - b).natAbs < 2 ^ 53) : ∃ r, floatBits .sub .f64 x y = some r ∧ Rep r (a - b) := by
  obtain ⟨r, e, s, m, c, rfl, h1, h2⟩ := sum_rep h (opp_rep h')
  rw [← Int.sub_eq_add_neg] at h1 h2
  refine ⟨_, ?_, write_rep h1 h2 hb⟩
  show ((double.read x).sum (double.read y).opposite).map double.write = _
  rw [e]
  rfl
theorem order_rep {x y : Nat} {a b : Int} (h : Rep x a) (h' : Rep y b) : (FloatKind.format .f64).order x y = some (compare a b) := by
  show (double.read x).order (double.read y) = _
  obtain ⟨s, m, p, e, h1, h2⟩ := h
  obtain ⟨t, n, q, e', k1, k2⟩ := h'
  rw [e, e']
  exact order_core h1 h2 k1 k2
theorem eq_rep {x y : Nat} {a b : Int} (h : Rep x a) (h' : Rep y b) : ((FloatKind.format .f64).order x y == some Ordering.eq) = (a == b) := by
  rw [order_rep h h']
  show (some (compareOfLessAndEq a b) == some Ordering.eq) = (a == b)
  unfold compareOfLessAndEq
  by_cases g1 : a < b
  · rw [if_pos g1]
    have : (a == b) = false := beq_eq_false_iff_ne.2 (by omega)
    rw [this]; rfl
  · rw [if_neg g1]
    by_cases g2 : a = b
    · rw [if_pos g2, g2]; simp
    · rw [if_neg g2]
      have : (a == b) = false := beq_eq_false_iff_ne.2 g2
      rw [this]; rfl
theorem ofInt_rep (n : Int) (hn : n.natAbs < 2 ^ 53) : Rep (floatOfInt .f64 n) n := by
  show Rep (double.write (.number (decide (n < 0)) n.natAbs (0 : Int))) n
  have := write_rep (s := decide (n < 0)) (m := n.natAbs) (a := Q) (n := n) rfl (fun _ => rfl) hn
  rw [show ((Q : Int) - 1074) = 0 by have := hQ; omega] at this
  exact this
theorem zero_rep : Rep 0 0 := ⟨false, 0, 0, rfl, by simp, fun h => absurd rfl h⟩
theorem neg_rep {x : Nat} {a : Int} (h : Rep x a) : Rep (Op.negFloat .f64 x) (-a) := by
  have hr : double.read (Op.negFloat .f64 x) = (double.read x).opposite := by
    show double.read (x ^^^ 2 ^ 63) = _
    have m1 : (x ^^^ 2 ^ 63) % 2 ^ 63 = x % 2 ^ 63 := by
      rw [Nat.xor_mod_two_pow]; simp
    have m2 : ((x ^^^ 2 ^ 63) / 2 ^ 63 % 2 == 1) = !(x / 2 ^ 63 % 2 == 1) := by
      rw [← Nat.shiftRight_eq_div_pow, Nat.shiftRight_xor_distrib, Nat.shiftRight_eq_div_pow, Nat.shiftRight_eq_div_pow]
      generalize x / 2 ^ 63 = y
      have : (y ^^^ 2 ^ 63 / 2 ^ 63) % 2 = 1 - y % 2 := by
        rw [show (2 : Nat) ^ 63 / 2 ^ 63 = 1 by decide]
        have h2 : (y ^^^ 1) % 2 = (y % 2) ^^^ (1 % 2) := Nat.xor_mod_two_pow (n := 1)
        rw [h2]
        rcases Nat.mod_two_eq_zero_or_one y with h | h <;> rw [h] <;> rfl
      rw [this]
      rcases Nat.mod_two_eq_zero_or_one y with h | h <;> rw [h] <;> rfl
    have hsw : double.signWeight = 2 ^ 63 := rfl
    unfold Format.read
    rw [hsw]
    simp only [m1, m2]
    split
    · rfl
    · split
      · rfl
      · split <;> rfl
  unfold Rep
  rw [hr]
  exact opp_rep h
end Go.Proofs.Qxb6600645a.flt
