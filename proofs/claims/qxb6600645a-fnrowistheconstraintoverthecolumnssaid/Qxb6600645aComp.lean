/-
  The compaction of a row: what is kept behind k columns, with no walk in sight.
-/
import Derived.Test.Qxb6600645aMem2
namespace Go.Proofs.Qxb6600645a.comp
open Go.Proofs.Qxb6600645a.flt Go.Proofs.Qxb6600645a.plain Go.Proofs.Qxb6600645a.says

/-- behind k columns n are kept -/
structure Comp (R : List (Int × Int)) (k n : Nat) (cl : List Int) (bs : List Nat) : Prop where
  l1 : cl.length = R.length
  l2 : bs.length = R.length
  hn : n = (keep (R.take k)).length
  le : n ≤ k
  c : ∀ i, i < n → cl[i]? = ((keep (R.take k)).map (·.1))[i]?
  b : ∀ i x y, i < n → bs[i]? = some x → ((keep (R.take k)).map (·.2))[i]? = some y → Rep x y
  c' : ∀ i, k ≤ i → cl[i]? = (R.map (·.1))[i]?
  b' : ∀ i x y, k ≤ i → bs[i]? = some x → (R.map (·.2))[i]? = some y → Rep x y
theorem comp0 {R : List (Int × Int)} {cl : List Int} {bs : List Nat} (h : cl = R.map (·.1)) (h' : Reps bs (R.map (·.2))) : Comp R 0 0 cl bs where
  l1 := by rw [h]; simp
  l2 := by rw [h'.1]; simp
  hn := by simp [keep]
  le := Nat.le_refl _
  c := fun i hi => by omega
  b := fun i x y hi => by omega
  c' := fun i _ => by rw [h]
  b' := fun i x y _ hx hy => h'.2 i x y hx hy
theorem keep_snoc (R : List (Int × Int)) (p : Int × Int) : keep (R ++ [p]) = keep R ++ (if p.2 != 0 then [p] else []) := by
  unfold keep
  rw [List.filter_append]
  simp only [List.filter_cons, List.filter_nil]
theorem Comp.skip {R : List (Int × Int)} {k n : Nat} {cl : List Int} {bs : List Nat} (h : Comp R k n cl bs) {p : Int × Int} (hp : R[k]? = some p) (h0 : p.2 = 0) : Comp R (k + 1) n cl bs := by
  have e : keep (R.take (k + 1)) = keep (R.take k) := by
    rw [List.take_add_one, hp]
    show keep (R.take k ++ [p]) = _
    rw [keep_snoc, h0]
    simp
  refine ⟨h.l1, h.l2, by rw [e]; exact h.hn, by have := h.le; omega, fun i hi => by rw [e]; exact h.c i hi, fun i x y hi hx hy => h.b i x y hi hx (by rw [← e]; exact hy), fun i hi => h.c' i (by omega), fun i x y hi => h.b' i x y (by omega)⟩
theorem Comp.take {R : List (Int × Int)} {k n : Nat} {cl : List Int} {bs : List Nat} (h : Comp R k n cl bs) {p : Int × Int} (hp : R[k]? = some p) (h0 : p.2 ≠ 0) {x : Nat} (hx : Rep x p.2) : Comp R (k + 1) (n + 1) (cl.set n p.1) (bs.set n x) := by
  have hk : k < R.length := (List.getElem?_eq_some_iff.1 hp).1
  have hle := h.le
  have e : keep (R.take (k + 1)) = keep (R.take k) ++ [p] := by
    rw [List.take_add_one, hp]
    show keep (R.take k ++ [p]) = _
    rw [keep_snoc, if_pos (by simpa using h0)]
  have hn := h.hn
  refine ⟨by simpa using h.l1, by simpa using h.l2, by rw [e]; simp; exact hn, by omega, fun i hi => ?_, fun i a b hi ha hb => ?_, fun i hi => ?_, fun i a b hi ha hb => ?_⟩
  · rw [e, List.map_append, List.getElem?_set]
    by_cases hi' : i = n
    · subst hi'
      rw [if_pos rfl, if_pos (by rw [h.l1]; omega), List.getElem?_append_right (by rw [List.length_map, ← hn]; exact Nat.le_refl _)]
      simp [← hn]
    · rw [if_neg (fun e => hi' e.symm), List.getElem?_append_left (by rw [List.length_map, ← hn]; omega)]
      exact h.c i (by omega)
  · rw [e, List.map_append] at hb
    rw [List.getElem?_set] at ha
    by_cases hi' : i = n
    · subst hi'
      rw [if_pos rfl, if_pos (by rw [h.l2]; omega)] at ha
      rw [List.getElem?_append_right (by rw [List.length_map, ← hn]; exact Nat.le_refl _)] at hb
      simp [← hn] at hb
      injection ha with ha
      rw [← ha, ← hb]
      exact hx
    · rw [if_neg (fun e => hi' e.symm)] at ha
      rw [List.getElem?_append_left (by rw [List.length_map, ← hn]; omega)] at hb
      exact h.b i a b (by omega) ha hb
  · rw [List.getElem?_set, if_neg (by omega)]
    exact h.c' i (by omega)
  · rw [List.getElem?_set, if_neg (by omega)] at ha
    exact h.b' i a b (by omega) ha hb
/-- in the end -/
theorem Comp.cols {R : List (Int × Int)} {k n : Nat} {cl : List Int} {bs : List Nat} (h : Comp R k n cl bs) (hk : k = R.length) : cl.take n = (keep R).map (·.1) := by
  have e : R.take k = R := by rw [hk]; exact List.take_length
  have hn := h.hn
  have hc := h.c
  have hle := h.le
  have hl := h.l1
  rw [e] at hn hc
  apply List.ext_getElem?
  intro i
  rw [List.getElem?_take]
  by_cases hi : i < n
  · rw [if_pos hi]; exact hc i hi
  · rw [if_neg hi, List.getElem?_eq_none (by rw [List.length_map, ← hn]; omega)]
theorem Comp.coef {R : List (Int × Int)} {k n : Nat} {cl : List Int} {bs : List Nat} (h : Comp R k n cl bs) (hk : k = R.length) : Reps (bs.take n) ((keep R).map (·.2)) := by
  have e : R.take k = R := by rw [hk]; exact List.take_length
  have hn := h.hn
  have hb := h.b
  have hle := h.le
  have hl := h.l2
  rw [e] at hn hb
  refine ⟨by rw [List.length_take, List.length_map, ← hn]; omega, fun i x y hx hy => ?_⟩
  have hi : i < n := by
    have := (List.getElem?_eq_some_iff.1 hy).1
    rw [List.length_map, ← hn] at this
    exact this
  rw [List.getElem?_take, if_pos hi] at hx
  exact hb i x y hi hx hy
end Go.Proofs.Qxb6600645a.comp
