/-
  What the lists, the float and the map of (*reduced).row say behind k literals; each step of it, with no walk in sight.
-/
import Derived.Test.Qxb6600645aMem
import Derived.Test.Qxb6600645aRowOk
import Derived.Maps.Views
namespace Go.Proofs.Qxb6600645a.says
open Go.ChangeShapes Go.WideShapes Go.ChangeAt Go.RowKit Go.Maps
open Go.Proofs.Qxb6600645a.base Go.Proofs.Qxb6600645a.own Go.Proofs.Qxb6600645a.top Go.Proofs.Qxb6600645a.flt Go.Proofs.Qxb6600645a.plain Go.Proofs.Qxb6600645a.mem

/-- the literals of a constraint over the tables -/
def mkL (vs col lits : List Int) (o : Option (List Int)) : Lits where
  fx k := vs.getD (lits.getD k 0).natAbs 0 != 0
  tr k := decide (0 < vs.getD (lits.getD k 0).natAbs 0) == decide (0 < lits.getD k 0)
  ng k := decide (lits.getD k 0 < 0)
  c k := col.getD (lits.getD k 0).natAbs 0
  w k := wt o k
/-- the literal makes row refuse -/
def bad (vs : List Int) (uf : List Bool) (col lits : List Int) (k : Nat) : Bool :=
  if vs.getD (lits.getD k 0).natAbs 0 != 0 then (!(decide (0 < vs.getD (lits.getD k 0).natAbs 0) == decide (0 < lits.getD k 0))) && uf.getD (lits.getD k 0).natAbs false
  else decide (col.getD (lits.getD k 0).natAbs 0 < 0)
def Reps (bs : List Nat) (ns : List Int) : Prop := bs.length = ns.length ∧ ∀ (k b : Nat) (n : Int), bs[k]? = some b → ns[k]? = some n → Rep b n
def MapIs (D : DataW Unit) (cl : List Int) : Prop := (∀ j : Int, Maps.has D (.int .i64 j) = true ↔ j ∈ cl) ∧ ∀ (p : Nat) (j : Int), cl[p]? = some j → D.atKey (.int .i64 j) (.lit (.int .i64 0)) = .lit (.int .i64 (p : Int))
/-- what the lists say behind k literals -/
structure Says (L : Lits) (a : Int) (k : Nat) (cl : List Int) (bs : List Nat) (lo : Nat) (D : DataW Unit) : Prop where
  ecl : cl = (rowR L k).map (·.1)
  reps : Reps bs ((rowR L k).map (·.2))
  rlo : Rep lo (rowLo L a k)
  mis : MapIs D cl
  mss : mass (rowR L k) ≤ k * 34359738368
  lob : (rowLo L a k).natAbs ≤ 1099511627776 + k * 34359738368
  len : cl.length ≤ k
theorem says0 (L : Lits) (at0 : Int) (h0 : -1099511627776 ≤ at0) (h1 : at0 ≤ 1099511627776) : Says L at0 0 [] [] (floatOfInt .f64 at0) (.map []) where
  ecl := rfl
  reps := ⟨rfl, fun k b n h => by simp at h⟩
  rlo := ofInt_rep at0 (by omega)
  mis := ⟨fun j => by simp [Maps.has], fun p j h => by simp at h⟩
  mss := by simp [rowR, mass]
  lob := by simp only [rowLo]; omega
  len := by simp
theorem le_step {m m' k : Nat} (h : m ≤ k * 34359738368) (h' : m' ≤ m + 34359738368) : m' ≤ (k + 1) * 34359738368 := by omega
theorem lo_step {m m' : Int} {k : Nat} (h : m.natAbs ≤ 1099511627776 + k * 34359738368) (h' : m'.natAbs ≤ m.natAbs + 34359738368) : m'.natAbs ≤ 1099511627776 + (k + 1) * 34359738368 := by omega
theorem abs_sub (m y : Int) (h : y.natAbs ≤ 34359738368) : (m - y).natAbs ≤ m.natAbs + 34359738368 := by omega
theorem abs_if (b : Bool) (m y : Int) (h : y.natAbs ≤ 34359738368) : (if b then m - y else m).natAbs ≤ m.natAbs + 34359738368 := by cases b <;> simp <;> omega
theorem int_key (j : Int) : WideAt.IsKeyLit (.int .i64 j) := trivial
section
variable {L : Lits} {a : Int} {k : Nat} {cl : List Int} {bs : List Nat} {lo : Nat} {D : DataW Unit}
/-- a fixed literal that is true -/
theorem Says.fixT (h : Says L a k cl bs lo D) (hf : L.fx k = true) (ht : L.tr k = true) (hw : (L.w k).natAbs ≤ 34359738368) (hk : k < 131072) :
    ∃ r, floatBits .sub .f64 lo (floatOfInt .f64 (L.w k)) = some r ∧ Says L a (k + 1) cl bs r D := by
  have hl := h.lob
  obtain ⟨r, e, hr⟩ := sub_rep h.rlo (ofInt_rep (L.w k) (by omega)) (by omega)
  have e1 : rowR L (k + 1) = rowR L k := by simp [rowR, hf]
  have e2 : rowLo L a (k + 1) = rowLo L a k - L.w k := by simp [rowLo, hf, ht]
  have hm := h.mss
  have hn := h.len
  exact ⟨r, e, ⟨by rw [e1]; exact h.ecl, by rw [e1]; exact h.reps, by rw [e2]; exact hr, h.mis, le_step hm (by rw [e1]; exact Nat.le_add_right _ _), lo_step hl (by rw [e2]; exact abs_sub _ _ hw), by omega⟩⟩
/-- a fixed literal that is false -/
theorem Says.fixF (h : Says L a k cl bs lo D) (hf : L.fx k = true) (ht : L.tr k = false) : Says L a (k + 1) cl bs lo D := by
  have hl := h.lob
  have e1 : rowR L (k + 1) = rowR L k := by simp [rowR, hf]
  have e2 : rowLo L a (k + 1) = rowLo L a k := by simp [rowLo, hf, ht]
  have hm := h.mss
  have hn := h.len
  exact ⟨by rw [e1]; exact h.ecl, by rw [e1]; exact h.reps, by rw [e2]; exact h.rlo, h.mis, le_step hm (by rw [e1]; exact Nat.le_add_right _ _), lo_step hl (by rw [e2]; exact Nat.le_add_right _ _), by omega⟩
/-- lo, behind a free literal that is negative -/
theorem Says.newLo (h : Says L a k cl bs lo D) (hw : (L.w k).natAbs ≤ 34359738368) (hk : k < 131072) :
    ∃ r, floatBits .add .f64 lo (Op.negFloat .f64 (floatOfInt .f64 (L.w k))) = some r ∧ Rep r (rowLo L a k - L.w k) := by
  have hl := h.lob
  obtain ⟨r, e, hr⟩ := add_rep h.rlo (neg_rep (ofInt_rep (L.w k) (by omega))) (by omega)
  exact ⟨r, e, by rw [Int.sub_eq_add_neg]; exact hr⟩
/-- a free literal whose column is there -/
theorem Says.hit (h : Says L a k cl bs lo D) (hf : L.fx k = false) {p : Nat} (hp : cl[p]? = some (L.c k)) {s : Nat} {sw : Int} (hsw : sw = (if L.ng k then - L.w k else L.w k)) (hs : Rep s sw)
    {lo' : Nat} (hlo : Rep lo' (if L.ng k then rowLo L a k - L.w k else rowLo L a k)) (hw : (L.w k).natAbs ≤ 34359738368) (hk : k < 131072) :
    ∃ x r, bs[p]? = some x ∧ floatBits .add .f64 x s = some r ∧ Says L a (k + 1) cl (bs.set p r) lo' D := by
  obtain ⟨hrl, hrep⟩ := h.reps
  have hpl : p < (rowR L k).length := by
    have := (List.getElem?_eq_some_iff.1 hp).1
    rw [h.ecl] at this
    simpa using this
  obtain ⟨q, hq⟩ : ∃ q, (rowR L k)[p]? = some q := ⟨_, List.getElem?_eq_getElem hpl⟩
  have hq1 : q.1 = L.c k := by
    have := hp
    rw [h.ecl, List.getElem?_map, hq] at this
    simpa using this
  obtain ⟨x, hx⟩ : ∃ x, bs[p]? = some x := ⟨_, List.getElem?_eq_getElem (by rw [hrl]; simpa using hpl)⟩
  have hxr : Rep x q.2 := hrep p x q.2 hx (by rw [List.getElem?_map, hq]; rfl)
  have hm := h.mss
  have hl := h.lob
  have hqm := mass_get hq
  have hn := h.len
  have hsa : sw.natAbs ≤ 34359738368 := by rw [hsw]; split <;> omega
  obtain ⟨r, e, hr⟩ := add_rep hxr hs (by omega)
  have e1 : rowR L (k + 1) = addc (rowR L k) (L.c k) sw := by simp only [rowR, hf, hsw]; rfl
  have e3 : addc (rowR L k) (L.c k) sw = (rowR L k).set p (L.c k, q.2 + sw) := addc_at _ _ _ _ _ (by rw [hq, ← hq1]) (nodup_row L k)
  have e2 : rowLo L a (k + 1) = (if L.ng k then rowLo L a k - L.w k else rowLo L a k) := by simp only [rowLo, hf]; rfl
  have hma := mass_addc (rowR L k) (L.c k) sw
  refine ⟨x, r, hx, e, ⟨?_, ⟨?_, ?_⟩, by rw [e2]; exact hlo, h.mis, le_step hm (by rw [e1]; exact Nat.le_trans hma (Nat.add_le_add_left hsa _)), lo_step hl (by rw [e2]; exact abs_if _ _ _ hw), by omega⟩⟩
  · rw [e1, addc_cols_old _ _ _ (by rw [← h.ecl]; exact List.mem_of_getElem? hp)]; exact h.ecl
  · rw [e1, e3]; simpa using hrl
  · intro i b n hb hnn
    rw [e1, e3, List.getElem?_map, List.getElem?_set] at hnn
    rw [List.getElem?_set] at hb
    by_cases hi : p = i
    · subst hi
      rw [if_pos rfl, if_pos hpl] at hnn
      rw [if_pos rfl, if_pos (by rw [hrl]; simpa using hpl)] at hb
      simp at hb hnn
      subst hb; subst hnn
      exact hr
    · rw [if_neg hi] at hb hnn
      exact hrep i b n hb (by rw [List.getElem?_map]; exact hnn)
/-- a free literal whose column is new -/
theorem Says.miss (h : Says L a k cl bs lo D) (hf : L.fx k = false) (hD : IsMap D) (hp : L.c k ∉ cl) {s : Nat} {sw : Int} (hsw : sw = (if L.ng k then - L.w k else L.w k)) (hs : Rep s sw)
    {lo' : Nat} (hlo : Rep lo' (if L.ng k then rowLo L a k - L.w k else rowLo L a k)) (hw : (L.w k).natAbs ≤ 34359738368) :
    Says L a (k + 1) (cl ++ [L.c k]) (bs ++ [s]) lo' (D.put (.int .i64 (L.c k)) (.lit (.int .i64 (cl.length : Int)))) := by
  obtain ⟨hrl, hrep⟩ := h.reps
  have hm := h.mss
  have hl := h.lob
  have hn := h.len
  have hsa : sw.natAbs ≤ 34359738368 := by rw [hsw]; split <;> omega
  have e1 : rowR L (k + 1) = addc (rowR L k) (L.c k) sw := by simp only [rowR, hf, hsw]; rfl
  have hp' : L.c k ∉ (rowR L k).map (·.1) := by rw [← h.ecl]; exact hp
  have e3 : addc (rowR L k) (L.c k) sw = rowR L k ++ [(L.c k, sw)] := addc_new _ _ _ (fun q hq e => hp' (List.mem_map.2 ⟨q, hq, e⟩))
  have e2 : rowLo L a (k + 1) = (if L.ng k then rowLo L a k - L.w k else rowLo L a k) := by simp only [rowLo, hf]; rfl
  have hma := mass_addc (rowR L k) (L.c k) sw
  refine ⟨?_, ⟨?_, ?_⟩, by rw [e2]; exact hlo, ⟨?_, ?_⟩, le_step hm (by rw [e1]; exact Nat.le_trans hma (Nat.add_le_add_left hsa _)), lo_step hl (by rw [e2]; exact abs_if _ _ _ hw), by simp; omega⟩
  · rw [e1, e3, List.map_append, ← h.ecl]; rfl
  · rw [e1, e3]; simpa using hrl
  · intro i b n hb hnn
    rw [e1, e3, List.map_append] at hnn
    by_cases hi : i < bs.length
    · rw [List.getElem?_append_left hi] at hb
      rw [List.getElem?_append_left (by rw [← hrl]; exact hi)] at hnn
      exact hrep i b n hb hnn
    · rw [List.getElem?_append_right (by omega)] at hb
      rw [List.getElem?_append_right (by rw [← hrl]; omega)] at hnn
      have hb0 : i - bs.length = 0 := by
        have := (List.getElem?_eq_some_iff.1 hb).1
        simpa using this
      rw [← hrl] at hnn
      rw [hb0] at hb hnn
      simp at hb hnn
      subst hb; subst hnn
      exact hs
  · intro j
    by_cases hj : j = L.c k
    · subst hj
      rw [has_put_same hD (int_key _)]
      simp
    · rw [has_put_other (fun e => hj (by injection e))]
      rw [h.mis.1 j]
      simp [hj]
  · intro p j hpj
    by_cases hi : p < cl.length
    · rw [List.getElem?_append_left hi] at hpj
      have hj : j ≠ L.c k := by
        intro e
        subst e
        exact hp (List.mem_of_getElem? hpj)
      rw [atKey_put_other (fun e => hj (by injection e))]
      exact h.mis.2 p j hpj
    · rw [List.getElem?_append_right (by omega)] at hpj
      have hb0 : p - cl.length = 0 := by
        have := (List.getElem?_eq_some_iff.1 hpj).1
        simpa using this
      rw [hb0] at hpj
      simp at hpj
      subst hpj
      rw [atKey_put_same hD (int_key _), show p = cl.length by omega]
end
end Go.Proofs.Qxb6600645a.says
