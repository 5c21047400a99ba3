/-
  A proof of the statement Rows.FnRowIsTheConstraintOverTheColumnsSaid: the walks are ours (Qxb6600645aMain and what it imports); the frame follows the shells of the kit, turned to seven parameters.
-/
import Derived.Test.Qxb6600645aRows
import Derived.Test.Qxb6600645aMain
import Derived.Test.Qxb6600645aFacts
import Derived.WalkKit
import Derived.ProofKit
import Derived.OpenShut
import Derived.ShutString
import Derived.ChangeOld
import Derived.Below
import Derived.SliceStrings
import Derived.Deep.Grids
namespace Go.Proofs.Qxb6600645a.fnRowIsTheConstraintOverTheColumns
open Go.ChangeShapes Go.WideShapes Go.ChangeAt Go.RowKit
open Go.Proofs.Qxb6600645a.base
set_option linter.unusedVariables false

theorem own : ownKnob Try.prog.godebug = none := by kernel_rfl
theorem laidOut : laidOutB Try.prog = true := by kernel_rfl
theorem sl_of {w : World} {x : Addr} {l c : Nat} (f : Nat → Value) (h : ∀ i, i < l → w.cell? (x.add i) = some (f i)) : Sl w (.slice (some x) l c) ((List.range l).map f) := by
  refine ⟨some x, c, by simp, (fun h => by cases h), fun k hk => ?_⟩
  have hk : k < l := by simpa using hk
  obtain ⟨b, off, sp⟩ := x
  have h0 := h 0 (by omega)
  rw [Addr.add, if_pos rfl] at h0
  obtain rfl : sp = none := by
    cases sp with
    | none => rfl
    | some s =>
      unfold World.cell? at h0
      split at h0
      · simp at h0
      · cases h0
  refine ⟨b, off, rfl, lt_of_cell h0, ?_⟩
  have hc := h k hk
  have e : Addr.add ⟨b, off, none⟩ k = ⟨b, off + k, none⟩ := by
    unfold Addr.add
    split
    · subst k; rfl
    · rfl
  rw [e] at hc
  rw [hc]
  simp [hk]
theorem nums_of {w : World} {x : Addr} {l c : Nat} {q : IntKind} (Z : Nat → Int) (h : ∀ i, i < l → w.cell? (x.add i) = some (.int q (Z i))) : Nums w (.slice (some x) l c) q ((List.range l).map Z) := by
  have := sl_of (c := c) (fun i => Value.int q (Z i)) h
  unfold Nums
  rw [List.map_map]
  exact this
theorem bools_of {w : World} {x : Addr} {l c : Nat} (Z : Nat → Bool) (h : ∀ i, i < l → w.cell? (x.add i) = some (.bool (Z i))) : Bools w (.slice (some x) l c) ((List.range l).map Z) := by
  have := sl_of (c := c) (fun i => Value.bool (Z i)) h
  unfold Bools
  rw [List.map_map]
  exact this
theorem sl_nil (w : World) : Sl w (.slice none 0 0) [] := ⟨none, 0, rfl, fun _ => rfl, fun k hk => absurd hk (Nat.not_lt_zero _)⟩
variable {H : Type} {enc : TypeId × Value → H} {w : World} {base : Nat} {held : Bool}
theorem read_nums {t e : TypeId} {q : IntKind} {v : Value} {d : DataW H} {ps : List MemPlace} (ht : Try.prog.underlying t = some (.slice e)) (he : Try.prog.underlying e = some (.int q)) (hc : Try.prog.cellsOf e = 1)
    (hs : ∃ a l c, v = .slice a l c) (h : DataW.Trod enc Try.prog w base (fun _ => true) held t v d ps) :
    ∃ zs : List Int, Nums w v q zs ∧ zs.length ≤ maxLen ∧ (v = .slice none 0 0 ∨ ∃ x n c, v = .slice (some x) n c) := by
  obtain ⟨a, l, c, rfl⟩ := hs
  obtain ⟨fuel, hf⟩ := h
  rcases open_ints ht he hc hf with ⟨hcs, _⟩ | ⟨x, l, c, zs, hcs, _, hl, hm, hz, _, hcell, _⟩
  · simp [Value.cells] at hcs
    obtain ⟨rfl, rfl, rfl⟩ := hcs
    exact ⟨[], sl_nil w, by simp, .inl rfl⟩
  · simp [Value.cells] at hcs
    obtain ⟨rfl, rfl, rfl⟩ := hcs
    refine ⟨_, nums_of (fun i => zs.getD i 0) (fun i hi => hcell i (by rw [hz, if_pos rfl]; omega)), ?_, .inr ⟨x, _, _, rfl⟩⟩
    rw [List.length_map, List.length_range]
    omega
theorem read_bools {t e : TypeId} {v : Value} {d : DataW H} {ps : List MemPlace} (ht : Try.prog.underlying t = some (.slice e)) (he : Try.prog.underlying e = some .bool) (hc : Try.prog.cellsOf e = 1)
    (hs : ∃ a l c, v = .slice a l c) (h : DataW.Trod enc Try.prog w base (fun _ => true) held t v d ps) :
    ∃ bs : List Bool, Bools w v bs ∧ bs.length ≤ maxLen := by
  obtain ⟨a, l, c, rfl⟩ := hs
  obtain ⟨fuel, hf⟩ := h
  rcases Go.Deep.open_bools ht he hc hf with ⟨hcs, _⟩ | ⟨x, l, c, B, hcs, _, hl, hm, _, hcell⟩
  · simp [Value.cells] at hcs
    obtain ⟨rfl, rfl, rfl⟩ := hcs
    exact ⟨[], sl_nil w, by simp⟩
  · simp [Value.cells] at hcs
    obtain ⟨rfl, rfl, rfl⟩ := hcs
    refine ⟨_, bools_of B (fun i hi => hcell i (by omega)), ?_⟩
    rw [List.length_map, List.length_range]
    omega

set_option maxRecDepth 100000 in
theorem lifted (os : Os) (started : os.Started) (H : Type) (enc : TypeId × Value → H) :
    ReturnsInHanded {} Try.checked os 8 .any (Rows.fnRowIsTheConstraintOverTheColumnsSpec.pre6 enc Try.prog Try.f8 Rows.fnRowIsTheConstraintOverTheColumnsRow.domain false) (Rows.fnRowIsTheConstraintOverTheColumnsSpec.post enc Try.prog Try.f8 false true false false) := by
  refine returnsInHanded_of_change (C := Try.checked) own started (by kernel_rfl) Try.func8
    (ChangeSpec.witness6 (enc := enc) (C := Try.checked) false ⟨#[], #[.slice none 0 0, .slice none 0 0, .slice none 0 0, .slice none 0 0, .slice none 0 0, .int .i64 0, .slice none 0 0], []⟩ 8 (by kernel_rfl) (by kernel_rfl) (by kernel_rfl) (by kernel_rfl)) ?_
  intro W base args ds gs before hval0 hW hcnd _
  have hval : ∀ (j : Nat) t v, Try.f8.params[j]? = some t → args[j]? = some v → Value.okWide Try.prog W .any base t v := hval0
  have hW' := hW
  obtain ⟨p, q, hA0, hV, rfl, hfz, hnd⟩ := hW
  have hA : DataW.TrodAll enc Try.prog W 0 (fun _ => true) true Try.f8.params.toList args.toList ds p := hA0
  rw [Try.params8] at hA hval
  obtain ⟨v0, vs0, d0, ds0, p0, q0, hargs, rfl, rfl, h0, r0⟩ := trodAll_cons hA
  obtain ⟨v1, vs1, d1, ds1, p1, q1, rfl, rfl, rfl, h1, r1⟩ := trodAll_cons r0
  obtain ⟨v2, vs2, d2, ds2, p2, q2, rfl, rfl, rfl, h2, r2⟩ := trodAll_cons r1
  obtain ⟨v3, vs3, d3, ds3, p3, q3, rfl, rfl, rfl, h3, r3⟩ := trodAll_cons r2
  obtain ⟨v4, vs4, d4, ds4, p4, q4, rfl, rfl, rfl, h4, r4⟩ := trodAll_cons r3
  obtain ⟨v5, vs5, d5, ds5, p5, q5, rfl, rfl, rfl, h5, r5⟩ := trodAll_cons r4
  obtain ⟨v6, vs6, d6, ds6, p6, q6, rfl, rfl, rfl, h6, r6⟩ := trodAll_cons r5
  obtain ⟨rfl, rfl, rfl⟩ := trodAll_nil r6
  obtain rfl : args = #[v0, v1, v2, v3, v4, v5, v6] := by cases args; simp_all
  obtain ⟨rfl, rfl⟩ := trodVars_none hV
  have k0 := h0
  have k1 := h1
  have k2 := h2
  have k3 := h3
  have k4 := h4
  have k6 := h6
  have lt0 : ∀ x ∈ p0, x.block < W.heap.size := by obtain ⟨m, hm⟩ := k0; exact DataW.trod_lt m _ _ _ hm
  have lt1 : ∀ x ∈ p1, x.block < W.heap.size := by obtain ⟨m, hm⟩ := k1; exact DataW.trod_lt m _ _ _ hm
  have lt2 : ∀ x ∈ p2, x.block < W.heap.size := by obtain ⟨m, hm⟩ := k2; exact DataW.trod_lt m _ _ _ hm
  have lt3 : ∀ x ∈ p3, x.block < W.heap.size := by obtain ⟨m, hm⟩ := k3; exact DataW.trod_lt m _ _ _ hm
  have lt4 : ∀ x ∈ p4, x.block < W.heap.size := by obtain ⟨m, hm⟩ := k4; exact DataW.trod_lt m _ _ _ hm
  have lt6 : ∀ x ∈ p6, x.block < W.heap.size := by obtain ⟨m, hm⟩ := k6; exact DataW.trod_lt m _ _ _ hm
  obtain ⟨vs, g0, b0, _⟩ := read_nums Try.underlying43 Try.underlying48 (by kernel_rfl) (okWide_slice Try.underlying43 (hval 0 43 v0 rfl rfl)) h0
  obtain ⟨uf, g1, b1⟩ := read_bools Try.underlying24 Try.underlying4 (by kernel_rfl) (okWide_slice Try.underlying24 (hval 1 24 v1 rfl rfl)) h1
  obtain ⟨col, g2, b2, _⟩ := read_nums Try.underlying23 Try.underlying3 (by kernel_rfl) (okWide_slice Try.underlying23 (hval 2 23 v2 rfl rfl)) h2
  obtain ⟨ls, g3, b3, _⟩ := read_nums Try.underlying23 Try.underlying3 (by kernel_rfl) (okWide_slice Try.underlying23 (hval 3 23 v3 rfl rfl)) h3
  obtain ⟨o, g4, b4⟩ : ∃ o : Option (List Int), WOk W v4 o ∧ ∀ ws, o = some ws → ws.length ≤ maxLen := by
    obtain ⟨ws, g, b, rfl | hx⟩ := read_nums Try.underlying23 Try.underlying3 (by kernel_rfl) (okWide_slice Try.underlying23 (hval 4 23 v4 rfl rfl)) h4
    · exact ⟨none, rfl, fun ws h => by cases h⟩
    · exact ⟨some ws, ⟨g, hx⟩, fun ws' h => by cases h; exact b⟩
  obtain ⟨at0, rfl, rfl, rfl, f5⟩ := open_int Try.underlying3 (hval 5 3 v5 rfl rfl) h5
  obtain ⟨ys, g6, b6⟩ := read_bools Try.underlying24 Try.underlying4 (by kernel_rfl) (okWide_slice Try.underlying24 (hval 6 24 v6 rfl rfl)) h6
  clear hA0 hval0
  refine (main.walk v0 v1 v2 v3 v4 v6 vs uf col ls o at0 ys W ⟨g0, g1, g2, g3, g4, g6⟩ b0 b1 b2 b3 b4 b6).mono fun e W' ⟨he, bel⟩ => ?_
  subst he
  exact ⟨_, rfl, _, _, _, [], _, [], hW', trodAll_mk1 (shut_bool Try.underlying4 _), (trodAll_cons_mk (Below.trod laidOut (by kernel_rfl) (of_decide_eq_true (by kernel_rfl)) k0 bel lt0) (trodAll_cons_mk (Below.trod laidOut (by kernel_rfl) (of_decide_eq_true (by kernel_rfl)) k1 bel lt1) (trodAll_cons_mk (Below.trod laidOut (by kernel_rfl) (of_decide_eq_true (by kernel_rfl)) k2 bel lt2) (trodAll_cons_mk (Below.trod laidOut (by kernel_rfl) (of_decide_eq_true (by kernel_rfl)) k3 bel lt3) (trodAll_cons_mk (Below.trod laidOut (by kernel_rfl) (of_decide_eq_true (by kernel_rfl)) k4 bel lt4) (trodAll_cons_mk (shut_int Try.underlying3 f5) (trodAll_cons_mk (Below.trod laidOut (by kernel_rfl) (of_decide_eq_true (by kernel_rfl)) k6 bel lt6) trodAll_mk0))))))), rfl, bel.frame _, fun h => by cases h⟩

theorem over : Rows.fnRowIsTheConstraintOverTheColumnsRow.holds Try.pinned (OpenSpec.ofChange Rows.fnRowIsTheConstraintOverTheColumnsSpec) :=
  OpenClaim.holds_of_wide 8 Try.f8 rfl rfl rfl rfl rfl rfl rfl ⟨rfl, rfl, rfl, rfl, rfl⟩ rfl rfl rfl rfl rfl (by kernel_rfl) Try.func8 facts
    (of_decide_eq_true (by kernel_rfl)) (by unfold Func.isWrapper; first | (rw [if_pos (by decide +kernel)]; kernel_rfl) | (rw [if_neg (by decide +kernel)]; exact ⟨rfl, rfl⟩))
    (fun os started H enc _ => lifted os started H enc)

theorem proved : Rows.FnRowIsTheConstraintOverTheColumnsSaid := over
end Go.Proofs.Qxb6600645a.fnRowIsTheConstraintOverTheColumns
