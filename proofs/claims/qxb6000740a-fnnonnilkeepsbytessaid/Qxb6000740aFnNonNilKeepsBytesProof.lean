/-
  A proof of the statement Rows.FnNonNilKeepsBytesSaid: the walk is ours; the frame behind it is the shell of the seat.
-/
import Derived.Test.Qxb6000740aRows
import Derived.WalkKit
import Derived.ProofKit
import Derived.OpenShut
import Derived.ShutString
import Derived.ChangeOld
import Derived.Below
import Derived.BigQuiet
import Derived.Deep.QuietTactic
import Derived.Laws.CopyOwn
import Derived.WalkSmall
import Derived.WalkSpells
import Derived.WalkLawsBesides
namespace Go.Proofs.Qxb6000740a.fnNonNilKeepsBytes
open Go.ChangeShapes Go.WideShapes Go.ChangeAt Go.RowKit
open Go.ChangeMaps (open_string shut_string)
set_option linter.unusedVariables false

theorem own : ownKnob Try.prog.godebug = none := by kernel_rfl
theorem laidOut : laidOutB Try.prog = true := by kernel_rfl

def IsRow (k : IntKind) (w : World) (a : Option Addr) (len cap : Nat) (zs : List Int) : Prop :=
  (a = none ∧ len = 0 ∧ cap = 0 ∧ zs = []) ∨
  ∃ x, a = some x ∧ len ≤ cap ∧ cap ≤ maxLen ∧ zs.length = cap ∧ (∀ i, i < zs.length → w.cell? (x.add i) = some (.int k (zs.getD i 0))) ∧ ∀ n ∈ zs, (Lit.int k n).wf = true

theorem bytesOk (a : Option Addr) (len cap : Nat) (w : World) (h : len ≤ 1048576) :
    Calls Try.prog 7 #[.slice a len cap] w fun e w' => e = .returned (.bool true) ∧ w' = w := by
  go_enter Try.func7, Try.ntmps7
  go_wp2
  go_ret
  exact ⟨rfl, rfl⟩
theorem bytesNo (a : Option Addr) (len cap : Nat) (w : World) (h : 1048576 < len) :
    Calls Try.prog 7 #[.slice a len cap] w fun e w' => e = .returned (.bool false) ∧ w' = w := by
  go_enter Try.func7, Try.ntmps7
  go_wp2
  go_ret
  exact ⟨rfl, rfl⟩
theorem nonNil_some (x : Addr) (len cap : Nat) (w : World) :
    Calls Try.prog 8 #[.slice (some x) len cap] w fun e w' => e = .returned (.slice (some x) len cap) ∧ w' = w := by
  have q := fun (w : World) (a : Option Addr) (n c n' c' : Nat) => Lib.run_eql_slice_nil (P := Try.prog) w 22 5 a n c n' c' Try.underlying22
  go_enter Try.func8, Try.ntmps8
  go_wp2
  go_ret
  exact ⟨rfl, rfl⟩
theorem nonNil_none (w : World) :
    Calls Try.prog 8 #[.slice none 0 0] w fun e w' => e = .returned (.slice (some ⟨w.heap.size, 0, none⟩) 0 0) ∧ Below w.heap.size w w' := by
  have q := fun (w : World) (a : Option Addr) (n c n' c' : Nat) => Lib.run_eql_slice_nil (P := Try.prog) w 22 5 a n c n' c' Try.underlying22
  go_enter Try.func8, Try.ntmps8
  go_wp2
  go_ret
  exact ⟨rfl, (Below.refl _ _).alloc (Nat.le_refl _) _⟩

theorem info5 : (Try.prog.info? 5).map (fun i => (i.zero, i.size, i.bytes)) = some (some (.int .u8 0), 1, 1) := by kernel_rfl
theorem size5 : (Try.prog.info? 5).map (·.size) = some 1 := by kernel_rfl

/-- the row of numbers lies whole in block g -/
def Has (w : World) (g : Nat) (zs : List Int) : Prop := w.heap[g]? = some (.cells (zs.map (Value.int .u8)).toArray 5 (0, 0))
theorem Has.cell {w : World} {g : Nat} {zs : List Int} (h : Has w g zs) (k : Nat) (hk : k < zs.length) : w.cell? ⟨g, k, none⟩ = some (.int .u8 (zs.getD k 0)) := by
  unfold Has at h
  simp [World.cell?, h, hk]
theorem splice_all {α : Type} (L cs : List α) (h : L.length = cs.length) : splice L 0 cs = cs := by
  unfold splice
  simp [← h]

theorem made {w w1 : World} {n : Nat} {L : List Value} (hown : w1.ownsRow w.heap.size 5 1 (.slice (some ⟨w.heap.size, 0, none⟩) n n) n L) (hgrow : w.grownBy w1 none) :
    ∃ cur : List Value, w1.heap[w.heap.size]? = some (.cells cur.toArray 5 (0, 0)) ∧ cur.length = n ∧ Below w.heap.size w w1 := by
  obtain ⟨_, h | ⟨g, cap, cur, hv, _, hh, _, _, hs, _⟩⟩ := hown
  · simp at h
  · simp at hv
    obtain ⟨rfl, rfl⟩ := hv
    exact ⟨cur.toList, by simpa using hh, by simpa using hs, (Below.refl _ _).grown hgrow (Nat.le_refl _) (fun k h => by cases h)⟩
theorem lt_of_cell {w : World} {a : Addr} {v : Value} (h : w.cell? a = some v) : a.block < w.heap.size := by
  unfold World.cell? at h
  split at h
  · rename_i hh; exact (Array.getElem?_eq_some_iff.1 hh).1
  · cases h
theorem add_block (x : Addr) (i : Nat) : (x.add i).block = x.block := by unfold Addr.add; split <;> rfl
theorem cells_take {w : World} {x : Addr} {len cap : Nat} {zs : List Int} (hle : len ≤ cap) (hl : zs.length = cap)
    (hcell : ∀ i, i < zs.length → w.cell? (x.add i) = some (.int .u8 (zs.getD i 0))) {w1 : World} (hb : Below w.heap.size w w1) (j : Nat) (v : Value)
    (h : ((zs.take len).map (Value.int .u8))[j]? = some v) : w1.cell? (x.add j) = some v := by
  have hj : j < len := by
    have := (List.getElem?_eq_some_iff.1 h).1
    simp at this; omega
  have hc := hcell j (by omega)
  rw [hb.cell (lt_of_cell hc), hc, ← h]
  simp [hj, show j < zs.length by omega]
theorem Has.drewN {w : World} {g : Nat} {zs : List Int} (h : Has w g zs) (n : Nat) : Has (w.drewN n) g zs := by
  unfold Has at *; simpa using h
theorem copied {w w1 : World} {x : Addr} {len cap : Nat} {ys : List Int} {cur : List Value} (hyl : ys.length = len) (hcl : cur.length = len)
    (hc : ∀ j v, (ys.map (Value.int .u8))[j]? = some v → w1.cell? (x.add j) = some v) (hg : w1.heap[w.heap.size]? = some (.cells cur.toArray 5 (0, 0))) (hb : Below w.heap.size w w1) :
    ∃ w2, (Builtin.copy_ #[22, 22] 3 #[.slice (some ⟨w.heap.size, 0, none⟩) len len, .slice (some x) len cap]).run Try.prog w1 = .ok (.int .i64 (len : Int)) w2 ∧ Has w2 w.heap.size ys ∧ Below w.heap.size w w2 := by
  have hrun := run_copy_row (P := Try.prog) w1 22 22 3 5 w.heap.size 0 len len x len cap cur.toArray 5 (ys.map (Value.int .u8)) Try.underlying22 size5 hg (by simp [hyl]) hc (by simp [hyl, hcl]) (ints_oneCell _ _)
  have e : (ys.map (Value.int .u8)).length = len := by simp [hyl]
  rw [e] at hrun
  refine ⟨_, hrun, ?_, below_setRow hb (Nat.le_refl _) _⟩
  have := setRow_heap w1 w.heap.size _ (cur.take 0 ++ ys.map (Value.int .u8) ++ cur.drop (0 + len)).toArray 5 _ hg
  unfold Has
  simpa [← hcl] using this

/-- both loops, as one lemma on the rest -/
theorem walk_some (x : Addr) (len cap : Nat) (zs : List Int) (w : World) (hle : len ≤ cap) (hcap : cap ≤ maxLen) (hl : zs.length = cap)
    (hcell : ∀ i, i < zs.length → w.cell? (x.add i) = some (.int .u8 (zs.getD i 0))) (h20 : len ≤ 1048576) :
    Calls Try.prog 3 #[.slice (some x) len cap] w fun e w' => e = .returned (.bool true) ∧ Below w.heap.size w w' := by
  have q := fun (w : World) (a : Option Addr) (n c n' c' : Nat) => Lib.run_eql_slice_nil (P := Try.prog) w 22 5 a n c n' c' Try.underlying22
  have q2 := fun (w : World) (a : Option Addr) (n c n' c' : Nat) => run_neq_slice_nil_any (P := Try.prog) w 22 5 a n c n' c' Try.underlying22
  obtain ⟨i0, hi, hz0, hz1, hz2⟩ := info_parts info5
  obtain ⟨ys, hys⟩ : ∃ ys, zs.take len = ys := ⟨_, rfl⟩
  have hyl : ys.length = len := by rw [← hys]; simp; omega
  have HC : Hid (∀ w1, Below w.heap.size w w1 → ∀ j v, (ys.map (Value.int .u8))[j]? = some v → w1.cell? (x.add j) = some v) := by
    intro w1 hb j v h
    rw [← hys] at h
    exact cells_take hle hl hcell hb j v h
  have HL : Hid (ys.length = len) := hyl
  clear hcell hl hys hyl hcap hle
  go_enter Try.func3, Try.ntmps3
  go_wp2_with fail
  refine (bytesOk _ _ _ _ h20).mono ?_
  rintro e w' ⟨rfl, rfl⟩
  go_wp2_with (at_make; refine wpList_make_full _ rfl _ _ 22 rfl w'.heap.size 5 i0 (.int .u8 0) 1 Try.underlying22 hi hz0 hz1 .i64 .i64 _ _ len rfl rfl rfl rfl (by rw [hz2]; omega) (by unfold maxLen; omega) (Nat.le_refl _) ?_)
  intro w1 hown hgrow
  obtain ⟨cur, hg, hcl, hb1⟩ := made hown hgrow
  have HCL : Hid (cur.length = len) := hcl
  clear hcl hown hgrow
  obtain ⟨w2, hrun, hH, hb2⟩ := copied (cap := cap) HL.out HCL.out (HC.out _ hb1) hg hb1
  clear hg hb1
  go_wp2_with fail
  refine (nonNil_some _ _ _ _).mono ?_
  rintro e w3 ⟨rfl, rfl⟩
  go_wp2_with fail
  go_loopw [5] (fun i wr => ∃ k : Nat, k ≤ len ∧ i = .int .i64 k ∧ Has wr w'.heap.size ys ∧ Below w'.heap.size w' wr) (fun i _ => len - (intOf i).toNat)
  case atStart => exact ⟨0, by omega, rfl, hH, hb2⟩
  case round =>
    obtain ⟨k, hk, rfl, hHr, hbr⟩ := hrel
    by_cases hlt : k < len
    · have hc := hHr.cell k (by rw [HL.out]; exact hlt)
      have hkl : k < ys.length := by rw [HL.out]; exact hlt
      go_wp2_with fail
      go_quiet (fail)
      go_wp2
      go_roundw
      case rel => exact ⟨k + 1, by omega, by go_num, hHr.drewN _, below_drewN hbr _⟩
      case measure => simp [intOf]; omega
    · go_wp2_with fail
      refine (nonNil_some _ _ _ _).mono ?_
      rintro e w4 ⟨rfl, rfl⟩
      go_wp2_with fail
      clear hH hb2 hrun
      go_loopw [7] (fun i wr => ∃ k : Nat, k ≤ len ∧ i = .int .i64 k ∧ Has wr w'.heap.size ys ∧ Below w'.heap.size w' wr) (fun i _ => len - (intOf i).toNat)
      case atStart => exact ⟨0, by omega, rfl, hHr, hbr⟩
      case round =>
        clear hHr hbr hlt hk
        obtain ⟨m, hm, rfl, hHr, hbr⟩ := hrel
        by_cases hlt : m < len
        · have hc := hHr.cell m (by rw [HL.out]; exact hlt)
          have hml : m < ys.length := by rw [HL.out]; exact hlt
          go_wp2_with fail
          go_quiet (fail)
          go_wp2
          go_roundw
          case rel => exact ⟨m + 1, by omega, by go_num, hHr.drewN _, below_drewN hbr _⟩
          case measure => simp [intOf]; omega
        · go_wp2_with fail
          go_ret
          exact ⟨rfl, hbr⟩

theorem walk_nil (w : World) :
    Calls Try.prog 3 #[.slice none 0 0] w fun e w' => e = .returned (.bool true) ∧ Below w.heap.size w w' := by
  have q := fun (w : World) (a : Option Addr) (n c n' c' : Nat) => Lib.run_eql_slice_nil (P := Try.prog) w 22 5 a n c n' c' Try.underlying22
  have q2 := fun (w : World) (a : Option Addr) (n c n' c' : Nat) => run_neq_slice_nil_any (P := Try.prog) w 22 5 a n c n' c' Try.underlying22
  go_enter Try.func3, Try.ntmps3
  go_wp2_with fail
  refine (bytesOk _ _ _ _ (by omega)).mono ?_
  rintro e w' ⟨rfl, rfl⟩
  go_wp2_with fail
  refine (nonNil_none _).mono ?_
  rintro e w1 ⟨rfl, hb⟩
  go_wp2_with fail
  refine wp_loop_rounds 1 ?_
  rw [rounds_succ]
  go_wp2_with fail
  refine (nonNil_some _ _ _ _).mono ?_
  rintro e w4 ⟨rfl, rfl⟩
  go_wp2_with fail
  refine wp_loop_rounds 1 ?_
  rw [rounds_succ]
  go_wp2_with fail
  go_ret
  exact ⟨rfl, hb⟩

theorem walk_long (a : Option Addr) (len cap : Nat) (w : World) (h : 1048576 < len) :
    Calls Try.prog 3 #[.slice a len cap] w fun e w' => e = .returned (.bool true) ∧ Below w.heap.size w w' := by
  go_enter Try.func3, Try.ntmps3
  go_wp2_with fail
  refine (bytesNo _ _ _ _ h).mono ?_
  rintro e w' ⟨rfl, rfl⟩
  go_wp2_with fail
  go_ret
  exact ⟨rfl, Below.refl _ _⟩

theorem walk (a0 : Option Addr) (len0 cap0 : Nat) (z0 : List Int) (w : World) (w0 : IsRow .u8 w a0 len0 cap0 z0) :
    Calls Try.prog 3 #[.slice a0 len0 cap0] w fun e w' => e = .returned (.bool true) ∧ Below w.heap.size w w' := by
  rcases w0 with ⟨rfl, rfl, rfl, rfl⟩ | ⟨x, rfl, h1, h2, h3, h4, _⟩
  · exact walk_nil w
  · by_cases h : len0 ≤ 1048576
    · exact walk_some x len0 cap0 z0 w h1 h2 h3 h4 h
    · exact walk_long _ _ _ w (by omega)

/-! ### THE ROW's STEP: WRITTEN OUT: LEAVE IT -/
set_option maxRecDepth 100000 in
theorem lifted (os : Os) (started : os.Started) (H : Type) (enc : TypeId × Value → H) :
    ReturnsInHanded {} Try.checked os 3 .any (Rows.fnNonNilKeepsBytesSpec.pre6 enc Try.prog Try.f3 Rows.fnNonNilKeepsBytesRow.domain false) (Rows.fnNonNilKeepsBytesSpec.post enc Try.prog Try.f3 false true false false) := by
  refine returnsInHanded_of_change (C := Try.checked) own started (by kernel_rfl) Try.func3
    (ChangeSpec.witness6 (enc := enc) (C := Try.checked) false ⟨#[], #[.slice none 0 0], []⟩ 8 (by kernel_rfl) (by kernel_rfl) (by kernel_rfl) (by kernel_rfl)) ?_
  intro W base args ds gs before hval0 hW hcnd _
  have hval : ∀ (j : Nat) t v, Try.f3.params[j]? = some t → args[j]? = some v → Value.okWide Try.prog W .any base t v := hval0
  have hW' := hW
  obtain ⟨p, q, hA0, hV, rfl, hfz, hnd⟩ := hW
  have hA : DataW.TrodAll enc Try.prog W 0 (fun _ => true) true Try.f3.params.toList args.toList ds p := hA0
  rw [Try.params3] at hA hval
  obtain ⟨v0, vs0, d0, ds0, p0, q0, hargs, rfl, rfl, h0, r0⟩ := trodAll_cons hA
  obtain ⟨rfl, rfl, rfl⟩ := trodAll_nil r0
  obtain rfl : args = #[v0] := by cases args; simp_all
  obtain ⟨rfl, rfl⟩ := trodVars_none hV
  obtain ⟨a0, len0, cap0, rfl⟩ := okWide_slice Try.underlying22 (hval 0 22 v0 rfl rfl)
  have k0 := h0
  have lt0 : ∀ x ∈ p0, x.block < W.heap.size := by obtain ⟨m, hm⟩ := k0; exact DataW.trod_lt m _ _ _ hm
  obtain ⟨z0, w0⟩ : ∃ zs, IsRow .u8 W a0 len0 cap0 zs := by
    obtain ⟨fuel, hf⟩ := h0
    rcases open_ints Try.underlying22 Try.underlying5 (by kernel_rfl) hf with ⟨hcs, _⟩ | ⟨x, l, c, zs, hcs, _, hl, hm, hz, _, hcell, hwz⟩
    · simp [Value.cells] at hcs
      obtain ⟨rfl, rfl, rfl⟩ := hcs
      exact ⟨[], .inl ⟨rfl, rfl, rfl, rfl⟩⟩
    · simp [Value.cells] at hcs
      obtain ⟨rfl, rfl, rfl⟩ := hcs
      exact ⟨zs, .inr ⟨_, rfl, hl, hm, by simpa using hz, hcell, hwz⟩⟩
  clear hA0 hval0
  refine (walk a0 len0 cap0 z0 W w0).mono fun e W' ⟨he, bel⟩ => ?_
  subst he
  exact ⟨_, rfl, _, _, _, [], _, [], hW', trodAll_mk1 (shut_bool Try.underlying4 _), (trodAll_cons_mk (Below.trod laidOut (by kernel_rfl) (of_decide_eq_true (by kernel_rfl)) k0 bel lt0) trodAll_mk0), rfl, bel.frame _, fun h => by cases h⟩

theorem over : Rows.fnNonNilKeepsBytesRow.holds Try.pinned (OpenSpec.ofChange Rows.fnNonNilKeepsBytesSpec) :=
  OpenClaim.holds_of_wide 3 Try.f3 rfl rfl rfl rfl rfl rfl rfl ⟨rfl, rfl, rfl, rfl, rfl⟩ rfl rfl rfl rfl rfl (by kernel_rfl) Try.func3 (by kernel_rfl)
    (of_decide_eq_true (by kernel_rfl)) (by unfold Func.isWrapper; first | (rw [if_pos (by decide +kernel)]; kernel_rfl) | (rw [if_neg (by decide +kernel)]; exact ⟨rfl, rfl⟩))
    (fun os started H enc _ => lifted os started H enc)

/-- ████ THE STATEMENT ████ -/
theorem proved : Rows.FnNonNilKeepsBytesSaid := over
end Go.Proofs.Qxb6000740a.fnNonNilKeepsBytes
