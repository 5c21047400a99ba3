/-
  cloneStrings_b1, cloneInt64s_b1, zzBytes_FnSkipValueContainerExact, walked.
-/
import Derived.Test.Qxb6001000aBuild
namespace Go.Proofs.Qxb6001000a.clones
open Go.ChangeShapes Go.WideShapes Go.ChangeAt Go.RowKit
open Go.Proofs.Qxb6001000a.base Go.Proofs.Qxb6001000a.build

/-- a slice that came in, elements of one cell -/
def RowV (w : World) (a : Option Addr) (len cap : Nat) (xs : List Value) : Prop :=
  (a = none ∧ len = 0 ∧ cap = 0 ∧ xs = []) ∨
  ∃ x, a = some x ∧ len ≤ cap ∧ cap ≤ maxLen ∧ xs.length = cap ∧ ∀ i, i < xs.length → w.cell? (x.add i) = xs[i]?
theorem RowV.le {w : World} {a : Option Addr} {len cap : Nat} {xs : List Value} (h : RowV w a len cap xs) : len ≤ maxLen := by
  rcases h with ⟨_, rfl, _⟩ | ⟨_, _, h1, h2, _⟩
  · exact Nat.zero_le _
  · omega
theorem RowV.len {w : World} {a : Option Addr} {len cap : Nat} {xs : List Value} (h : RowV w a len cap xs) : (xs.take len).length = len := by
  rcases h with ⟨_, rfl, _, rfl⟩ | ⟨_, _, h1, h2, h3, _⟩
  · rfl
  · simp; omega
theorem RowV.below {w w' : World} {a : Option Addr} {len cap : Nat} {xs : List Value} (h : RowV w a len cap xs) (hb : Below w.heap.size w w') : RowV w' a len cap xs := by
  rcases h with h | ⟨x, rfl, h1, h2, h3, h4⟩
  · exact .inl h
  · refine .inr ⟨x, rfl, h1, h2, h3, fun i hi => ?_⟩
    have hc := h4 i hi
    rw [List.getElem?_eq_getElem hi] at hc
    rw [hb.cell (lt_of_cell hc), h4 i hi]
theorem RowV.get {w : World} {a : Option Addr} {len cap : Nat} {xs : List Value} (h : RowV w a len cap xs) (k : Nat) (hk : k < len) : ∃ b off v, a = some ⟨b, off, none⟩ ∧ xs[k]? = some v ∧ w.cell? ⟨b, off + k, none⟩ = some v := by
  rcases h with ⟨_, rfl, _⟩ | ⟨x, rfl, h1, h2, h3, h4⟩
  · omega
  · obtain ⟨b, off, spot⟩ := x
    have h0 := h4 0 (by omega)
    rw [List.getElem?_eq_getElem (show 0 < xs.length by omega)] at h0
    have hspot : spot = none := by simpa [Addr.add] using World.cell?_spot h0
    subst hspot
    have hc := h4 k (by omega)
    rw [List.getElem?_eq_getElem (show k < xs.length by omega), Go.WideShapes.add_plain] at hc
    exact ⟨b, off, xs[k], rfl, List.getElem?_eq_getElem _, hc⟩
theorem copiedV {t e : TypeId} (ht : Try.prog.underlying t = some (.slice e)) (hsz : (Try.prog.info? e).map (·.size) = some 1) {w w1 : World} {x : Addr} {len cap : Nat} {ys cur : List Value} (hyl : ys.length = len) (hcl : cur.length = len)
    (hc : ∀ j v, ys[j]? = some v → w1.cell? (x.add j) = some v) (h1 : ∀ v ∈ ys, v.oneCell' = true) (hg : w1.heap[w.heap.size]? = some (.cells cur.toArray e (0, 0))) (hb : Below w.heap.size w w1) :
    ∃ w2, (Builtin.copy_ #[t, t] 3 #[.slice (some ⟨w.heap.size, 0, none⟩) len len, .slice (some x) len cap]).run Try.prog w1 = .ok (.int .i64 (len : Int)) w2 ∧ IsV w2 (.slice (some ⟨w.heap.size, 0, none⟩) len len) ys ∧ Below w.heap.size w w2 := by
  have hrun := run_copy_row (P := Try.prog) w1 t t 3 e w.heap.size 0 len len x len cap cur.toArray e ys ht hsz hg (by simp [hyl]) hc (by simp [hyl, hcl]) h1
  rw [hyl] at hrun
  have e1 : (cur.toArray.toList.take 0 ++ ys ++ cur.toArray.toList.drop (0 + len)) = ys := by simp [← hcl]
  rw [e1] at hrun
  refine ⟨_, hrun, ?_, below_setRow hb (Nat.le_refl _) _⟩
  have hrow := setRow_heap w1 w.heap.size _ ys.toArray e _ hg
  refine .inr ⟨_, len, by rw [hyl], (Array.getElem?_eq_some_iff.1 hrow).1, fun k hk => ?_⟩
  simp [World.cell?, hrow]
theorem cells_takeV {w : World} {x : Addr} {len cap : Nat} {xs : List Value} (hle : len ≤ cap) (hl : xs.length = cap) (hcell : ∀ i, i < xs.length → w.cell? (x.add i) = xs[i]?) {w1 : World} (hb : Below w.heap.size w w1) (j : Nat) (v : Value)
    (h : (xs.take len)[j]? = some v) : w1.cell? (x.add j) = some v := by
  have hj : j < len := by
    have := (List.getElem?_eq_some_iff.1 h).1
    simp at this; omega
  rw [List.getElem?_take, if_pos hj] at h
  have hc := hcell j (by omega)
  rw [h] at hc
  rw [hb.cell (lt_of_cell hc), hc]

theorem info9 : (Try.prog.info? 9).map (fun i => (i.zero, i.size, i.bytes)) = some (some (.string ⟨#[]⟩), 1, 16) := by kernel_rfl
theorem size9 : (Try.prog.info? 9).map (·.size) = some 1 := by kernel_rfl
/-- cloneStrings_b1 at whatever slice of at most 2^20 elements -/
theorem cloneS (a : Option Addr) (len cap : Nat) (xs : List Value) (w : World) (h : RowV w a len cap xs) (h1c : ∀ v ∈ xs, v.oneCell' = true) (h20 : len ≤ 1048576) :
    Calls Try.prog 21 #[.slice a len cap] w fun e w' => ∃ v, e = .returned v ∧ IsV w' v (xs.take len) ∧ Below w.heap.size w w' := by
  have q := fun (w : World) (a : Option Addr) (n c n' c' : Nat) => Lib.run_eql_slice_nil (P := Try.prog) w 35 9 a n c n' c' Try.underlying35
  rcases h with ⟨rfl, rfl, rfl, rfl⟩ | ⟨x, rfl, hle, hcap, hl, hcell⟩
  · go_enter Try.func21, Try.ntmps21
    go_wp2
    go_ret
    exact ⟨_, rfl, .inl ⟨rfl, rfl⟩, Below.refl _ _⟩
  · obtain ⟨i0, hi, hz0, hz1, hz2⟩ := info_parts info9
    have HC : Hid (∀ w1, Below w.heap.size w w1 → ∀ j v, (xs.take len)[j]? = some v → w1.cell? (x.add j) = some v) := fun w1 hb j v h => cells_takeV hle hl hcell hb j v h
    have HL : Hid ((xs.take len).length = len) := (show (xs.take len).length = len by simp; omega)
    have HO : Hid (∀ v ∈ xs.take len, v.oneCell' = true) := fun v hv => h1c v (List.mem_of_mem_take hv)
    generalize xs.take len = ys at *
    clear hcell hl hle h1c
    go_enter Try.func21, Try.ntmps21
    go_wp2_with (at_make; refine wpList_make_full _ rfl _ _ 35 rfl w.heap.size 9 i0 (.string ⟨#[]⟩) 1 Try.underlying35 hi hz0 hz1 .i64 .i64 _ _ len rfl rfl rfl rfl (by rw [hz2]; omega) (by unfold maxLen; omega) (Nat.le_refl _) ?_)
    intro w1 hown hgrow
    obtain ⟨cur, hg, hcl, hb1⟩ := made hown hgrow
    have HCL : Hid (cur.length = len) := hcl
    clear hcl hown hgrow
    obtain ⟨w2, hrun, hH, hb2⟩ := copiedV (cap := cap) Try.underlying35 size9 HL.out HCL.out (HC.out _ hb1) HO.out hg hb1
    clear hg hb1
    go_wp2_with fail
    go_ret
    exact ⟨_, rfl, hH, hb2⟩

theorem info2 : (Try.prog.info? 2).map (fun i => (i.zero, i.size, i.bytes)) = some (some (.int .i64 0), 1, 8) := by kernel_rfl
theorem size2 : (Try.prog.info? 2).map (·.size) = some 1 := by kernel_rfl
/-- cloneInt64s_b1 at whatever slice of at most 2^20 elements -/
theorem cloneN (a : Option Addr) (len cap : Nat) (xs : List Value) (w : World) (h : RowV w a len cap xs) (h1c : ∀ v ∈ xs, v.oneCell' = true) (h20 : len ≤ 1048576) :
    Calls Try.prog 22 #[.slice a len cap] w fun e w' => ∃ v, e = .returned v ∧ IsV w' v (xs.take len) ∧ Below w.heap.size w w' := by
  have q := fun (w : World) (a : Option Addr) (n c n' c' : Nat) => Lib.run_eql_slice_nil (P := Try.prog) w 36 2 a n c n' c' Try.underlying36
  rcases h with ⟨rfl, rfl, rfl, rfl⟩ | ⟨x, rfl, hle, hcap, hl, hcell⟩
  · go_enter Try.func22, Try.ntmps22
    go_wp2
    go_ret
    exact ⟨_, rfl, .inl ⟨rfl, rfl⟩, Below.refl _ _⟩
  · obtain ⟨i0, hi, hz0, hz1, hz2⟩ := info_parts info2
    have HC : Hid (∀ w1, Below w.heap.size w w1 → ∀ j v, (xs.take len)[j]? = some v → w1.cell? (x.add j) = some v) := fun w1 hb j v h => cells_takeV hle hl hcell hb j v h
    have HL : Hid ((xs.take len).length = len) := (show (xs.take len).length = len by simp; omega)
    have HO : Hid (∀ v ∈ xs.take len, v.oneCell' = true) := fun v hv => h1c v (List.mem_of_mem_take hv)
    generalize xs.take len = ys at *
    clear hcell hl hle h1c
    go_enter Try.func22, Try.ntmps22
    go_wp2_with (at_make; refine wpList_make_full _ rfl _ _ 36 rfl w.heap.size 2 i0 (.int .i64 0) 1 Try.underlying36 hi hz0 hz1 .i64 .i64 _ _ len rfl rfl rfl rfl (by rw [hz2]; omega) (by unfold maxLen; omega) (Nat.le_refl _) ?_)
    intro w1 hown hgrow
    obtain ⟨cur, hg, hcl, hb1⟩ := made hown hgrow
    have HCL : Hid (cur.length = len) := hcl
    clear hcl hown hgrow
    obtain ⟨w2, hrun, hH, hb2⟩ := copiedV (cap := cap) Try.underlying36 size2 HL.out HCL.out (HC.out _ hb1) HO.out hg hb1
    clear hg hb1
    go_wp2_with fail
    go_ret
    exact ⟨_, rfl, hH, hb2⟩
end Go.Proofs.Qxb6001000a.clones
