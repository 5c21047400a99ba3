/-
  The three clones zzZ1b1CloneInt8, zzZ1b1CloneBool, zzZ1b1CloneInt, walked.
-/
import Derived.Test.Qxb6600645aBase
namespace Go.Proofs.Qxb6600645a.clones
open Go.ChangeShapes Go.WideShapes Go.ChangeAt Go.RowKit
open Go.Proofs.Qxb6600645a.base

/-- a row of len cells whose first k are those of xs -/
def Part (w : World) (g : Nat) (e : TypeId) (len : Nat) (xs : List Value) (k : Nat) : Prop :=
  ∃ cur : Array Value, w.heap[g]? = some (.cells cur e (0, 0)) ∧ cur.size = len ∧ cur.toList.take k = xs.take k
theorem Part.cell {w : World} {g : Nat} {e : TypeId} {len : Nat} {xs : List Value} {k : Nat} (h : Part w g e len xs k) (j : Nat) (hj : j < len) : (∃ u, w.cell? ⟨g, j, none⟩ = some u) ∧ w.frozen? ⟨g, j, none⟩ = false := by
  obtain ⟨cur, h1, h2, _⟩ := h
  exact ⟨⟨cur[j], by simp [World.cell?, h1, h2, hj]⟩, by simp [World.frozen?, h1]⟩
theorem Part.set {w : World} {g : Nat} {e : TypeId} {len : Nat} {xs : List Value} {k : Nat} {x : Value} (h : Part w g e len xs k) (hk : k < len) (hx : xs[k]? = some x) : Part (w.setCell ⟨g, k, none⟩ x) g e len xs (k + 1) := by
  obtain ⟨cur, h1, h2, h3⟩ := h
  refine ⟨cur.setIfInBounds k x, heap_setCell_same w g k cur e x h1, by simpa using h2, ?_⟩
  have hkx : k < xs.length := (List.getElem?_eq_some_iff.1 hx).1
  have hxe : xs[k] = x := (List.getElem?_eq_some_iff.1 hx).2
  rw [Array.toList_setIfInBounds, List.take_succ_eq_append_getElem (by simp; omega), List.take_set_of_le (Nat.le_refl _), h3, List.take_succ_eq_append_getElem hkx]
  simp [hxe]
theorem Part.sl {w : World} {g : Nat} {e : TypeId} {xs : List Value} (h : Part w g e xs.length xs xs.length) : Sl w (.slice (some ⟨g, 0, none⟩) xs.length xs.length) xs := by
  obtain ⟨cur, h1, h2, h3⟩ := h
  refine ⟨_, _, rfl, (fun h => by cases h), fun k hk => ⟨g, 0, rfl, (Array.getElem?_eq_some_iff.1 h1).1, ?_⟩⟩
  rw [List.take_of_length_le (by simp [h2]), List.take_of_length_le (Nat.le_refl _)] at h3
  rw [Nat.zero_add, cell_of_row w g k cur e (0, 0) h1, ← h3]
  simp
theorem made {w w1 : World} {e : TypeId} {n : Nat} {L : List Value} (hown : w1.ownsRow w.heap.size e 1 (.slice (some ⟨w.heap.size, 0, none⟩) n n) n L) (hgrow : w.grownBy w1 none) (xs : List Value) :
    Part w1 w.heap.size e n xs 0 ∧ Below w.heap.size w w1 := by
  obtain ⟨_, h | ⟨g, cap, cur, hv, _, hh, _, _, hs, _⟩⟩ := hown
  · simp at h
  · simp at hv
    obtain ⟨rfl, rfl⟩ := hv
    exact ⟨⟨cur, hh, by simpa using hs, by simp⟩, (Below.refl _ _).grown hgrow (Nat.le_refl _) (fun k h => by cases h)⟩

theorem info48 : (Try.prog.info? 48).map (fun i => (i.zero, i.size, i.bytes)) = some (some (.int .i8 0), 1, 1) := by kernel_rfl
set_option maxHeartbeats 1000000 in
theorem cloneI8 (v : Value) (zs : List Int) (w : World) (h : Nums w v .i8 zs) (h20 : zs.length ≤ 1048576) :
    Calls Try.prog 45 #[v] w fun e w' => ∃ v', e = .returned v' ∧ Nums w' v' .i8 zs ∧ Below w.heap.size w w' := by
  have q := fun (w : World) (a : Option Addr) (n c n' c' : Nat) => Lib.run_eql_slice_nil (P := Try.prog) w 43 48 a n c n' c' Try.underlying43
  obtain ⟨i0, hi, hz0, hz1, hz2⟩ := info_parts info48
  obtain ⟨a, cap, rfl⟩ := h.shape
  cases a with
  | none =>
    have hn : zs.length = 0 := by
      by_cases h0 : zs.length = 0
      · exact h0
      · obtain ⟨b, off, e, _⟩ := h.get 0 (by omega)
        cases e
    go_enter Try.func45, Try.ntmps45
    go_wp2
    go_ret
    refine ⟨.slice none 0 0, rfl, ?_, Below.refl _ _⟩
    obtain rfl : zs = [] := List.eq_nil_of_length_eq_zero hn
    exact ⟨none, 0, rfl, (fun _ => rfl), fun k hk => by simp at hk⟩
  | some x =>
    have HH : Hid (Nums w (.slice (some x) zs.length cap) .i8 zs) := h
    clear h
    obtain ⟨n, hn⟩ : ∃ n, zs.length = n := ⟨_, rfl⟩
    have HN : Hid (zs.length = n) := hn
    rw [hn] at h20
    rw [hn]
    clear hn
    go_enter Try.func45, Try.ntmps45
    go_wp2_with (at_make; refine wpList_make_full _ rfl _ _ 43 rfl w.heap.size 48 i0 (.int .i8 0) 1 Try.underlying43 hi hz0 hz1 .i64 .i64 _ _ n rfl rfl rfl rfl (by rw [hz2]; omega) (by unfold maxLen; omega) (Nat.le_refl _) ?_)
    intro w1 hown hgrow
    obtain ⟨hP, hb1⟩ := made hown hgrow (zs.map (Value.int .i8))
    clear hown hgrow
    go_wp2_with fail
    go_loopw [4] (fun i wr => ∃ k : Nat, k ≤ n ∧ i = .int .i64 k ∧ Part wr w.heap.size 48 n (zs.map (Value.int .i8)) k ∧ Below w.heap.size w wr) (fun i _ => n - (intOf i).toNat)
    case atStart => exact ⟨0, by omega, rfl, hP, hb1⟩
    case round =>
      clear hP hb1
      obtain ⟨k, hk, rfl, hP, hb⟩ := hrel
      by_cases hlt : k < n
      · obtain ⟨bb, off, ea, hc⟩ := (HH.out.below hb (Nat.le_refl _)).get k (by rw [HN.out]; exact hlt)
        cases ea
        obtain ⟨⟨old, d0⟩, df⟩ := hP.cell k hlt
        obtain ⟨y, hy⟩ : ∃ y, zs.getD k 0 = y := ⟨_, rfl⟩
        rw [hy] at hc
        have hP2 := hP.set (x := Value.int .i8 y) hlt (by rw [← hy]; simp [show k < zs.length by rw [HN.out]; exact hlt])
        have hb2 := hb.setCell (p := ⟨w.heap.size, k, none⟩) (Nat.le_refl _) (Value.int .i8 y)
        clear hy hP hb
        go_wp2_with fail
        go_roundw
        case rel => exact ⟨k + 1, by omega, by go_num, hP2, hb2⟩
        case measure => simp [intOf]; omega
      · have hke : k = n := by omega
        have HP : Hid (Part wr w.heap.size 48 n (zs.map (Value.int .i8)) n) := by rw [← hke]; rw [← hke] at hP; exact hP
        clear hke hP
        go_wp2_with fail
        go_ret
        refine ⟨_, rfl, ?_, hb⟩
        have hL : (zs.map (Value.int .i8)).length = n := by rw [List.length_map, HN.out]
        have := HP.out
        rw [← hL] at this
        have hs := this.sl
        rw [hL] at hs
        exact hs

theorem info4 : (Try.prog.info? 4).map (fun i => (i.zero, i.size, i.bytes)) = some (some (.bool false), 1, 1) := by kernel_rfl
set_option maxHeartbeats 1000000 in
theorem cloneB (v : Value) (zs : List Bool) (w : World) (h : Bools w v zs) (h20 : zs.length ≤ 1048576) :
    Calls Try.prog 46 #[v] w fun e w' => ∃ v', e = .returned v' ∧ Bools w' v' zs ∧ Below w.heap.size w w' := by
  have q := fun (w : World) (a : Option Addr) (n c n' c' : Nat) => Lib.run_eql_slice_nil (P := Try.prog) w 24 4 a n c n' c' Try.underlying24
  obtain ⟨i0, hi, hz0, hz1, hz2⟩ := info_parts info4
  obtain ⟨a, cap, rfl⟩ := h.shape
  cases a with
  | none =>
    have hn : zs.length = 0 := by
      by_cases h0 : zs.length = 0
      · exact h0
      · obtain ⟨b, off, e, _⟩ := h.get 0 (by omega)
        cases e
    go_enter Try.func46, Try.ntmps46
    go_wp2
    go_ret
    refine ⟨.slice none 0 0, rfl, ?_, Below.refl _ _⟩
    obtain rfl : zs = [] := List.eq_nil_of_length_eq_zero hn
    exact ⟨none, 0, rfl, (fun _ => rfl), fun k hk => by simp at hk⟩
  | some x =>
    have HH : Hid (Bools w (.slice (some x) zs.length cap) zs) := h
    clear h
    obtain ⟨n, hn⟩ : ∃ n, zs.length = n := ⟨_, rfl⟩
    have HN : Hid (zs.length = n) := hn
    rw [hn] at h20
    rw [hn]
    clear hn
    go_enter Try.func46, Try.ntmps46
    go_wp2_with (at_make; refine wpList_make_full _ rfl _ _ 24 rfl w.heap.size 4 i0 (.bool false) 1 Try.underlying24 hi hz0 hz1 .i64 .i64 _ _ n rfl rfl rfl rfl (by rw [hz2]; omega) (by unfold maxLen; omega) (Nat.le_refl _) ?_)
    intro w1 hown hgrow
    obtain ⟨hP, hb1⟩ := made hown hgrow (zs.map (Value.bool))
    clear hown hgrow
    go_wp2_with fail
    go_loopw [4] (fun i wr => ∃ k : Nat, k ≤ n ∧ i = .int .i64 k ∧ Part wr w.heap.size 4 n (zs.map (Value.bool)) k ∧ Below w.heap.size w wr) (fun i _ => n - (intOf i).toNat)
    case atStart => exact ⟨0, by omega, rfl, hP, hb1⟩
    case round =>
      clear hP hb1
      obtain ⟨k, hk, rfl, hP, hb⟩ := hrel
      by_cases hlt : k < n
      · obtain ⟨bb, off, ea, hc⟩ := (HH.out.below hb (Nat.le_refl _)).get k (by rw [HN.out]; exact hlt)
        cases ea
        obtain ⟨⟨old, d0⟩, df⟩ := hP.cell k hlt
        obtain ⟨y, hy⟩ : ∃ y, zs.getD k false = y := ⟨_, rfl⟩
        rw [hy] at hc
        have hP2 := hP.set (x := Value.bool y) hlt (by rw [← hy]; simp [show k < zs.length by rw [HN.out]; exact hlt])
        have hb2 := hb.setCell (p := ⟨w.heap.size, k, none⟩) (Nat.le_refl _) (Value.bool y)
        clear hy hP hb
        go_wp2_with fail
        go_roundw
        case rel => exact ⟨k + 1, by omega, by go_num, hP2, hb2⟩
        case measure => simp [intOf]; omega
      · have hke : k = n := by omega
        have HP : Hid (Part wr w.heap.size 4 n (zs.map (Value.bool)) n) := by rw [← hke]; rw [← hke] at hP; exact hP
        clear hke hP
        go_wp2_with fail
        go_ret
        refine ⟨_, rfl, ?_, hb⟩
        have hL : (zs.map (Value.bool)).length = n := by rw [List.length_map, HN.out]
        have := HP.out
        rw [← hL] at this
        have hs := this.sl
        rw [hL] at hs
        exact hs

theorem info3 : (Try.prog.info? 3).map (fun i => (i.zero, i.size, i.bytes)) = some (some (.int .i64 0), 1, 8) := by kernel_rfl
set_option maxHeartbeats 1000000 in
theorem cloneI (v : Value) (zs : List Int) (w : World) (h : Nums w v .i64 zs) (h20 : zs.length ≤ 1048576) :
    Calls Try.prog 47 #[v] w fun e w' => ∃ v', e = .returned v' ∧ Nums w' v' .i64 zs ∧ Below w.heap.size w w' := by
  have q := fun (w : World) (a : Option Addr) (n c n' c' : Nat) => Lib.run_eql_slice_nil (P := Try.prog) w 23 3 a n c n' c' Try.underlying23
  obtain ⟨i0, hi, hz0, hz1, hz2⟩ := info_parts info3
  obtain ⟨a, cap, rfl⟩ := h.shape
  cases a with
  | none =>
    have hn : zs.length = 0 := by
      by_cases h0 : zs.length = 0
      · exact h0
      · obtain ⟨b, off, e, _⟩ := h.get 0 (by omega)
        cases e
    go_enter Try.func47, Try.ntmps47
    go_wp2
    go_ret
    refine ⟨.slice none 0 0, rfl, ?_, Below.refl _ _⟩
    obtain rfl : zs = [] := List.eq_nil_of_length_eq_zero hn
    exact ⟨none, 0, rfl, (fun _ => rfl), fun k hk => by simp at hk⟩
  | some x =>
    have HH : Hid (Nums w (.slice (some x) zs.length cap) .i64 zs) := h
    clear h
    obtain ⟨n, hn⟩ : ∃ n, zs.length = n := ⟨_, rfl⟩
    have HN : Hid (zs.length = n) := hn
    rw [hn] at h20
    rw [hn]
    clear hn
    go_enter Try.func47, Try.ntmps47
    go_wp2_with (at_make; refine wpList_make_full _ rfl _ _ 23 rfl w.heap.size 3 i0 (.int .i64 0) 1 Try.underlying23 hi hz0 hz1 .i64 .i64 _ _ n rfl rfl rfl rfl (by rw [hz2]; omega) (by unfold maxLen; omega) (Nat.le_refl _) ?_)
    intro w1 hown hgrow
    obtain ⟨hP, hb1⟩ := made hown hgrow (zs.map (Value.int .i64))
    clear hown hgrow
    go_wp2_with fail
    go_loopw [4] (fun i wr => ∃ k : Nat, k ≤ n ∧ i = .int .i64 k ∧ Part wr w.heap.size 3 n (zs.map (Value.int .i64)) k ∧ Below w.heap.size w wr) (fun i _ => n - (intOf i).toNat)
    case atStart => exact ⟨0, by omega, rfl, hP, hb1⟩
    case round =>
      clear hP hb1
      obtain ⟨k, hk, rfl, hP, hb⟩ := hrel
      by_cases hlt : k < n
      · obtain ⟨bb, off, ea, hc⟩ := (HH.out.below hb (Nat.le_refl _)).get k (by rw [HN.out]; exact hlt)
        cases ea
        obtain ⟨⟨old, d0⟩, df⟩ := hP.cell k hlt
        obtain ⟨y, hy⟩ : ∃ y, zs.getD k 0 = y := ⟨_, rfl⟩
        rw [hy] at hc
        have hP2 := hP.set (x := Value.int .i64 y) hlt (by rw [← hy]; simp [show k < zs.length by rw [HN.out]; exact hlt])
        have hb2 := hb.setCell (p := ⟨w.heap.size, k, none⟩) (Nat.le_refl _) (Value.int .i64 y)
        clear hy hP hb
        go_wp2_with fail
        go_roundw
        case rel => exact ⟨k + 1, by omega, by go_num, hP2, hb2⟩
        case measure => simp [intOf]; omega
      · have hke : k = n := by omega
        have HP : Hid (Part wr w.heap.size 3 n (zs.map (Value.int .i64)) n) := by rw [← hke]; rw [← hke] at hP; exact hP
        clear hke hP
        go_wp2_with fail
        go_ret
        refine ⟨_, rfl, ?_, hb⟩
        have hL : (zs.map (Value.int .i64)).length = n := by rw [List.length_map, HN.out]
        have := HP.out
        rw [← hL] at this
        have hs := this.sl
        rw [hL] at hs
        exact hs
end Go.Proofs.Qxb6600645a.clones
