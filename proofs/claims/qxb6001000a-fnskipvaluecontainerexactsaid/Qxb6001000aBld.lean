/-
  The builder jsonBuilder_b1 in memory: its state, and what each kind of step does to it.
-/
import Derived.Test.Qxb6001000aNum
namespace Go.Proofs.Qxb6001000a.bld
open Go.ChangeShapes Go.WideShapes Go.ChangeAt Go.RowKit
open Go.Proofs.Qxb6001000a.base Go.Proofs.Qxb6001000a.own Go.Proofs.Qxb6001000a.own2 Go.Proofs.Qxb6001000a.plain Go.Proofs.Qxb6001000a.space

def Bd (w : World) (b : Nat) (bv ov cv : Value) (sp : Bool) (key : Int) : Prop := w.heap[b]? = some (.cells #[bv, ov, cv, .bool sp, .int .u64 key] 52 (0, 0))
theorem Bd.c0 {w : World} {b : Nat} {bv ov cv : Value} {sp : Bool} {key : Int} (h : Bd w b bv ov cv sp key) : w.cell? ⟨b, 0, none⟩ = some bv := by unfold Bd at h; simp [World.cell?, h]
theorem Bd.c1 {w : World} {b : Nat} {bv ov cv : Value} {sp : Bool} {key : Int} (h : Bd w b bv ov cv sp key) : w.cell? ⟨b, 1, none⟩ = some ov := by unfold Bd at h; simp [World.cell?, h]
theorem Bd.c2 {w : World} {b : Nat} {bv ov cv : Value} {sp : Bool} {key : Int} (h : Bd w b bv ov cv sp key) : w.cell? ⟨b, 2, none⟩ = some cv := by unfold Bd at h; simp [World.cell?, h]
theorem Bd.c3 {w : World} {b : Nat} {bv ov cv : Value} {sp : Bool} {key : Int} (h : Bd w b bv ov cv sp key) : w.cell? ⟨b, 3, none⟩ = some (.bool sp) := by unfold Bd at h; simp [World.cell?, h]
theorem Bd.c4 {w : World} {b : Nat} {bv ov cv : Value} {sp : Bool} {key : Int} (h : Bd w b bv ov cv sp key) : w.cell? ⟨b, 4, none⟩ = some (.int .u64 key) := by unfold Bd at h; simp [World.cell?, h]
theorem Bd.fr {w : World} {b : Nat} {bv ov cv : Value} {sp : Bool} {key : Int} (h : Bd w b bv ov cv sp key) (k : Nat) : w.frozen? ⟨b, k, none⟩ = false := by unfold Bd at h; simp [World.frozen?, h]
theorem Bd.lt {w : World} {b : Nat} {bv ov cv : Value} {sp : Bool} {key : Int} (h : Bd w b bv ov cv sp key) : b < w.heap.size := (Array.getElem?_eq_some_iff.1 h).1
theorem Bd.s0 {w : World} {b : Nat} {bv ov cv : Value} {sp : Bool} {key : Int} (h : Bd w b bv ov cv sp key) (x : Value) : Bd (w.setCell ⟨b, 0, none⟩ x) b x ov cv sp key := heap_setCell_same w b 0 _ 52 x h
theorem Bd.s1 {w : World} {b : Nat} {bv ov cv : Value} {sp : Bool} {key : Int} (h : Bd w b bv ov cv sp key) (x : Value) : Bd (w.setCell ⟨b, 1, none⟩ x) b bv x cv sp key := heap_setCell_same w b 1 _ 52 x h
theorem Bd.s2 {w : World} {b : Nat} {bv ov cv : Value} {sp : Bool} {key : Int} (h : Bd w b bv ov cv sp key) (x : Value) : Bd (w.setCell ⟨b, 2, none⟩ x) b bv ov x sp key := heap_setCell_same w b 2 _ 52 x h
theorem Bd.s4 {w : World} {b : Nat} {bv ov cv : Value} {sp : Bool} {key : Int} (h : Bd w b bv ov cv sp key) (x : Int) : Bd (w.setCell ⟨b, 4, none⟩ (.int .u64 x)) b bv ov cv sp x := heap_setCell_same w b 4 _ 52 _ h

theorem apart {w : World} {k k' : Nat} {c c' : Array Value} {e e' : TypeId} {f f' : Nat × Nat} (h : w.heap[k]? = some (.cells c e f)) (h' : w.heap[k']? = some (.cells c' e' f')) (hne : e ≠ e') : k ≠ k' := by
  intro hk
  subst hk
  rw [h] at h'
  injection h' with h'
  injection h' with _ h' _
  exact hne h'

structure Full (w : World) (b : Nat) (bv ov cv : Value) (sp : Bool) (key : Int) (B : List Int) (os : List Bool) (cs : List Int) : Prop where
  bd : Bd w b bv ov cv sp key
  buf : Own w bv B
  obj : OwnR 4 w ov (os.map Value.bool)
  cnt : OwnR 3 w cv (cs.map (Value.int .i64))
  b1 : ∀ k, bv.ownBlock = some k → b ≤ k
  b2 : ∀ k, ov.ownBlock = some k → b ≤ k
  b3 : ∀ k, cv.ownBlock = some k → b ≤ k

section
variable {w w' : World} {b : Nat} {bv ov cv bv' ov' cv' : Value} {sp : Bool} {key : Int} {B B' : List Int} {os os' : List Bool} {cs cs' : List Int}

theorem Full.nb (h : Full w b bv ov cv sp key B os cs) : bv.ownBlock ≠ some b := by
  intro hk
  obtain ⟨c, hc⟩ := ((own_iff w bv B).1 h.buf).elem b hk
  exact apart hc h.bd (by decide) rfl
theorem Full.no (h : Full w b bv ov cv sp key B os cs) : ov.ownBlock ≠ some b := by
  intro hk
  obtain ⟨c, hc⟩ := h.obj.elem b hk
  exact apart hc h.bd (by decide) rfl
theorem Full.nc (h : Full w b bv ov cv sp key B os cs) : cv.ownBlock ≠ some b := by
  intro hk
  obtain ⟨c, hc⟩ := h.cnt.elem b hk
  exact apart hc h.bd (by decide) rfl
theorem Full.bo (h : Full w b bv ov cv sp key B os cs) (k : Nat) (hk : ov.ownBlock = some k) : bv.ownBlock ≠ some k := by
  intro hj
  obtain ⟨c, hc⟩ := ((own_iff w bv B).1 h.buf).elem k hj
  obtain ⟨c', hc'⟩ := h.obj.elem k hk
  exact apart hc hc' (by decide) rfl
theorem Full.bc (h : Full w b bv ov cv sp key B os cs) (k : Nat) (hk : cv.ownBlock = some k) : bv.ownBlock ≠ some k := by
  intro hj
  obtain ⟨c, hc⟩ := ((own_iff w bv B).1 h.buf).elem k hj
  obtain ⟨c', hc'⟩ := h.cnt.elem k hk
  exact apart hc hc' (by decide) rfl
theorem Full.oc (h : Full w b bv ov cv sp key B os cs) (k : Nat) (hk : cv.ownBlock = some k) : ov.ownBlock ≠ some k := by
  intro hj
  obtain ⟨c, hc⟩ := h.obj.elem k hj
  obtain ⟨c', hc'⟩ := h.cnt.elem k hk
  exact apart hc hc' (by decide) rfl
theorem set_other (w : World) (b o : Nat) (x : Value) (k : Nat) (hk : k ≠ b) : (w.setCell ⟨b, o, none⟩ x).heap[k]? = w.heap[k]? := Below.heap_setCell _ _ _ _ hk
/-- ahead of the store into field 0: the struct is there as it was -/
theorem Full.mid0 (h : Full w b bv ov cv sp key B os cs) (hx : Ext bv w bv' w') : Bd w' b bv ov cv sp key := by
  unfold Bd
  rw [hx.grown.block b h.bd.lt (fun e => h.nb e.symm)]
  exact h.bd
theorem ne_of_own {v : Value} {b k : Nat} (h : v.ownBlock ≠ some b) (hk : v.ownBlock = some k) : k ≠ b := fun e => h (by rw [hk, e])
theorem own_bound {v v' : Value} (hx : Ext v w v' w') (h : ∀ k, v.ownBlock = some k → b ≤ k) (hb : b ≤ w.heap.size) : ∀ k, v'.ownBlock = some k → b ≤ k := by
  intro k hk
  rcases hx.own with e | e
  · exact h k (by rw [← e]; exact hk)
  · exact Nat.le_trans hb (e k hk)
/-- the buffer has been appended to, and stored back -/
theorem Full.step0 (h : Full w b bv ov cv sp key B os cs) (hx : Ext bv w bv' w') (hB : Own w' bv' B') :
    Full (w'.setCell ⟨b, 0, none⟩ bv') b bv' ov cv sp key B' os cs ∧ Below b w (w'.setCell ⟨b, 0, none⟩ bv') := by
  have hbd := h.mid0 hx
  have hnb' : bv'.ownBlock ≠ some b := by
    intro hk
    obtain ⟨c, hc⟩ := ((own_iff w' bv' B').1 hB).elem b hk
    exact apart hc hbd (by decide) rfl
  refine ⟨⟨hbd.s0 bv', ?_, ?_, ?_, own_bound hx h.b1 (Nat.le_of_lt h.bd.lt), h.b2, h.b3⟩, ?_⟩
  · exact hB.same fun k hk => set_other _ _ _ _ _ (ne_of_own hnb' hk)
  · refine h.obj.same fun k hk => ?_
    rw [set_other _ _ _ _ _ (ne_of_own h.no hk)]
    exact hx.grown.block k (h.obj.lt k hk) (fun e => h.bo k hk e.symm)
  · refine h.cnt.same fun k hk => ?_
    rw [set_other _ _ _ _ _ (ne_of_own h.nc hk)]
    exact hx.grown.block k (h.cnt.lt k hk) (fun e => h.bc k hk e.symm)
  · exact (hx.below (Nat.le_of_lt h.bd.lt) h.b1).setCell (Nat.le_refl _) _
theorem Full.mid1 (h : Full w b bv ov cv sp key B os cs) (hx : Ext ov w ov' w') : Bd w' b bv ov cv sp key := by
  unfold Bd
  rw [hx.grown.block b h.bd.lt (fun e => h.no e.symm)]
  exact h.bd
theorem Full.step1 (h : Full w b bv ov cv sp key B os cs) (hx : Ext ov w ov' w') (hO : OwnR 4 w' ov' (os'.map Value.bool)) :
    Full (w'.setCell ⟨b, 1, none⟩ ov') b bv ov' cv sp key B os' cs ∧ Below b w (w'.setCell ⟨b, 1, none⟩ ov') := by
  have hbd := h.mid1 hx
  have hno' : ov'.ownBlock ≠ some b := by
    intro hk
    obtain ⟨c, hc⟩ := hO.elem b hk
    exact apart hc hbd (by decide) rfl
  refine ⟨⟨hbd.s1 ov', ?_, ?_, ?_, h.b1, own_bound hx h.b2 (Nat.le_of_lt h.bd.lt), h.b3⟩, ?_⟩
  · refine h.buf.same fun k hk => ?_
    rw [set_other _ _ _ _ _ (ne_of_own h.nb hk)]
    exact hx.grown.block k (h.buf.lt k hk) (fun e => h.bo k e.symm hk)
  · exact hO.same fun k hk => set_other _ _ _ _ _ (ne_of_own hno' hk)
  · refine h.cnt.same fun k hk => ?_
    rw [set_other _ _ _ _ _ (ne_of_own h.nc hk)]
    exact hx.grown.block k (h.cnt.lt k hk) (fun e => h.oc k hk e.symm)
  · exact (hx.below (Nat.le_of_lt h.bd.lt) h.b2).setCell (Nat.le_refl _) _
theorem Full.mid2 (h : Full w b bv ov cv sp key B os cs) (hx : Ext cv w cv' w') : Bd w' b bv ov cv sp key := by
  unfold Bd
  rw [hx.grown.block b h.bd.lt (fun e => h.nc e.symm)]
  exact h.bd
theorem Full.step2 (h : Full w b bv ov cv sp key B os cs) (hx : Ext cv w cv' w') (hC : OwnR 3 w' cv' (cs'.map (Value.int .i64))) :
    Full (w'.setCell ⟨b, 2, none⟩ cv') b bv ov cv' sp key B os cs' ∧ Below b w (w'.setCell ⟨b, 2, none⟩ cv') := by
  have hbd := h.mid2 hx
  have hnc' : cv'.ownBlock ≠ some b := by
    intro hk
    obtain ⟨c, hc⟩ := hC.elem b hk
    exact apart hc hbd (by decide) rfl
  refine ⟨⟨hbd.s2 cv', ?_, ?_, ?_, h.b1, h.b2, own_bound hx h.b3 (Nat.le_of_lt h.bd.lt)⟩, ?_⟩
  · refine h.buf.same fun k hk => ?_
    rw [set_other _ _ _ _ _ (ne_of_own h.nb hk)]
    exact hx.grown.block k (h.buf.lt k hk) (fun e => h.bc k e.symm hk)
  · refine h.obj.same fun k hk => ?_
    rw [set_other _ _ _ _ _ (ne_of_own h.no hk)]
    exact hx.grown.block k (h.obj.lt k hk) (fun e => h.oc k e.symm hk)
  · exact hC.same fun k hk => set_other _ _ _ _ _ (ne_of_own hnc' hk)
  · exact (hx.below (Nat.le_of_lt h.bd.lt) h.b3).setCell (Nat.le_refl _) _
/-- a store into the row of counts -/
theorem Full.setc {g n cap : Nat} (h : Full w b bv ov (.slice (some ⟨g, 0, none⟩) n cap) sp key B os cs) (k : Nat) (x : Int) :
    Full (w.setCell ⟨g, k, none⟩ (.int .i64 x)) b bv ov (.slice (some ⟨g, 0, none⟩) n cap) sp key B os (cs.set k x) ∧ Below b w (w.setCell ⟨g, k, none⟩ (.int .i64 x)) := by
  have hgb : b ≠ g := fun e => h.nc (by rw [e]; rfl)
  have hn : n = (cs.map (Value.int .i64)).length := by
    obtain ⟨a, c, hs⟩ := h.cnt.shape
    injection hs
  subst hn
  have hst := (World.ownsRow.stored h.cnt k (.int .i64 x)).1
  refine ⟨⟨?_, ?_, ?_, ?_, h.b1, h.b2, h.b3⟩, (Below.refl _ _).setCell (h.b3 g rfl) _⟩
  · unfold Bd; rw [set_other _ _ _ _ _ hgb]; exact h.bd
  · exact h.buf.same fun j hj => set_other _ _ _ _ _ (fun e => h.bc g rfl (by rw [hj, e]))
  · exact h.obj.same fun j hj => set_other _ _ _ _ _ (fun e => h.oc g rfl (by rw [hj, e]))
  · unfold OwnR
    rw [List.map_set, List.length_set]
    exact hst
theorem Full.setk (h : Full w b bv ov cv sp key B os cs) (x : Int) :
    Full (w.setCell ⟨b, 4, none⟩ (.int .u64 x)) b bv ov cv sp x B os cs ∧ Below b w (w.setCell ⟨b, 4, none⟩ (.int .u64 x)) :=
  ⟨⟨h.bd.s4 x, h.buf.same fun _ hk => set_other _ _ _ _ _ (ne_of_own h.nb hk), h.obj.same fun _ hk => set_other _ _ _ _ _ (ne_of_own h.no hk), h.cnt.same fun _ hk => set_other _ _ _ _ _ (ne_of_own h.nc hk), h.b1, h.b2, h.b3⟩, (Below.refl b w).setCell (p := ⟨b, 4, none⟩) (Nat.le_refl _) _⟩
theorem pop {e : TypeId} {w : World} {g n cap : Nat} {xs : List Value} {u : Value} (h : OwnR e w (.slice (some ⟨g, 0, none⟩) n cap) (xs ++ [u])) : OwnR e w (.slice (some ⟨g, 0, none⟩) xs.length cap) xs := by
  obtain ⟨a, c, hs⟩ := h.shape
  have hn : n = xs.length + 1 := by injection hs with _ h2 _; simpa using h2
  subst hn
  have h' : w.ownsRow 0 e 1 (.slice (some ⟨g, 0, none⟩) (xs.length + 1) cap) (xs.length + 1) (xs ++ [u]) := by
    have := h
    unfold OwnR at this
    rwa [show (xs ++ [u]).length = xs.length + 1 by simp] at this
  exact ownsRow_pop (by simp) h'
/-- b.objects = b.objects[:top], b.counts = b.counts[:top] -/
theorem Full.popo {g n cap : Nat} {o : Bool} (h : Full w b bv (.slice (some ⟨g, 0, none⟩) n cap) cv sp key B (os ++ [o]) cs) :
    Full (w.setCell ⟨b, 1, none⟩ (.slice (some ⟨g, 0, none⟩) os.length cap)) b bv (.slice (some ⟨g, 0, none⟩) os.length cap) cv sp key B os cs ∧ Below b w (w.setCell ⟨b, 1, none⟩ (.slice (some ⟨g, 0, none⟩) os.length cap)) := by
  have hp := h.obj
  rw [List.map_append] at hp
  have hp2 := pop hp
  rw [List.length_map] at hp2
  have hx : Ext (.slice (some ⟨g, 0, none⟩) n cap) w (.slice (some ⟨g, 0, none⟩) os.length cap) w := ⟨World.grownBy.refl _ _, .inl rfl⟩
  exact h.step1 hx hp2
theorem Full.popc {g n cap : Nat} {c : Int} (h : Full w b bv ov (.slice (some ⟨g, 0, none⟩) n cap) sp key B os (cs ++ [c])) :
    Full (w.setCell ⟨b, 2, none⟩ (.slice (some ⟨g, 0, none⟩) cs.length cap)) b bv ov (.slice (some ⟨g, 0, none⟩) cs.length cap) sp key B os cs ∧ Below b w (w.setCell ⟨b, 2, none⟩ (.slice (some ⟨g, 0, none⟩) cs.length cap)) := by
  have hp := h.cnt
  rw [List.map_append] at hp
  have hp2 := pop hp
  rw [List.length_map] at hp2
  have hx : Ext (.slice (some ⟨g, 0, none⟩) n cap) w (.slice (some ⟨g, 0, none⟩) cs.length cap) w := ⟨World.grownBy.refl _ _, .inl rfl⟩
  exact h.step2 hx hp2
end

theorem info4 : (Try.prog.info? 4).map (fun i => (i.zero, i.size, i.bytes)) = some (some (.bool false), 1, 1) := by kernel_rfl
theorem info3 : (Try.prog.info? 3).map (fun i => (i.zero, i.size, i.bytes)) = some (some (.int .i64 0), 1, 8) := by kernel_rfl

/-- an append of one element, laid in a row of its own just before -/
theorem wpList_one {t e : TypeId} {i0 : TypeInfo} {z : Value} {bytes : Nat} (ht : Try.prog.underlying t = some (.slice e)) (hi : Try.prog.info? e = some i0) (hz0 : i0.zero = some z) (hz1 : i0.size = 1) (hz2 : i0.bytes = bytes) (hzc : z.cells.size = 1)
    {w : World} {ops : Array Oper} {rest : List Oper} {o : Oper} {a : Act} {Q : Exit → Act → World → Prop} (hgd : o.guard = none) (s x : Operand)
    (ho : o.op = .call { callee := .builtin .append, args := #[s, x], argTypes := #[t, t] }) (v : Value) (xs : List Value) (hs : a.eval s = v) (hown : OwnR e w v xs)
    (g : Nat) (u : Value) (hx : a.eval x = .slice (some ⟨g, 0, none⟩) 1 1) (hu : w.cell? ⟨g, 0, none⟩ = some u) (h1 : u.oneCell' = true) (h47 : (xs.length + 1) * bytes ≤ 140737488355328) (hm : xs.length + 1 ≤ 140737488355328)
    (h : ∀ v' w', OwnR e w' v' (xs ++ [u]) → Ext v w v' w' → wpList Try.prog ops Q rest (a.put o.dst v') w') : wpList Try.prog ops Q (o :: rest) a w := by
  refine wpList_plain hgd fun K hK => ?_
  have hsrc : Src Try.prog 1 t (.slice (some ⟨g, 0, none⟩) 1 1) 1 [u] w := by
    refine Src.ofSlice w ht ⟨g, 0, none⟩ 1 1 [u] (by simp) (fun j y hy => ?_) (fun y hy => ?_)
    · have hj : j = 0 := by have := (List.getElem?_eq_some_iff.1 hy).1; simpa using this
      subst hj
      simp at hy
      subst hy
      exact hu
    · simp at hy; subst hy; exact h1
  obtain ⟨v', w', hr, h2, h3⟩ := run_appR (ty := o.type) ht hi hz0 hz1 hz2 hzc w v xs hown _ 1 [u] hsrc (by omega) h47 hm
  unfold Oper.wp execOp
  simp only [ho, resolve, invoke, builtin, Sem.run_bind, Sem.run_pure, Result.andThen_ok, List.map_toArray, List.map_cons, List.map_nil, hs, hx]
  rw [hr]
  exact hK _ _ (h v' w' h2 h3)
theorem ownR_alloc {e : TypeId} {w : World} {v : Value} {xs : List Value} (h : OwnR e w v xs) (o : Obj) : OwnR e (w.alloc o) v xs := h.same fun k hk => Below.heap_alloc w o k (h.lt k hk)
end Go.Proofs.Qxb6001000a.bld
