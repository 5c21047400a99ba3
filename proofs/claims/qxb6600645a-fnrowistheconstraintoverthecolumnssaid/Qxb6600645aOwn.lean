/-
  Rows of the call's own of whatever one-cell element, appended to from whatever source; what becomes of the rest of memory.
-/
import Derived.Test.Qxb6600645aBase
import Derived.Laws.AppendOwn
import Derived.Laws.OwnMore
import Derived.Deep.AppendSrc
namespace Go.Proofs.Qxb6600645a.own
open Go.ChangeShapes Go.WideShapes Go.ChangeAt Go.RowKit
open Go.Proofs.Qxb6600645a.base

/-- from w on, only v's own row may have been written; v' lies in that row or in a new one -/
structure Ext (v : Value) (w : World) (v' : Value) (w' : World) : Prop where
  grown : w.grownBy w' v.ownBlock
  own : v'.ownBlock = v.ownBlock ∨ ∀ k, v'.ownBlock = some k → w.heap.size ≤ k
theorem Ext.refl (v : Value) (w : World) : Ext v w v w := ⟨World.grownBy.refl w _, .inl rfl⟩
theorem Ext.trans {v v1 v2 : Value} {w w1 w2 : World} (h : Ext v w v1 w1) (k : Ext v1 w1 v2 w2) : Ext v w v2 w2 := by
  refine ⟨⟨k.grown.os.trans h.grown.os, k.grown.tape.trans h.grown.tape, k.grown.output.trans h.grown.output, Nat.le_trans h.grown.size k.grown.size, fun i hi hne => ?_⟩, ?_⟩
  · rw [k.grown.block i (Nat.lt_of_lt_of_le hi h.grown.size) ?_]
    · exact h.grown.block i hi hne
    · rcases h.own with e | e
      · rw [e]; exact hne
      · intro he
        have := e i he.symm
        omega
  · rcases k.own with e | e
    · rw [e]; exact h.own
    · exact .inr fun i hi => Nat.le_trans h.grown.size (e i hi)
theorem Ext.alloc {v v' : Value} {w w' : World} {o : Obj} (h : Ext v (w.alloc o) v' w') : Ext v w v' w' := by
  have g := World.grownBy_alloc w o v.ownBlock
  refine ⟨⟨h.grown.os.trans g.os, h.grown.tape.trans g.tape, h.grown.output.trans g.output, Nat.le_trans g.size h.grown.size, fun i hi hne => ?_⟩, ?_⟩
  · rw [h.grown.block i (Nat.lt_of_lt_of_le hi g.size) hne]
    exact g.block i hi hne
  · rcases h.own with e | e
    · exact .inl e
    · exact .inr fun i hi => Nat.le_trans g.size (e i hi)
theorem Ext.drewN {v v' : Value} {w w' : World} {n : Nat} (h : Ext v (w.drewN n) v' w') : Ext v w v' w' := ⟨⟨h.grown.os, h.grown.tape, h.grown.output, h.grown.size, h.grown.block⟩, h.own⟩
theorem Ext.drew {v v' : Value} {w w' : World} (h : Ext v w.drew v' w') : Ext v w v' w' := ⟨⟨h.grown.os, h.grown.tape, h.grown.output, h.grown.size, h.grown.block⟩, h.own⟩
theorem Ext.below {v v' : Value} {w w' : World} (h : Ext v w v' w') {B : Nat} (hB : B ≤ w.heap.size) (hv : ∀ k, v.ownBlock = some k → B ≤ k) : Below B w w' :=
  (Below.refl B w).grown h.grown hB hv
/-- v is nil, or the head of a row of the call's own, elements of type e, that holds xs -/
def OwnR (e : TypeId) (w : World) (v : Value) (xs : List Value) : Prop := w.ownsRow 0 e 1 v xs.length xs
theorem OwnR.nil (e : TypeId) (w : World) : OwnR e w (.slice none 0 0) [] := World.ownsRow_nil w 0 e 1
theorem OwnR.same {e : TypeId} {w w' : World} {v : Value} {xs : List Value} (h : OwnR e w v xs) (hs : ∀ k, v.ownBlock = some k → w'.heap[k]? = w.heap[k]?) : OwnR e w' v xs := by
  refine ⟨h.1, ?_⟩
  rcases h.2 with hn | ⟨g, cap, cur, rfl, hb, hg, rest⟩
  · exact .inl hn
  · exact .inr ⟨g, cap, cur, rfl, hb, by rw [hs g rfl]; exact hg, rest⟩
theorem OwnR.lt {e : TypeId} {w : World} {v : Value} {xs : List Value} (h : OwnR e w v xs) (k : Nat) (hk : v.ownBlock = some k) : k < w.heap.size := (World.ownsRow.lt h k hk).2
/-- the element type that the block of the row bears -/
theorem OwnR.elem {e : TypeId} {w : World} {v : Value} {xs : List Value} (h : OwnR e w v xs) (k : Nat) (hk : v.ownBlock = some k) : ∃ cur, w.heap[k]? = some (.cells cur e (0, 0)) := by
  rcases h.2 with ⟨rfl, _⟩ | ⟨g, cap, cur, rfl, hb, hg, _⟩
  · cases hk
  · cases hk; exact ⟨cur, hg⟩
theorem OwnR.shape {e : TypeId} {w : World} {v : Value} {xs : List Value} (h : OwnR e w v xs) : ∃ a cap, v = .slice a xs.length cap := by
  rcases h.2 with ⟨rfl, hn⟩ | ⟨g, cap, cur, rfl, _⟩
  · exact ⟨none, 0, by rw [hn]⟩
  · exact ⟨_, _, rfl⟩
theorem OwnR.isSome {e : TypeId} {w : World} {v : Value} {xs : List Value} (h : OwnR e w v xs) (hx : 0 < xs.length) : ∃ g cap, v = .slice (some ⟨g, 0, none⟩) xs.length cap ∧ xs.length ≤ cap ∧ cap ≤ maxLen := by
  rcases h.2 with ⟨rfl, hn⟩ | ⟨g, cap, cur, rfl, _, _, h1, h2, _⟩
  · omega
  · exact ⟨g, cap, rfl, h1, h2⟩
theorem OwnR.cell {e : TypeId} {w : World} {g n cap : Nat} {xs : List Value} (h : OwnR e w (.slice (some ⟨g, 0, none⟩) n cap) xs) (k : Nat) (hk : k < xs.length) : w.cell? ⟨g, k, none⟩ = xs[k]? := by
  rcases h.2 with ⟨h', _⟩ | ⟨g', cap', cur, h', _, hg, _, _, _, htake⟩
  · simp at h'
  · simp only [Value.slice.injEq, Option.some.injEq, Addr.mk.injEq, and_true] at h'
    obtain ⟨rfl, rfl, rfl⟩ := h'
    rw [cell_of_row w g k cur e (0, 0) hg]
    have : (cur.toList.take (xs.length * 1))[k]? = xs[k]? := by rw [htake]
    rw [List.getElem?_take, if_pos (by omega)] at this
    simpa using this
theorem OwnR.frozen {e : TypeId} {w : World} {g n cap : Nat} {xs : List Value} (h : OwnR e w (.slice (some ⟨g, 0, none⟩) n cap) xs) (k : Nat) : w.frozen? ⟨g, k, none⟩ = false := by
  obtain ⟨cur, hg⟩ := h.elem g rfl
  simp [World.frozen?, hg]

theorem setCells_row (g : Nat) (e : TypeId) (fr : Nat × Nat) : ∀ (vs : List Value) (o : Nat) (w : World) (cur : Array Value), w.heap[g]? = some (.cells cur e fr) → o + vs.length ≤ cur.size →
    ∃ cur', w.setCells g o vs = w.setRow g cur' ∧ cur'.size = cur.size ∧ cur'.toList.take (o + vs.length) = cur.toList.take o ++ vs
  | [], o, w, cur, hg, _ => ⟨cur, by rw [setRow_self w g cur e fr hg]; rfl, rfl, by simp⟩
  | v :: r, o, w, cur, hg, hl => by
    simp only [List.length_cons] at hl
    have hset := setCell_eq_setRow w g o cur e fr v hg
    obtain ⟨cur', h1, h2, h3⟩ := setCells_row g e fr r (o + 1) (w.setCell ⟨g, o, none⟩ v) (cur.setIfInBounds o v) (by rw [hset]; exact setRow_heap w g _ _ e _ hg) (by simp; omega)
    refine ⟨cur', ?_, by simpa using h2, ?_⟩
    · show (w.setCell ⟨g, o, none⟩ v).setCells g (o + 1) r = _
      rw [h1, hset, setRow_setRow]
    · rw [show o + (v :: r).length = o + 1 + r.length by simp; omega, h3]
      have : (cur.setIfInBounds o v).toList.take (o + 1) = cur.toList.take o ++ [v] := by
        rw [Array.toList_setIfInBounds, List.take_succ_eq_append_getElem (by simp; omega), List.take_set_of_le (Nat.le_refl _)]
        simp
      rw [this]
      simp

/-- what one append comes to, whatever is appended (but something) -/
theorem run_appR {t tx ty e : TypeId} {i0 : TypeInfo} {z : Value} {bytes : Nat} (ht : Try.prog.underlying t = some (.slice e)) (hi : Try.prog.info? e = some i0) (hz0 : i0.zero = some z) (hz1 : i0.size = 1) (hz2 : i0.bytes = bytes) (hzc : z.cells.size = 1)
    (w : World) (v : Value) (xs : List Value) (hown : OwnR e w v xs) (x : Value) (n : Nat) (news : List Value) (hs : Src Try.prog 1 tx x n news w) (hn : 0 < n) (h47 : (xs.length + n) * bytes ≤ 140737488355328) (hm : xs.length + n ≤ 140737488355328) :
    ∃ v' w', (Builtin.append_ #[t, tx] ty #[v, x]).run Try.prog w = .ok v' w' ∧ OwnR e w' v' (xs ++ news) ∧ Ext v w v' w' := by
  have hnl : news.length = n := by have := hs.newsLen; omega
  have hs' : Src Try.prog i0.size tx x n news w := by rw [hz1]; exact hs
  have grow : ∀ (base : Option Addr) (cap : Nat), v = .slice base xs.length cap → (Builtin.firstCells i0.size xs.length (.slice base xs.length cap)).run Try.prog w.drew = .ok xs.toArray w.drew → cap < xs.length + n →
      ∃ v' w', (Builtin.append_ #[t, tx] ty #[v, x]).run Try.prog w = .ok v' w' ∧ OwnR e w' v' (xs ++ news) ∧ Ext v w v' w' := by
    intro base cap hv hold hlt
    have hfit : Builtin.nextslicecap (xs.length + n) cap * i0.bytes ≤ 281474976710656 := growslice_fits (by omega) (by rw [hz2]; exact h47)
    have hr := run_append_grow_src (P := Try.prog) w t tx ty e i0 z ht hi hz0 base xs.length cap xs hold x n news hs' hlt (by omega) hfit
    rw [hv]
    have hge := grownCap_ge w (xs.length + n) cap e
    have hcm : grownCap w (xs.length + n) cap e ≤ maxLen := grownCap_le_maxLen w (xs.length + n) cap e (by unfold maxLen; omega)
    refine ⟨_, _, hr, ⟨by simp, .inr ⟨w.heap.size, _, _, by rw [List.length_append, hnl], Nat.zero_le _, heap_alloc_new w.drew _, by rw [List.length_append, hnl]; exact hge, hcm, ?_, ?_⟩⟩, ⟨⟨rfl, rfl, rfl, by simp, fun k hk _ => Below.heap_alloc w.drew _ k hk⟩, .inr fun k hk => ?_⟩⟩
    · simp only [Array.size_append, List.size_toArray, size_zeroCells, hzc, List.length_append, hnl]
      omega
    · simp only [Array.toList_append]
      rw [Nat.mul_one]
      exact List.take_left
    · simp [Value.ownBlock] at hk; omega
  rcases hown.2 with ⟨rfl, h0⟩ | ⟨g, cap, cur, rfl, hb, hg, hle, hcap, hsz, htk⟩
  · have hx : xs = [] := List.eq_nil_of_length_eq_zero h0
    subst hx
    exact grow none 0 rfl (run_firstCells_none w.drew i0.size 0 0 0) (by simpa using hn)
  · by_cases hroom : xs.length + n ≤ cap
    · have hfit : xs.length + news.length ≤ cur.size := by omega
      have hr := run_append_room_src (P := Try.prog) w t tx ty e i0 ht hi g 0 xs.length cap x n news hs' hroom
        (fun j hj => by rw [hz1]; simp [World.cell?, hg]; omega) (fun j hj => by simp [World.frozen?, hg])
      obtain ⟨cur', h1, h2, h3⟩ := setCells_row g e (0, 0) news (0 + xs.length * i0.size) w cur hg (by rw [hz1]; omega)
      rw [h1] at hr
      refine ⟨_, _, hr, ⟨by simp, .inr ⟨g, cap, cur', by rw [List.length_append, hnl], Nat.zero_le _, setRow_heap w g cur _ e _ hg, by rw [List.length_append, hnl]; exact hroom, hcap, by rw [h2]; exact hsz, ?_⟩⟩,
        ⟨⟨rfl, rfl, rfl, by simp [World.setRow], fun k _ hk => setRow_other w g k _ (fun e => hk (by simp [Value.ownBlock, e]))⟩, .inl rfl⟩⟩
      rw [hz1] at h3
      rw [show (xs ++ news).length * 1 = 0 + xs.length * 1 + news.length by simp, h3]
      rw [Nat.zero_add, htk]
    · exact grow (.some ⟨g, 0, none⟩) cap rfl (run_firstCells_some w.drew i0.size xs.length ⟨g, 0, none⟩ xs.length cap xs (by rw [hz1]; simp) (fun j u hu => by
        have := World.ownsRow.cells hown (g := g) rfl j u hu
        simpa using this)) (by omega)
theorem apart {w : World} {k k' : Nat} {c c' : Array Value} {e e' : TypeId} {f f' : Nat × Nat} (h : w.heap[k]? = some (.cells c e f)) (h' : w.heap[k']? = some (.cells c' e' f')) (hne : e ≠ e') : k ≠ k' := by
  intro hk
  subst hk
  rw [h] at h'
  injection h' with h'
  injection h' with _ h' _
  exact hne h'

theorem pop {e : TypeId} {w : World} {g n cap : Nat} {xs : List Value} {u : Value} (h : OwnR e w (.slice (some ⟨g, 0, none⟩) n cap) (xs ++ [u])) : OwnR e w (.slice (some ⟨g, 0, none⟩) xs.length cap) xs := by
  obtain ⟨a, c, hs⟩ := h.shape
  have hn : n = xs.length + 1 := by injection hs with _ h2 _; simpa using h2
  subst hn
  have h' : w.ownsRow 0 e 1 (.slice (some ⟨g, 0, none⟩) (xs.length + 1) cap) (xs.length + 1) (xs ++ [u]) := by
    have := h
    unfold OwnR at this
    rwa [show (xs ++ [u]).length = xs.length + 1 by simp] at this
  exact ownsRow_pop (by simp) h'
/-- an append of one element, laid in a row of its own just before -/
theorem wpList_one {t e : TypeId} {i0 : TypeInfo} {z : Value} {bytes : Nat} (ht : Try.prog.underlying t = some (.slice e)) (hi : Try.prog.info? e = some i0) (hz0 : i0.zero = some z) (hz1 : i0.size = 1) (hz2 : i0.bytes = bytes) (hzc : z.cells.size = 1)
    {w : World} {ops : Array Oper} {rest : List Oper} {o : Oper} {a : Act} {Q : Exit → Act → World → Prop} (hgd : o.guard = none) (s x : Operand)
    (ho : o.op = .call { callee := .builtin .append, args := #[s, x], argTypes := #[t, t] }) (v : Value) (xs : List Value) (hs : a.eval s = v) (hown : OwnR e w v xs)
    (g : Nat) (u : Value) (hx : a.eval x = .slice (some ⟨g, 0, none⟩) 1 1) (hu : w.cell? ⟨g, 0, none⟩ = some u) (h1 : u.oneCell' = true) (h47 : (xs.length + 1) * bytes ≤ 140737488355328) (hm : xs.length + 1 ≤ 140737488355328)
    (h : ∀ v' w', OwnR e w' v' (xs ++ [u]) → Ext v w v' w' → wpList Try.prog ops Q rest (a.put o.dst v') w') : wpList Try.prog ops Q (o :: rest) a w := by
  refine wpList_plain hgd fun K hK => ?_
  have hsrc : Src Try.prog 1 t (.slice (some ⟨g, 0, none⟩) 1 1) 1 [u] w := by
    refine Src.ofSlice w ht ⟨g, 0, none⟩ 1 1 [u] (by simp) (fun j y hy => ?_) (fun y hy => ?_)
    · have hj : j = 0 := by have := (List.getElem?_eq_some_iff.1 hy).1; simpa using this
      subst hj
      simp at hy
      subst hy
      exact hu
    · simp at hy; subst hy; exact h1
  obtain ⟨v', w', hr, h2, h3⟩ := run_appR (ty := o.type) ht hi hz0 hz1 hz2 hzc w v xs hown _ 1 [u] hsrc (by omega) h47 hm
  unfold Oper.wp execOp
  simp only [ho, resolve, invoke, builtin, Sem.run_bind, Sem.run_pure, Result.andThen_ok, List.map_toArray, List.map_cons, List.map_nil, hs, hx]
  rw [hr]
  exact hK _ _ (h v' w' h2 h3)
theorem ownR_alloc {e : TypeId} {w : World} {v : Value} {xs : List Value} (h : OwnR e w v xs) (o : Obj) : OwnR e (w.alloc o) v xs := h.same fun k hk => Below.heap_alloc w o k (h.lt k hk)
end Go.Proofs.Qxb6600645a.own
