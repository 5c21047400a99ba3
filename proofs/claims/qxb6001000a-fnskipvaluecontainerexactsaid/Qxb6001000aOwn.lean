/-
  A slice of bytes that the call itself grows by append: what it owns, and what becomes of the rest of memory.
-/
import Derived.Test.Qxb6001000aSpace
import Derived.Laws.AppendOwn
import Derived.Laws.OwnMore
import Derived.Deep.RegionLaw
namespace Go.Proofs.Qxb6001000a.own
open Go.ChangeShapes Go.WideShapes Go.ChangeAt Go.RowKit
open Go.Proofs.Qxb6001000a.base

/-- v is nil, or the head of a row of the call's own that holds the bytes bs -/
def Own (w : World) (v : Value) (bs : List Int) : Prop := w.ownsRow 0 5 1 v bs.length (bs.map (Value.int .u8))
/-- from w on, only v's own row may have been written; v' lies in that row or in a new one -/
structure Ext (v : Value) (w : World) (v' : Value) (w' : World) : Prop where
  grown : w.grownBy w' v.ownBlock
  own : v'.ownBlock = v.ownBlock ∨ ∀ k, v'.ownBlock = some k → w.heap.size ≤ k
theorem Ext.refl (v : Value) (w : World) : Ext v w v w := ⟨World.grownBy.refl w _, .inl rfl⟩
theorem Ext.trans {v v1 v2 : Value} {w w1 w2 : World} (h : Ext v w v1 w1) (k : Ext v1 w1 v2 w2) : Ext v w v2 w2 := by
  refine ⟨⟨k.grown.os.trans h.grown.os, k.grown.tape.trans h.grown.tape, k.grown.output.trans h.grown.output, Nat.le_trans h.grown.size k.grown.size, fun i hi hne => ?_⟩, ?_⟩
  · rw [k.grown.block i (Nat.lt_of_lt_of_le hi h.grown.size) ?_]
    · exact h.grown.block i hi hne
    · rcases h.own with e | e
      · rw [e]; exact hne
      · intro he
        have := e i he.symm
        omega
  · rcases k.own with e | e
    · rw [e]; exact h.own
    · exact .inr fun i hi => Nat.le_trans h.grown.size (e i hi)
theorem Ext.alloc {v v' : Value} {w w' : World} {o : Obj} (h : Ext v (w.alloc o) v' w') : Ext v w v' w' := by
  have g := World.grownBy_alloc w o v.ownBlock
  refine ⟨⟨h.grown.os.trans g.os, h.grown.tape.trans g.tape, h.grown.output.trans g.output, Nat.le_trans g.size h.grown.size, fun i hi hne => ?_⟩, ?_⟩
  · rw [h.grown.block i (Nat.lt_of_lt_of_le hi g.size) hne]
    exact g.block i hi hne
  · rcases h.own with e | e
    · exact .inl e
    · exact .inr fun i hi => Nat.le_trans g.size (e i hi)
theorem Ext.drewN {v v' : Value} {w w' : World} {n : Nat} (h : Ext v (w.drewN n) v' w') : Ext v w v' w' := ⟨⟨h.grown.os, h.grown.tape, h.grown.output, h.grown.size, h.grown.block⟩, h.own⟩
theorem Ext.drew {v v' : Value} {w w' : World} (h : Ext v w.drew v' w') : Ext v w v' w' := ⟨⟨h.grown.os, h.grown.tape, h.grown.output, h.grown.size, h.grown.block⟩, h.own⟩
theorem Ext.below {v v' : Value} {w w' : World} (h : Ext v w v' w') {B : Nat} (hB : B ≤ w.heap.size) (hv : ∀ k, v.ownBlock = some k → B ≤ k) : Below B w w' :=
  (Below.refl B w).grown h.grown hB hv
theorem Own.nil (w : World) : Own w (.slice none 0 0) [] := World.ownsRow_nil w 0 5 1
theorem Own.alloc {w : World} {v : Value} {bs : List Int} (h : Own w v bs) (o : Obj) : Own (w.alloc o) v bs := World.ownsRow.alloc h o
theorem Own.lt {w : World} {v : Value} {bs : List Int} (h : Own w v bs) (k : Nat) (hk : v.ownBlock = some k) : k < w.heap.size := (World.ownsRow.lt h k hk).2
theorem Own.same {w w' : World} {v : Value} {bs : List Int} (h : Own w v bs) (hs : ∀ k, v.ownBlock = some k → w'.heap[k]? = w.heap[k]?) : Own w' v bs := by
  refine ⟨h.1, ?_⟩
  rcases h.2 with hn | ⟨g, cap, cur, rfl, hb, hg, rest⟩
  · exact .inl hn
  · exact .inr ⟨g, cap, cur, rfl, hb, by rw [hs g rfl]; exact hg, rest⟩
theorem Own.drewN {w : World} {v : Value} {bs : List Int} (h : Own w v bs) (n : Nat) : Own (w.drewN n) v bs := h.same fun _ _ => rfl
theorem Own.shape {w : World} {v : Value} {bs : List Int} (h : Own w v bs) : ∃ a cap, v = .slice a bs.length cap := by
  rcases h.2 with ⟨rfl, hn⟩ | ⟨g, cap, cur, rfl, _⟩
  · exact ⟨none, 0, by rw [hn]⟩
  · exact ⟨_, _, rfl⟩
theorem Own.isB {w : World} {v : Value} {bs : List Int} (h : Own w v bs) : IsB w v bs := by
  obtain ⟨h1, h2⟩ := h
  rcases h2 with ⟨rfl, hn⟩ | ⟨g, cap, cur, rfl, hb, hg, hle, hcap, hsz, htk⟩
  · exact .inl ⟨rfl, List.eq_nil_of_length_eq_zero hn⟩
  · refine .inr ⟨g, cap, rfl, hle, hcap, (Array.getElem?_eq_some_iff.1 hg).1, fun k hk => ?_⟩
    have : (cur.toList.take (bs.length * 1))[k]? = (bs.map (Value.int .u8))[k]? := by rw [htk]
    rw [List.getElem?_take, if_pos (by omega)] at this
    simp [World.cell?, hg, hk]
    simpa [hk] using this
theorem Own.cast {w : World} {v : Value} {bs cs : List Int} (h : Own w v bs) (e : bs = cs) : Own w v cs := e ▸ h

/-- what one append comes to, as a run -/
theorem run_app (w : World) (v : Value) (bs : List Int) (hown : Own w v bs) (xv : Value) (ns : List Int) (hsrc : IsB w xv ns) (hbd : bs.length + ns.length ≤ 140737488355328) :
    ∃ v' w', (Builtin.append_ #[22, 22] 22 #[v, xv]).run Try.prog w = .ok v' w' ∧ Own w' v' (bs ++ ns) ∧ Ext v w v' w' := by
  obtain ⟨i0, hi, hz0, hz1, hz2⟩ := info_parts info5
  rcases hsrc with ⟨rfl, rfl⟩ | ⟨g, cap, rfl, hle, hcap, hB⟩
  · exact ⟨v, w, run_append_owned_none (P := Try.prog) w 0 22 22 5 i0 1 Try.underlying22 hi v _ _ hown, by simpa using hown, Ext.refl v w⟩
  · have hl : (ns.map (Value.int .u8)).length = ns.length * 1 := by simp
    have hnews : ∀ j u, (ns.map (Value.int .u8))[j]? = some u → w.cell? ((⟨g, 0, none⟩ : Addr).add j) = some u := by
      intro j u hu
      have hj : j < ns.length := by have := (List.getElem?_eq_some_iff.1 hu).1; simpa using this
      have hadd : (⟨g, 0, none⟩ : Addr).add j = ⟨g, j, none⟩ := by unfold Addr.add; split <;> simp_all
      rw [hadd, hB.cell0 j hj, ← hu]
      simp [hj]
    have hm : bs.length + ns.length ≤ maxLen := by unfold maxLen; omega
    obtain ⟨v', w', hr, h2, h3, h4⟩ := run_append_own (P := Try.prog) w 0 22 22 5 i0 (.int .u8 0) 1 1 Try.underlying22 hi hz0 hz1 hz2 rfl (by decide) v bs.length _ hown ⟨g, 0, none⟩ ns.length cap _ hl hnews (ints_oneCell _ _) hm (by omega) (Nat.zero_le _)
    refine ⟨v', w', hr, ?_, h3, ?_⟩
    · unfold Own; rw [List.length_append, List.map_append]; exact h2
    · rcases hown.2 with ⟨rfl, hn⟩ | ⟨g1, cap1, cur, rfl, hb, hg, hle1, hcap1, hsz, htk⟩
      · have hbs : bs = [] := List.eq_nil_of_length_eq_zero hn
        subst hbs
        obtain ⟨v2, w2, hr2, k2, _, _⟩ := run_append_own (P := Try.prog) w w.heap.size 22 22 5 i0 (.int .u8 0) 1 1 Try.underlying22 hi hz0 hz1 hz2 rfl (by decide) _ _ _ (World.ownsRow_nil w w.heap.size 5 1) ⟨g, 0, none⟩ ns.length cap _ hl hnews (ints_oneCell _ _) (by simpa using hm) (by simp at hbd ⊢; omega) (Nat.le_refl _)
        rw [hr] at hr2
        injection hr2 with e1 e2
        subst e1
        exact .inr fun k hk => (World.ownsRow.lt k2 k hk).1
      · by_cases hroom : bs.length + ns.length ≤ cap1
        · obtain ⟨w2, hr2, _, _⟩ := run_append_fits (P := Try.prog) w 0 22 22 5 i0 1 Try.underlying22 hi hz1 g1 bs.length cap1 _ hown ⟨g, 0, none⟩ ns.length cap _ hl hnews (ints_oneCell _ _) hroom
          rw [hr] at hr2
          injection hr2 with e1 e2
          subst e1
          exact .inl rfl
        · have holds := World.ownsRow.cells hown (g := g1) rfl
          have hr2 := run_append_grow (P := Try.prog) w 22 22 5 i0 (.int .u8 0) Try.underlying22 hi hz0 ⟨g1, 0, none⟩ bs.length cap1 _ (by rw [hz1]; simp) holds ⟨g, 0, none⟩ ns.length cap _ (by rw [hz1]; simp) hnews (by omega) (by omega) (growslice_fits (by omega) (by rw [hz2]; omega))
          rw [hr] at hr2
          injection hr2 with e1 e2
          subst e1
          exact .inr fun k hk => by simp [Value.ownBlock] at hk; omega

/-- the same as a law for the walk -/
theorem wpList_app {w : World} {ops : Array Oper} {rest : List Oper} {o : Oper} {a : Act} {Q : Exit → Act → World → Prop} (hgd : o.guard = none) (s x : Operand)
    (ho : o.op = .call { callee := .builtin .append, args := #[s, x], argTypes := #[22, 22] }) (ht : o.type = 22) (v : Value) (bs : List Int) (hs : a.eval s = v) (hown : Own w v bs)
    (xv : Value) (ns : List Int) (hx : a.eval x = xv) (hsrc : IsB w xv ns) (hbd : bs.length + ns.length ≤ 140737488355328)
    (h : ∀ v' w', Own w' v' (bs ++ ns) → Ext v w v' w' → wpList Try.prog ops Q rest (a.put o.dst v') w') : wpList Try.prog ops Q (o :: rest) a w := by
  refine wpList_plain hgd fun K hK => ?_
  obtain ⟨v', w', hr, h1, h2⟩ := run_app w v bs hown xv ns hsrc hbd
  rw [← ht] at hr
  unfold Oper.wp execOp
  simp only [ho, resolve, invoke, builtin, Sem.run_bind, Sem.run_pure, Result.andThen_ok, List.map_toArray, List.map_cons, List.map_nil, hs, hx]
  rw [ht] at hr ⊢
  rw [hr]
  exact hK _ _ (h v' w' h1 h2)
/-- as one step of a region that draws its order -/
theorem step_app {w : World} {ops : Array Oper} {o : Oper} {a : Act} {K : Act → World → Prop} {Q : Exit → Act → World → Prop} {E : Prop} (hgd : o.guard = none) (s x : Operand)
    (ho : o.op = .call { callee := .builtin .append, args := #[s, x], argTypes := #[22, 22] }) (ht : o.type = 22) (v : Value) (bs : List Int) (hs : a.eval s = v) (hown : Own w v bs)
    (xv : Value) (ns : List Int) (hx : a.eval x = xv) (hsrc : IsB w xv ns) (hbd : bs.length + ns.length ≤ 140737488355328)
    (h : ∀ v' w', Own w' v' (bs ++ ns) → Ext v w v' w' → K (a.put o.dst v') w') :
    if Region.wanted o (yielded ops a.tmps) = true then Oper.wp Try.prog o a w K Q else E := by
  have hw : Region.wanted o (yielded ops a.tmps) = true := by simp [Region.wanted, hgd]
  rw [if_pos hw]
  obtain ⟨v', w', hr, h1, h2⟩ := run_app w v bs hown xv ns hsrc hbd
  unfold Oper.wp execOp
  simp only [ho, resolve, invoke, builtin, Sem.run_bind, Sem.run_pure, Result.andThen_ok, List.map_toArray, List.map_cons, List.map_nil, hs, hx]
  rw [ht, hr]
  exact h v' w' h1 h2

/-- a literal's row, just laid -/
theorem isB_lit (w : World) (ns : List Int) (hm : ns.length ≤ maxLen) : IsB (w.alloc (.cells (ns.map (Value.int .u8)).toArray 5)) (.slice (some ⟨w.heap.size, 0, none⟩) ns.length ns.length) ns :=
  .inr ⟨_, _, rfl, Nat.le_refl _, hm, bytes_of (heap_alloc_new w _)⟩
theorem Bytes.ext {v v' : Value} {w w' : World} {g off : Nat} {zs : List Int} (h : Bytes w g off zs) (he : Ext v w v' w') (hne : v.ownBlock ≠ some g) : Bytes w' g off zs := h.grown he.grown hne
theorem IsB.ext {v v' : Value} {w w' : World} {x : Value} {zs : List Int} (h : IsB w x zs) (he : Ext v w v' w') (hne : v.ownBlock = none ∨ v.ownBlock ≠ x.ownBlock) : IsB w' x zs := by
  rcases h with h | ⟨g, cap, rfl, h2, h3, h4⟩
  · exact .inl h
  · refine .inr ⟨g, cap, rfl, h2, h3, h4.grown he.grown ?_⟩
    rcases hne with e | e
    · rw [e]; simp
    · exact e
end Go.Proofs.Qxb6001000a.own
