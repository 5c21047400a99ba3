/-
  Rows of the call's own of whatever one-cell element, appended to from whatever source.
-/
import Derived.Test.Qxb6001000aOwn
import Derived.Deep.AppendSrc
namespace Go.Proofs.Qxb6001000a.own2
open Go.ChangeShapes Go.WideShapes Go.ChangeAt Go.RowKit
open Go.Proofs.Qxb6001000a.base Go.Proofs.Qxb6001000a.own

/-- v is nil, or the head of a row of the call's own, elements of type e, that holds xs -/
def OwnR (e : TypeId) (w : World) (v : Value) (xs : List Value) : Prop := w.ownsRow 0 e 1 v xs.length xs
theorem own_iff (w : World) (v : Value) (bs : List Int) : Own w v bs ↔ OwnR 5 w v (bs.map (Value.int .u8)) := by
  unfold Own OwnR; rw [List.length_map]
theorem OwnR.nil (e : TypeId) (w : World) : OwnR e w (.slice none 0 0) [] := World.ownsRow_nil w 0 e 1
theorem OwnR.same {e : TypeId} {w w' : World} {v : Value} {xs : List Value} (h : OwnR e w v xs) (hs : ∀ k, v.ownBlock = some k → w'.heap[k]? = w.heap[k]?) : OwnR e w' v xs := by
  refine ⟨h.1, ?_⟩
  rcases h.2 with hn | ⟨g, cap, cur, rfl, hb, hg, rest⟩
  · exact .inl hn
  · exact .inr ⟨g, cap, cur, rfl, hb, by rw [hs g rfl]; exact hg, rest⟩
theorem OwnR.lt {e : TypeId} {w : World} {v : Value} {xs : List Value} (h : OwnR e w v xs) (k : Nat) (hk : v.ownBlock = some k) : k < w.heap.size := (World.ownsRow.lt h k hk).2
/-- the element type that the block of the row bears -/
theorem OwnR.elem {e : TypeId} {w : World} {v : Value} {xs : List Value} (h : OwnR e w v xs) (k : Nat) (hk : v.ownBlock = some k) : ∃ cur, w.heap[k]? = some (.cells cur e (0, 0)) := by
  rcases h.2 with ⟨rfl, _⟩ | ⟨g, cap, cur, rfl, hb, hg, _⟩
  · cases hk
  · cases hk; exact ⟨cur, hg⟩
theorem OwnR.shape {e : TypeId} {w : World} {v : Value} {xs : List Value} (h : OwnR e w v xs) : ∃ a cap, v = .slice a xs.length cap := by
  rcases h.2 with ⟨rfl, hn⟩ | ⟨g, cap, cur, rfl, _⟩
  · exact ⟨none, 0, by rw [hn]⟩
  · exact ⟨_, _, rfl⟩
theorem OwnR.isSome {e : TypeId} {w : World} {v : Value} {xs : List Value} (h : OwnR e w v xs) (hx : 0 < xs.length) : ∃ g cap, v = .slice (some ⟨g, 0, none⟩) xs.length cap ∧ xs.length ≤ cap ∧ cap ≤ maxLen := by
  rcases h.2 with ⟨rfl, hn⟩ | ⟨g, cap, cur, rfl, _, _, h1, h2, _⟩
  · omega
  · exact ⟨g, cap, rfl, h1, h2⟩
theorem OwnR.cell {e : TypeId} {w : World} {g n cap : Nat} {xs : List Value} (h : OwnR e w (.slice (some ⟨g, 0, none⟩) n cap) xs) (k : Nat) (hk : k < xs.length) : w.cell? ⟨g, k, none⟩ = xs[k]? := by
  rcases h.2 with ⟨h', _⟩ | ⟨g', cap', cur, h', _, hg, _, _, _, htake⟩
  · simp at h'
  · simp only [Value.slice.injEq, Option.some.injEq, Addr.mk.injEq, and_true] at h'
    obtain ⟨rfl, rfl, rfl⟩ := h'
    rw [cell_of_row w g k cur e (0, 0) hg]
    have : (cur.toList.take (xs.length * 1))[k]? = xs[k]? := by rw [htake]
    rw [List.getElem?_take, if_pos (by omega)] at this
    simpa using this
theorem OwnR.frozen {e : TypeId} {w : World} {g n cap : Nat} {xs : List Value} (h : OwnR e w (.slice (some ⟨g, 0, none⟩) n cap) xs) (k : Nat) : w.frozen? ⟨g, k, none⟩ = false := by
  obtain ⟨cur, hg⟩ := h.elem g rfl
  simp [World.frozen?, hg]

theorem setCells_row (g : Nat) (e : TypeId) (fr : Nat × Nat) : ∀ (vs : List Value) (o : Nat) (w : World) (cur : Array Value), w.heap[g]? = some (.cells cur e fr) → o + vs.length ≤ cur.size →
    ∃ cur', w.setCells g o vs = w.setRow g cur' ∧ cur'.size = cur.size ∧ cur'.toList.take (o + vs.length) = cur.toList.take o ++ vs
  | [], o, w, cur, hg, _ => ⟨cur, by rw [setRow_self w g cur e fr hg]; rfl, rfl, by simp⟩
  | v :: r, o, w, cur, hg, hl => by
    simp only [List.length_cons] at hl
    have hset := setCell_eq_setRow w g o cur e fr v hg
    obtain ⟨cur', h1, h2, h3⟩ := setCells_row g e fr r (o + 1) (w.setCell ⟨g, o, none⟩ v) (cur.setIfInBounds o v) (by rw [hset]; exact setRow_heap w g _ _ e _ hg) (by simp; omega)
    refine ⟨cur', ?_, by simpa using h2, ?_⟩
    · show (w.setCell ⟨g, o, none⟩ v).setCells g (o + 1) r = _
      rw [h1, hset, setRow_setRow]
    · rw [show o + (v :: r).length = o + 1 + r.length by simp; omega, h3]
      have : (cur.setIfInBounds o v).toList.take (o + 1) = cur.toList.take o ++ [v] := by
        rw [Array.toList_setIfInBounds, List.take_succ_eq_append_getElem (by simp; omega), List.take_set_of_le (Nat.le_refl _)]
        simp
      rw [this]
      simp

/-- what one append comes to, whatever is appended (but something) -/
theorem run_appR {t tx ty e : TypeId} {i0 : TypeInfo} {z : Value} {bytes : Nat} (ht : Try.prog.underlying t = some (.slice e)) (hi : Try.prog.info? e = some i0) (hz0 : i0.zero = some z) (hz1 : i0.size = 1) (hz2 : i0.bytes = bytes) (hzc : z.cells.size = 1)
    (w : World) (v : Value) (xs : List Value) (hown : OwnR e w v xs) (x : Value) (n : Nat) (news : List Value) (hs : Src Try.prog 1 tx x n news w) (hn : 0 < n) (h47 : (xs.length + n) * bytes ≤ 140737488355328) (hm : xs.length + n ≤ 140737488355328) :
    ∃ v' w', (Builtin.append_ #[t, tx] ty #[v, x]).run Try.prog w = .ok v' w' ∧ OwnR e w' v' (xs ++ news) ∧ Ext v w v' w' := by
  have hnl : news.length = n := by have := hs.newsLen; omega
  have hs' : Src Try.prog i0.size tx x n news w := by rw [hz1]; exact hs
  have grow : ∀ (base : Option Addr) (cap : Nat), v = .slice base xs.length cap → (Builtin.firstCells i0.size xs.length (.slice base xs.length cap)).run Try.prog w.drew = .ok xs.toArray w.drew → cap < xs.length + n →
      ∃ v' w', (Builtin.append_ #[t, tx] ty #[v, x]).run Try.prog w = .ok v' w' ∧ OwnR e w' v' (xs ++ news) ∧ Ext v w v' w' := by
    intro base cap hv hold hlt
    have hfit : Builtin.nextslicecap (xs.length + n) cap * i0.bytes ≤ 281474976710656 := growslice_fits (by omega) (by rw [hz2]; exact h47)
    have hr := run_append_grow_src (P := Try.prog) w t tx ty e i0 z ht hi hz0 base xs.length cap xs hold x n news hs' hlt (by omega) hfit
    rw [hv]
    have hge := grownCap_ge w (xs.length + n) cap e
    have hcm : grownCap w (xs.length + n) cap e ≤ maxLen := grownCap_le_maxLen w (xs.length + n) cap e (by unfold maxLen; omega)
    refine ⟨_, _, hr, ⟨by simp, .inr ⟨w.heap.size, _, _, by rw [List.length_append, hnl], Nat.zero_le _, heap_alloc_new w.drew _, by rw [List.length_append, hnl]; exact hge, hcm, ?_, ?_⟩⟩, ⟨⟨rfl, rfl, rfl, by simp, fun k hk _ => Below.heap_alloc w.drew _ k hk⟩, .inr fun k hk => ?_⟩⟩
    · simp only [Array.size_append, List.size_toArray, size_zeroCells, hzc, List.length_append, hnl]
      omega
    · simp only [Array.toList_append]
      rw [Nat.mul_one]
      exact List.take_left
    · simp [Value.ownBlock] at hk; omega
  rcases hown.2 with ⟨rfl, h0⟩ | ⟨g, cap, cur, rfl, hb, hg, hle, hcap, hsz, htk⟩
  · have hx : xs = [] := List.eq_nil_of_length_eq_zero h0
    subst hx
    exact grow none 0 rfl (run_firstCells_none w.drew i0.size 0 0 0) (by simpa using hn)
  · by_cases hroom : xs.length + n ≤ cap
    · have hfit : xs.length + news.length ≤ cur.size := by omega
      have hr := run_append_room_src (P := Try.prog) w t tx ty e i0 ht hi g 0 xs.length cap x n news hs' hroom
        (fun j hj => by rw [hz1]; simp [World.cell?, hg]; omega) (fun j hj => by simp [World.frozen?, hg])
      obtain ⟨cur', h1, h2, h3⟩ := setCells_row g e (0, 0) news (0 + xs.length * i0.size) w cur hg (by rw [hz1]; omega)
      rw [h1] at hr
      refine ⟨_, _, hr, ⟨by simp, .inr ⟨g, cap, cur', by rw [List.length_append, hnl], Nat.zero_le _, setRow_heap w g cur _ e _ hg, by rw [List.length_append, hnl]; exact hroom, hcap, by rw [h2]; exact hsz, ?_⟩⟩,
        ⟨⟨rfl, rfl, rfl, by simp [World.setRow], fun k _ hk => setRow_other w g k _ (fun e => hk (by simp [Value.ownBlock, e]))⟩, .inl rfl⟩⟩
      rw [hz1] at h3
      rw [show (xs ++ news).length * 1 = 0 + xs.length * 1 + news.length by simp, h3]
      rw [Nat.zero_add, htk]
    · exact grow (.some ⟨g, 0, none⟩) cap rfl (run_firstCells_some w.drew i0.size xs.length ⟨g, 0, none⟩ xs.length cap xs (by rw [hz1]; simp) (fun j u hu => by
        have := World.ownsRow.cells hown (g := g) rfl j u hu
        simpa using this)) (by omega)
end Go.Proofs.Qxb6001000a.own2
