/-
  buildContainer_b1, walked: what it writes is a container that the scanner reads to its end.
-/
import Derived.Test.Qxb6001000aElem
import Derived.Test.Qxb6001000aQuote
namespace Go.Proofs.Qxb6001000a.build
open Go.ChangeShapes Go.WideShapes Go.ChangeAt Go.RowKit
open Go.Proofs.Qxb6001000a.base Go.Proofs.Qxb6001000a.own Go.Proofs.Qxb6001000a.own2 Go.Proofs.Qxb6001000a.plain Go.Proofs.Qxb6001000a.num Go.Proofs.Qxb6001000a.bld Go.Proofs.Qxb6001000a.meth Go.Proofs.Qxb6001000a.quoted

/-- a slice value that reads xs, cell by cell, from the head of a block -/
def IsV (w : World) (v : Value) (xs : List Value) : Prop :=
  (v = .slice none 0 0 ∧ xs = []) ∨ ∃ g cap, v = .slice (some ⟨g, 0, none⟩) xs.length cap ∧ g < w.heap.size ∧ ∀ k, k < xs.length → w.cell? ⟨g, k, none⟩ = xs[k]?
theorem IsV.ofB {w : World} {v : Value} {bs : List Int} (h : IsB w v bs) : IsV w v (bs.map (Value.int .u8)) := by
  rcases h with ⟨rfl, rfl⟩ | ⟨g, cap, rfl, _, _, hB⟩
  · exact .inl ⟨rfl, rfl⟩
  · refine .inr ⟨g, cap, by simp, hB.1, fun k hk => ?_⟩
    rw [List.length_map] at hk
    rw [hB.cell0 k hk]
    simp [hk]
theorem IsV.below {w w' : World} {v : Value} {xs : List Value} (h : IsV w v xs) (hb : Below w.heap.size w w') : IsV w' v xs := by
  rcases h with h | ⟨g, cap, rfl, h1, h2⟩
  · exact .inl h
  · refine .inr ⟨g, cap, rfl, Nat.lt_of_lt_of_le h1 hb.size, fun k hk => ?_⟩
    rw [hb.cell (p := ⟨g, k, none⟩) h1]
    exact h2 k hk
/-- its shape, and its cells in every later world -/
theorem IsV.get {w : World} {v : Value} {xs : List Value} (h : IsV w v xs) :
    ∃ a cap, v = .slice a xs.length cap ∧ ∀ w', Below w.heap.size w w' → ∀ k, k < xs.length → ∃ g, a = some ⟨g, 0, none⟩ ∧ w'.cell? ⟨g, k, none⟩ = xs[k]? := by
  rcases h with ⟨rfl, rfl⟩ | ⟨g, cap, rfl, h1, h2⟩
  · exact ⟨none, 0, rfl, fun _ _ k hk => by simp at hk⟩
  · refine ⟨_, cap, rfl, fun w' hb k hk => ⟨g, rfl, ?_⟩⟩
    rw [hb.cell (p := ⟨g, k, none⟩) h1]
    exact h2 k hk

/-- the builder between two steps -/
def Inv (w : World) (b : Nat) (sp : Bool) (M N L : Nat) : Prop :=
  ∃ bv ov cv key os cs c t, Full w b bv ov cv sp key (c :: t) os cs ∧ cs.length = os.length ∧ 1 ≤ os.length ∧ os.length ≤ N ∧ (∀ x ∈ cs, 0 ≤ x ∧ x ≤ (M : Int)) ∧ 0 ≤ key ∧ key ≤ (M : Int) ∧ t.length ≤ L ∧ (c = 123 ∨ c = 91) ∧ Bal t 1 os.length
theorem Inv.mono {w : World} {b : Nat} {sp : Bool} {M N L M' N' L' : Nat} (h : Inv w b sp M N L) (h1 : M ≤ M') (h2 : N ≤ N') (h3 : L ≤ L') : Inv w b sp M' N' L' := by
  obtain ⟨bv, ov, cv, key, os, cs, c, t, F, a1, a2, a3, a4, a5, a6, a7, a8, a9⟩ := h
  exact ⟨bv, ov, cv, key, os, cs, c, t, F, a1, a2, by omega, fun x hx => ⟨(a4 x hx).1, by have := (a4 x hx).2; omega⟩, a5, by omega, by omega, a8, a9⟩

theorem last_split {α : Type} (l : List α) (h : 1 ≤ l.length) : ∃ l' x, l = l' ++ [x] := by
  have hne : l ≠ [] := by intro e; rw [e] at h; simp at h
  exact ⟨l.dropLast, l.getLast hne, (List.dropLast_concat_getLast hne).symm⟩

theorem elemI (w : World) (b : Nat) (sp : Bool) (M N L : Nat) (h : Inv w b sp M N L) (hM : M ≤ 4294967296) (hN : N ≤ 4294967296) (hL : L ≤ 17592186044415) :
    Calls Try.prog 28 #[.pointer (some ⟨b, 0, none⟩)] w fun e w' => e = .returned (.tuple #[]) ∧ Inv w' b sp (M + 1) N (L + 40) ∧ Below b w w' := by
  obtain ⟨bv, ov, cv, key, os, cs, c, t, F, a1, a2, a3, a4, a5, a6, a7, a8, a9⟩ := h
  obtain ⟨os, o, rfl⟩ := last_split os a2
  obtain ⟨cs, x, rfl⟩ := last_split cs (by omega)
  simp only [List.length_append, List.length_cons, List.length_nil] at a1 a3 a9
  have hx := a4 x (by simp)
  refine (elem.element b bv ov cv sp key (c :: t) os o cs x w F (by simp only [List.length_cons]; omega) (by omega) (by omega) hx.1 (by omega) a5 (by omega)).mono ?_
  rintro e w' ⟨rfl, bv', ov', cv', key', ns, F', hns, hbal, hkey, hb⟩
  refine ⟨rfl, ⟨bv', ov', cv', key', os ++ [o], cs ++ [x + 1], c, t ++ ns, F', by simp; omega, by simp, by simp; omega, ?_, by omega, by omega, by simp; omega, a8, ?_⟩, hb⟩
  · intro y hy
    rcases List.mem_append.1 hy with hy | hy
    · have := a4 y (by simp [hy]); omega
    · simp at hy; omega
  · rw [show (os ++ [o]).length = os.length + 1 by simp]
    exact a9.append (hbal os.length)

theorem opnI (w : World) (b : Nat) (sp : Bool) (M N L : Nat) (o : Bool) (h : Inv w b sp M N L) (hN : N ≤ 4294967296) (hL : L ≤ 17592186044415) :
    Calls Try.prog 27 #[.pointer (some ⟨b, 0, none⟩), .bool o] w fun e w' => e = .returned (.tuple #[]) ∧ Inv w' b sp M (N + 1) (L + 3) ∧ Below b w w' := by
  obtain ⟨bv, ov, cv, key, os, cs, c, t, F, a1, a2, a3, a4, a5, a6, a7, a8, a9⟩ := h
  refine (opn b bv ov cv sp key (c :: t) os cs o w F (by simp only [List.length_cons]; omega) (by omega) (by omega)).mono ?_
  rintro e w' ⟨rfl, bv', ov', cv', c', ns, F', hc', hns, hneu, hb⟩
  refine ⟨rfl, ⟨bv', ov', cv', key, os ++ [o], cs ++ [0], c, t ++ (c' :: ns), F', by simp; omega, by simp, by simp; omega, ?_, by omega, by omega, by simp; omega, a8, ?_⟩, hb⟩
  · intro y hy
    rcases List.mem_append.1 hy with hy | hy
    · exact a4 y hy
    · simp at hy; omega
  · rw [show (os ++ [o]).length = os.length + 1 by simp]
    obtain ⟨d, hd⟩ : ∃ d, os.length = d + 1 := ⟨os.length - 1, by omega⟩
    rw [hd] at a9 ⊢
    exact a9.append ((Bal.op hc' d).append (Bal.all hneu (d + 1)))

/-- the builder while it is closed: m containers are open -/
def Shut (w : World) (b : Nat) (sp : Bool) (m L : Nat) : Prop :=
  ∃ bv ov cv key os cs c t, Full w b bv ov cv sp key (c :: t) os cs ∧ cs.length = os.length ∧ os.length = m ∧ t.length ≤ L ∧ (c = 123 ∨ c = 91) ∧ Bal t 1 m
theorem clsS (w : World) (b : Nat) (sp : Bool) (m L : Nat) (h : Shut w b sp (m + 1) L) (hm : m ≤ 4294967296) (hL : L ≤ 17592186044415) :
    Calls Try.prog 29 #[.pointer (some ⟨b, 0, none⟩)] w fun e w' => e = .returned (.tuple #[]) ∧ Shut w' b sp m (L + 3) ∧ Below b w w' := by
  obtain ⟨bv, ov, cv, key, os, cs, c, t, F, a1, a2, a3, a4, a5⟩ := h
  obtain ⟨os, o, rfl⟩ := last_split os (by omega)
  obtain ⟨cs, x, rfl⟩ := last_split cs (by omega)
  simp only [List.length_append, List.length_cons, List.length_nil] at a1 a2
  refine (cls b bv ov cv sp key (c :: t) os o cs x w F (by simp only [List.length_cons]; omega) (by omega) (by omega)).mono ?_
  rintro e w' ⟨rfl, bv', ov', cv', ns, c', F', hc', hns, hneu, hb⟩
  refine ⟨rfl, ⟨bv', ov', cv', key, os, cs, c, t ++ (ns ++ [c']), F', by omega, by omega, by simp; omega, a4, ?_⟩, hb⟩
  exact a5.append ((Bal.all hneu m).append (Bal.cl hc' m))
theorem clsI (w : World) (b : Nat) (sp : Bool) (M N L : Nat) (bv ov cv : Value) (key : Int) (os : List Bool) (cs : List Int) (c : Int) (t : List Int) (F : Full w b bv ov cv sp key (c :: t) os cs)
    (a1 : cs.length = os.length) (a2 : 2 ≤ os.length) (a3 : os.length ≤ N) (a4 : ∀ x ∈ cs, 0 ≤ x ∧ x ≤ (M : Int)) (a5 : 0 ≤ key) (a6 : key ≤ (M : Int)) (a7 : t.length ≤ L) (a8 : c = 123 ∨ c = 91) (a9 : Bal t 1 os.length) (hN : N ≤ 4294967296) (hL : L ≤ 17592186044415) :
    Calls Try.prog 29 #[.pointer (some ⟨b, 0, none⟩)] w fun e w' => e = .returned (.tuple #[]) ∧ Inv w' b sp M N (L + 3) ∧ Below b w w' := by
  obtain ⟨os, o, rfl⟩ := last_split os (by omega)
  obtain ⟨cs, x, rfl⟩ := last_split cs (by omega)
  simp only [List.length_append, List.length_cons, List.length_nil] at a1 a2 a3 a9
  refine (cls b bv ov cv sp key (c :: t) os o cs x w F (by simp only [List.length_cons]; omega) (by omega) (by omega)).mono ?_
  rintro e w' ⟨rfl, bv', ov', cv', ns, c', F', hc', hns, hneu, hb⟩
  refine ⟨rfl, ⟨bv', ov', cv', key, os, cs, c, t ++ (ns ++ [c']), F', by omega, by omega, by omega, fun y hy => a4 y (by simp [hy]), a5, a6, by simp; omega, a8, ?_⟩, hb⟩
  obtain ⟨d, hd⟩ : ∃ d, os.length = d + 1 := ⟨os.length - 1, by omega⟩
  rw [hd] at a9 ⊢
  exact a9.append ((Bal.all hneu (d + 1)).append (Bal.cl hc' (d + 1)))

/-- what holds of the builder beside its memory -/
def Rest (os : List Bool) (cs : List Int) (key c : Int) (t : List Int) (M N L : Nat) : Prop :=
  cs.length = os.length ∧ 1 ≤ os.length ∧ os.length ≤ N ∧ (∀ x ∈ cs, 0 ≤ x ∧ x ≤ (M : Int)) ∧ 0 ≤ key ∧ key ≤ (M : Int) ∧ t.length ≤ L ∧ (c = 123 ∨ c = 91) ∧ Bal t 1 os.length
theorem Inv.opened {w : World} {b : Nat} {sp : Bool} {M N L : Nat} (h : Inv w b sp M N L) : ∃ a n cap ov cv key os cs c t, Full w b (.slice a n cap) ov cv sp key (c :: t) os cs ∧ Rest os cs key c t M N L := by
  obtain ⟨bv, ov, cv, key, os, cs, c, t, F, r⟩ := h
  obtain ⟨a, n, cap, e⟩ := shape3 F.buf
  subst e
  exact ⟨a, n, cap, ov, cv, key, os, cs, c, t, F, r⟩
theorem Rest.len {os : List Bool} {cs : List Int} {key c : Int} {t : List Int} {M N L : Nat} (h : Rest os cs key c t M N L) : (c :: t).length ≤ L + 1 := by
  obtain ⟨_, _, _, _, _, _, h, _⟩ := h
  simp only [List.length_cons]; omega
theorem Rest.shut {w : World} {b : Nat} {sp : Bool} {bv ov cv : Value} {os : List Bool} {cs : List Int} {key c : Int} {t ns : List Int} {M N L : Nat} (h : Rest os cs key c t M N L) (F : Full w b bv ov cv sp key (c :: t ++ ns) os cs) (K : Nat) (hK : ns.length ≤ K)
    (hb : ∀ d, Bal ns (d + 1) (d + 1)) : Inv w b sp M N (L + K) := by
  obtain ⟨a1, a2, a3, a4, a5, a6, a7, a8, a9⟩ := h
  refine ⟨bv, ov, cv, key, os, cs, c, t ++ ns, F, a1, a2, a3, a4, a5, a6, by simp; omega, a8, ?_⟩
  obtain ⟨d, hd⟩ : ∃ d, os.length = d + 1 := ⟨os.length - 1, by omega⟩
  rw [hd] at a9 ⊢
  exact a9.append (hb d)
theorem cell_map {α : Type} {wr : World} {ad : Addr} {f : α → Value} {l : List α} {k : Nat} (hk : k < l.length) (h : wr.cell? ad = (l.map f)[k]?) : wr.cell? ad = some (f l[k]) := by
  rw [h]; simp [hk]
theorem quote_len (esc : Bool) (s : ByteArray) (h : s.size ≤ 1048576) : (quote esc (sb s)).length ≤ 6291458 := by
  have := qbody_len esc (sb s)
  rw [sb_len] at this
  simp only [quote, List.length_cons, List.length_append, List.length_nil]
  omega
theorem quote_bal (esc : Bool) (s : ByteArray) (d : Nat) : Bal (quote esc (sb s)) (d + 1) (d + 1) := Bal.str (bodyP_qbody esc (sb s) (sb_bd s)) d
theorem full_new (w : World) (sp : Bool) : Full (w.alloc (.cells #[.slice none 0 0, .slice none 0 0, .slice none 0 0, .bool sp, .int .u64 0] 52)) w.heap.size (.slice none 0 0) (.slice none 0 0) (.slice none 0 0) sp 0 [] [] [] :=
  ⟨heap_alloc_new w _, Own.nil _, OwnR.nil _ _, OwnR.nil _ _, (fun k h => by cases h), (fun k h => by cases h), (fun k h => by cases h)⟩
def slLen : Value → Nat | .slice _ n _ => n | _ => 0

set_option maxRecDepth 100000 in
set_option maxHeartbeats 8000000 in
theorem build (topO sp : Bool) (pv sv nv : Value) (ops : List Int) (strs : List ByteArray) (nums : List Int) (w : World)
    (hp : IsV w pv (ops.map (Value.int .u8))) (hs : IsV w sv (strs.map Value.string)) (hn : IsV w nv (nums.map (Value.int .i64)))
    (hpl : ops.length ≤ 1048576) (hsl : strs.length ≤ 1048576) (hnl : nums.length ≤ 1048576) (hp8 : ∀ c ∈ ops, 0 ≤ c ∧ c ≤ 255) (hss : ∀ s ∈ strs, s.size ≤ 1048576) (hnn : ∀ n ∈ nums, -9223372036854775808 ≤ n ∧ n ≤ 9223372036854775807) :
    Calls Try.prog 23 #[.bool topO, pv, sv, nv, .bool sp] w fun e w' => ∃ v c t, e = .returned v ∧ Own w' v (c :: t) ∧ (c = 123 ∨ c = 91) ∧ Bal t 1 0 ∧ t.length ≤ 8000000000000 ∧ Below w.heap.size w w' := by
  obtain ⟨pa, pc, rfl, hpg⟩ := hp.get
  obtain ⟨sa, sc, rfl, hsg⟩ := hs.get
  obtain ⟨na, nc, rfl, hng⟩ := hn.get
  simp only [List.length_map] at hpg hsg hng ⊢
  have HPG := (show Hid _ from hpg)
  have HSG := (show Hid _ from hsg)
  have HNG := (show Hid _ from hng)
  have HP8 : Hid (∀ c ∈ ops, 0 ≤ c ∧ c ≤ 255) := hp8
  have HSS : Hid (∀ s ∈ strs, s.size ≤ 1048576) := hss
  have HNN : Hid (∀ n ∈ nums, -9223372036854775808 ≤ n ∧ n ≤ 9223372036854775807) := hnn
  clear hp hs hn hpg hsg hng hp8 hss hnn
  have hF := full_new w sp
  go_enter Try.func23, Try.ntmps23
  go_wp2_with fail
  refine (opn w.heap.size _ _ _ sp _ [] [] [] topO _ hF (by simp) (by simp) (by simp)).mono ?_
  rintro e w1 ⟨rfl, bv1, ov1, cv1, c1, ns1, F1, hc1, hns1, hneu1, hb1⟩
  have hI : Inv w1 w.heap.size sp 0 1 2 := ⟨bv1, ov1, cv1, 0, [topO], [0], c1, ns1, F1, rfl, by simp, by simp, by simp, by omega, by omega, hns1, hc1, Bal.all hneu1 0⟩
  replace hb1 := ((Below.refl w.heap.size w).alloc (Nat.le_refl _) _).trans hb1
  clear hF F1 hc1 hns1 hneu1
  go_wp2_with fail
  go_loopw [12, 13, 14] (fun s n i wr => ∃ k ks kn : Nat, k ≤ ops.length ∧ ks ≤ strs.length ∧ kn ≤ nums.length ∧ s = .int .i64 ks ∧ n = .int .i64 kn ∧ i = .int .i64 k ∧ Inv wr w.heap.size sp k (k + 1) (2 + k * 7000000) ∧ Below w.heap.size w wr) (fun _ _ i _ => ops.length - (intOf i).toNat)
  case atStart => exact ⟨0, 0, 0, by omega, by omega, by omega, rfl, rfl, rfl, hI, hb1⟩
  case round =>
    clear hI hb1
    obtain ⟨k, ks, kn, hk, hks, hkn, rfl, rfl, rfl, hI, hb⟩ := hrel
    by_cases hlt : k < ops.length
    · obtain ⟨g, rfl, hcell0⟩ := HPG.out wr hb k hlt
      have hcell := cell_map hlt hcell0
      obtain ⟨hc0, hc1⟩ := HP8.out ops[k] (List.getElem_mem hlt)
      generalize ops[k] = c at hcell hc0 hc1
      clear hcell0
      rcases (show c % 8 = 0 ∨ c % 8 = 1 ∨ c % 8 = 2 ∨ c % 8 = 3 ∨ c % 8 = 4 ∨ c % 8 = 5 ∨ c % 8 = 6 ∨ c % 8 = 7 by omega) with q | q | q | q | q | q | q | q
      · go_wp2_with fail
        refine (elemI _ _ sp k (k + 1) (2 + k * 7000000) hI (by omega) (by omega) (by omega)).mono ?_
        rintro e w2 ⟨rfl, hI2, hb2⟩
        replace hb2 := hb.trans hb2
        clear hI hb
        go_wp2_with fail
        refine (opnI _ _ sp (k + 1) (k + 1) (2 + k * 7000000 + 40) false hI2 (by omega) (by omega)).mono ?_
        rintro e w3 ⟨rfl, hI3, hb3⟩
        replace hb3 := hb2.trans hb3
        clear hI2 hb2
        go_wp2_with fail
        go_roundw
        case rel => exact ⟨k + 1, ks, kn, by omega, by omega, by omega, by go_num, by go_num, by go_num, hI3.mono (by omega) (by omega) (by omega), hb3⟩
        case measure => simp [intOf]; omega
      · go_wp2_with fail
        refine (elemI _ _ sp k (k + 1) (2 + k * 7000000) hI (by omega) (by omega) (by omega)).mono ?_
        rintro e w2 ⟨rfl, hI2, hb2⟩
        replace hb2 := hb.trans hb2
        clear hI hb
        go_wp2_with fail
        refine (opnI _ _ sp (k + 1) (k + 1) (2 + k * 7000000 + 40) true hI2 (by omega) (by omega)).mono ?_
        rintro e w3 ⟨rfl, hI3, hb3⟩
        replace hb3 := hb2.trans hb3
        clear hI2 hb2
        go_wp2_with fail
        go_roundw
        case rel => exact ⟨k + 1, ks, kn, by omega, by omega, by omega, by go_num, by go_num, by go_num, hI3.mono (by omega) (by omega) (by omega), hb3⟩
        case measure => simp [intOf]; omega
      · obtain ⟨bv, ov, cv, key, os, cs, c0, t, F, a1, a2, a3, a4, a5, a6, a7, a8, a9⟩ := hI
        obtain ⟨ao, co, eo⟩ := F.obj.shape
        rw [List.length_map] at eo
        subst eo
        have d1 := F.bd.c1
        by_cases h2 : 1 < os.length
        · have HC : Hid (Calls Try.prog 29 #[.pointer (some ⟨w.heap.size, 0, none⟩)] wr fun e w' => e = .returned (.tuple #[]) ∧ Inv w' w.heap.size sp k (k + 1) (2 + k * 7000000 + 3) ∧ Below w.heap.size wr w') :=
            clsI wr w.heap.size sp k (k + 1) (2 + k * 7000000) _ _ _ _ os cs c0 t F a1 h2 a3 a4 a5 a6 a7 a8 a9 (by omega) (by omega)
          clear F a1 a2 a4 a5 a6 a7 a8 a9
          go_wp2_with fail
          refine HC.out.mono ?_
          rintro e w2 ⟨rfl, hI2, hb2⟩
          replace hb2 := hb.trans hb2
          clear hb HC d1
          go_wp2_with fail
          go_roundw
          case rel => exact ⟨k + 1, ks, kn, by omega, by omega, by omega, by go_num, by go_num, by go_num, hI2.mono (by omega) (by omega) (by omega), hb2⟩
          case measure => simp [intOf]; omega
        · have hI2 : Inv wr w.heap.size sp k (k + 1) (2 + k * 7000000) := ⟨_, _, _, _, os, cs, c0, t, F, a1, a2, a3, a4, a5, a6, a7, a8, a9⟩
          clear F a1 a2 a4 a5 a6 a7 a8 a9
          go_wp2_with fail
          go_roundw
          case rel => exact ⟨k + 1, ks, kn, by omega, by omega, by omega, by go_num, by go_num, by go_num, hI2.mono (by omega) (by omega) (by omega), hb⟩
          case measure => simp [intOf]; omega
      · by_cases hls : ks < strs.length
        · obtain ⟨g2, rfl, hcl0⟩ := HSG.out wr hb ks hls
          have hcl := cell_map hls hcl0
          have hsz := HSS.out strs[ks] (List.getElem_mem hls)
          generalize strs[ks] = s at hcl hsz
          clear hcl0
          have HSZ : Hid (s.size ≤ 1048576) := hsz
          go_wp2_with fail
          refine (elemI _ _ sp k (k + 1) (2 + k * 7000000) hI (by omega) (by omega) (by omega)).mono ?_
          rintro e w2 ⟨rfl, hI2, hb2⟩
          replace hb2 := hb.trans hb2
          obtain ⟨a, n, cap, ov, cv, key, os, cs, c0, t, F, r⟩ := hI2.opened
          have hrl := r.len
          clear hI hb hI2
          have d0 := F.bd.c0
          go_wp2_with fail
          refine (Go.Proofs.Qxb6001000a.quoted.quoted _ (c0 :: t) s _ _ F.buf hsz (by omega)).mono ?_
          rintro e w3 ⟨v3, rfl, hown3, hext3⟩
          have hb3 : True := trivial
          replace hb3 := hb2.trans (F.step0 hext3 hown3).2
          have hm3 := F.mid0 hext3
          have e0 := hm3.c0
          have ef := hm3.fr 0
          have R := (F.step0 hext3 hown3).1
          obtain ⟨a3, n3, cap3, e3⟩ := shape3 hown3
          rw [e3]
          rw [e3] at R hb3
          have hI3 := r.shut R 6291458 (quote_len _ s HSZ.out) (quote_bal _ s)
          clear R hm3 hown3 hext3 F r d0 e3 hb2
          go_wp2_with fail
          go_roundw
          case rel => exact ⟨k + 1, ks + 1, kn, by omega, by omega, by omega, by go_num, by go_num, by go_num, hI3.mono (by omega) (by omega) (by omega), hb3⟩
          case measure => simp [intOf]; omega
        · go_wp2_with fail
          refine (elemI _ _ sp k (k + 1) (2 + k * 7000000) hI (by omega) (by omega) (by omega)).mono ?_
          rintro e w2 ⟨rfl, hI2, hb2⟩
          replace hb2 := hb.trans hb2
          obtain ⟨a, n, cap, ov, cv, key, os, cs, c0, t, F, r⟩ := hI2.opened
          have hrl := r.len
          clear hI hb hI2
          have d0 := F.bd.c0
          go_wp2_with fail
          refine (Go.Proofs.Qxb6001000a.quoted.quoted _ (c0 :: t) ⟨#[]⟩ _ _ F.buf (by decide) (by omega)).mono ?_
          rintro e w3 ⟨v3, rfl, hown3, hext3⟩
          have hb3 : True := trivial
          replace hb3 := hb2.trans (F.step0 hext3 hown3).2
          have hm3 := F.mid0 hext3
          have e0 := hm3.c0
          have ef := hm3.fr 0
          have R := (F.step0 hext3 hown3).1
          obtain ⟨a3, n3, cap3, e3⟩ := shape3 hown3
          rw [e3]
          rw [e3] at R hb3
          have hI3 := r.shut R 6291458 (quote_len _ ⟨#[]⟩ (by decide)) (quote_bal _ ⟨#[]⟩)
          clear R hm3 hown3 hext3 F r d0 e3 hb2
          go_wp2_with fail
          go_roundw
          case rel => exact ⟨k + 1, ks, kn, by omega, by omega, by omega, by go_num, by go_num, by go_num, hI3.mono (by omega) (by omega) (by omega), hb3⟩
          case measure => simp [intOf]; omega
      · by_cases hls : kn < nums.length
        · obtain ⟨g2, rfl, hcl0⟩ := HNG.out wr hb kn hls
          have hcl := cell_map hls hcl0
          obtain ⟨hx0, hx1⟩ := HNN.out nums[kn] (List.getElem_mem hls)
          generalize nums[kn] = x at hcl hx0 hx1
          clear hcl0
          go_wp2_with fail
          refine (elemI _ _ sp k (k + 1) (2 + k * 7000000) hI (by omega) (by omega) (by omega)).mono ?_
          rintro e w2 ⟨rfl, hI2, hb2⟩
          replace hb2 := hb.trans hb2
          obtain ⟨a, n, cap, ov, cv, key, os, cs, c0, t, F, r⟩ := hI2.opened
          have hrl := r.len
          clear hI hb hI2
          have d0 := F.bd.c0
          go_wp2_with fail
          refine (appNumber _ (c0 :: t) _ _ _ _ F.buf ?_ ?_ ?_ ?_ ?_ ?_ (by omega)).mono ?_
          · omega
          · omega
          · omega
          · omega
          · omega
          · omega
          rintro e w3 ⟨v3, ds, rfl, hown3, hdl, hds, hext3⟩
          have HDS : Hid (∀ c ∈ ds, Neutral c) := hds
          clear hds
          have hb3 : True := trivial
          replace hb3 := hb2.trans (F.step0 hext3 hown3).2
          have hm3 := F.mid0 hext3
          have e0 := hm3.c0
          have ef := hm3.fr 0
          have R := (F.step0 hext3 hown3).1
          obtain ⟨a3, n3, cap3, e3⟩ := shape3 hown3
          rw [e3]
          rw [e3] at R hb3
          have hI3 := r.shut R 64 hdl (fun d => Bal.all HDS.out d)
          clear R hm3 hown3 hext3 F r d0 e3 hb2
          go_wp2_with fail
          go_roundw
          case rel => exact ⟨k + 1, ks, kn + 1, by omega, by omega, by omega, by go_num, by go_num, by go_num, hI3.mono (by omega) (by omega) (by omega), hb3⟩
          case measure => simp [intOf]; omega
        · go_wp2_with fail
          refine (elemI _ _ sp k (k + 1) (2 + k * 7000000) hI (by omega) (by omega) (by omega)).mono ?_
          rintro e w2 ⟨rfl, hI2, hb2⟩
          replace hb2 := hb.trans hb2
          obtain ⟨a, n, cap, ov, cv, key, os, cs, c0, t, F, r⟩ := hI2.opened
          have hrl := r.len
          clear hI hb hI2
          have d0 := F.bd.c0
          go_wp2_with fail
          refine (appNumber _ (c0 :: t) _ _ _ _ F.buf ?_ ?_ ?_ ?_ ?_ ?_ (by omega)).mono ?_
          · omega
          · omega
          · omega
          · omega
          · omega
          · omega
          rintro e w3 ⟨v3, ds, rfl, hown3, hdl, hds, hext3⟩
          have HDS : Hid (∀ c ∈ ds, Neutral c) := hds
          clear hds
          have hb3 : True := trivial
          replace hb3 := hb2.trans (F.step0 hext3 hown3).2
          have hm3 := F.mid0 hext3
          have e0 := hm3.c0
          have ef := hm3.fr 0
          have R := (F.step0 hext3 hown3).1
          obtain ⟨a3, n3, cap3, e3⟩ := shape3 hown3
          rw [e3]
          rw [e3] at R hb3
          have hI3 := r.shut R 64 hdl (fun d => Bal.all HDS.out d)
          clear R hm3 hown3 hext3 F r d0 e3 hb2
          go_wp2_with fail
          go_roundw
          case rel => exact ⟨k + 1, ks, kn, by omega, by omega, by omega, by go_num, by go_num, by go_num, hI3.mono (by omega) (by omega) (by omega), hb3⟩
          case measure => simp [intOf]; omega
      · go_wp2_with fail
        refine (elemI _ _ sp k (k + 1) (2 + k * 7000000) hI (by omega) (by omega) (by omega)).mono ?_
        rintro e w2 ⟨rfl, hI2, hb2⟩
        replace hb2 := hb.trans hb2
        obtain ⟨a, n, cap, ov, cv, key, os, cs, c0, t, F, r⟩ := hI2.opened
        have hrl := r.len
        clear hI hb hI2
        have d0 := F.bd.c0
        go_wp2_with fail
        refine (appLiteral _ (c0 :: t) _ _ F.buf ?_ ?_ (by omega)).mono ?_
        · omega
        · omega
        rintro e w3 ⟨v3, ds, rfl, hown3, hdl, hds, hext3⟩
        have HDS : Hid (∀ c ∈ ds, Neutral c) := hds
        clear hds
        have hb3 : True := trivial
        replace hb3 := hb2.trans (F.step0 hext3 hown3).2
        have hm3 := F.mid0 hext3
        have e0 := hm3.c0
        have ef := hm3.fr 0
        have R := (F.step0 hext3 hown3).1
        obtain ⟨a3, n3, cap3, e3⟩ := shape3 hown3
        rw [e3]
        rw [e3] at R hb3
        have hI3 := r.shut R 64 hdl (fun d => Bal.all HDS.out d)
        clear R hm3 hown3 hext3 F r d0 e3 hb2
        go_wp2_with fail
        go_roundw
        case rel => exact ⟨k + 1, ks, kn, by omega, by omega, by omega, by go_num, by go_num, by go_num, hI3.mono (by omega) (by omega) (by omega), hb3⟩
        case measure => simp [intOf]; omega
      · go_wp2_with fail
        refine (elemI _ _ sp k (k + 1) (2 + k * 7000000) hI (by omega) (by omega) (by omega)).mono ?_
        rintro e w2 ⟨rfl, hI2, hb2⟩
        replace hb2 := hb.trans hb2
        obtain ⟨a, n, cap, ov, cv, key, os, cs, c0, t, F, r⟩ := hI2.opened
        have hrl := r.len
        clear hI hb hI2
        have d0 := F.bd.c0
        go_wp2_with fail
        refine (appLiteral _ (c0 :: t) _ _ F.buf ?_ ?_ (by omega)).mono ?_
        · omega
        · omega
        rintro e w3 ⟨v3, ds, rfl, hown3, hdl, hds, hext3⟩
        have HDS : Hid (∀ c ∈ ds, Neutral c) := hds
        clear hds
        have hb3 : True := trivial
        replace hb3 := hb2.trans (F.step0 hext3 hown3).2
        have hm3 := F.mid0 hext3
        have e0 := hm3.c0
        have ef := hm3.fr 0
        have R := (F.step0 hext3 hown3).1
        obtain ⟨a3, n3, cap3, e3⟩ := shape3 hown3
        rw [e3]
        rw [e3] at R hb3
        have hI3 := r.shut R 64 hdl (fun d => Bal.all HDS.out d)
        clear R hm3 hown3 hext3 F r d0 e3 hb2
        go_wp2_with fail
        go_roundw
        case rel => exact ⟨k + 1, ks, kn, by omega, by omega, by omega, by go_num, by go_num, by go_num, hI3.mono (by omega) (by omega) (by omega), hb3⟩
        case measure => simp [intOf]; omega
      · go_wp2_with fail
        refine (elemI _ _ sp k (k + 1) (2 + k * 7000000) hI (by omega) (by omega) (by omega)).mono ?_
        rintro e w2 ⟨rfl, hI2, hb2⟩
        replace hb2 := hb.trans hb2
        obtain ⟨a, n, cap, ov, cv, key, os, cs, c0, t, F, r⟩ := hI2.opened
        have hrl := r.len
        clear hI hb hI2
        have d0 := F.bd.c0
        go_wp2_with fail
        refine (appLiteral _ (c0 :: t) _ _ F.buf ?_ ?_ (by omega)).mono ?_
        · omega
        · omega
        rintro e w3 ⟨v3, ds, rfl, hown3, hdl, hds, hext3⟩
        have HDS : Hid (∀ c ∈ ds, Neutral c) := hds
        clear hds
        have hb3 : True := trivial
        replace hb3 := hb2.trans (F.step0 hext3 hown3).2
        have hm3 := F.mid0 hext3
        have e0 := hm3.c0
        have ef := hm3.fr 0
        have R := (F.step0 hext3 hown3).1
        obtain ⟨a3, n3, cap3, e3⟩ := shape3 hown3
        rw [e3]
        rw [e3] at R hb3
        have hI3 := r.shut R 64 hdl (fun d => Bal.all HDS.out d)
        clear R hm3 hown3 hext3 F r d0 e3 hb2
        go_wp2_with fail
        go_roundw
        case rel => exact ⟨k + 1, ks, kn, by omega, by omega, by omega, by go_num, by go_num, by go_num, hI3.mono (by omega) (by omega) (by omega), hb3⟩
        case measure => simp [intOf]; omega
    · obtain ⟨m, L, hS, hml, hm⟩ : ∃ m L, Shut wr w.heap.size sp m L ∧ L + 3 * m ≤ 7340040000000 ∧ m ≤ 4294967296 := by
        obtain ⟨bv, ov, cv, key, os, cs, c0, t, F, a1, a2, a3, a4, a5, a6, a7, a8, a9⟩ := hI
        exact ⟨os.length, 2 + k * 7000000, ⟨bv, ov, cv, key, os, cs, c0, t, F, a1, rfl, a7, a8, a9⟩, by omega, by omega⟩
      clear hI
      go_wp2_with fail
      go_loopw [] (fun wr => ∃ m L, Shut wr w.heap.size sp m L ∧ L + 3 * m ≤ 7340040000000 ∧ m ≤ 4294967296 ∧ Below w.heap.size w wr) (fun wr => slLen ((wr.cell? ⟨w.heap.size, 1, none⟩).getD undef))
      case atStart => exact ⟨m, L, hS, hml, hm, hb⟩
      case round =>
        clear hS hb hml hm m L hlt hk hks hkn
        obtain ⟨m, L, hS, hml, hm, hb⟩ := hrel
        cases m with
        | zero =>
          obtain ⟨bv, ov, cv, key, os, cs, c0, t, F, a1, a2, a3, a4, a5⟩ := hS
          obtain ⟨ao, co, eo⟩ := F.obj.shape
          rw [List.length_map, a2] at eo
          subst eo
          have d1 := F.bd.c1
          have d0 := F.bd.c0
          have hown := F.buf
          obtain ⟨a, n, cap, e0⟩ := shape3 F.buf
          rw [e0] at d0
          clear F
          go_wp2_with fail
          go_ret
          exact ⟨_, c0, t, rfl, by rw [← e0]; exact hown, a4, a5, by omega, hb⟩
        | succ m =>
          obtain ⟨co, ao, d1⟩ : ∃ co ao, (some (Value.slice ao (m + 1) co)) = wr.cell? ⟨w.heap.size, 1, none⟩ := by
            obtain ⟨bv, ov, cv, key, os, cs, c0, t, F, a1, a2, a3, a4, a5⟩ := hS
            obtain ⟨ao, co, eo⟩ := F.obj.shape
            rw [List.length_map, a2] at eo
            subst eo
            exact ⟨co, ao, F.bd.c1.symm⟩
          replace d1 := d1.symm
          go_wp2_with fail
          refine (clsS _ _ sp m L hS (by omega) (by omega)).mono ?_
          rintro e w2 ⟨rfl, hS2, hb2⟩
          replace hb2 := hb.trans hb2
          obtain ⟨co2, ao2, d2⟩ : ∃ co ao, w2.cell? ⟨w.heap.size, 1, none⟩ = (some (Value.slice ao m co)) := by
            obtain ⟨bv, ov, cv, key, os, cs, c0, t, F, a1, a2, a3, a4, a5⟩ := hS2
            obtain ⟨ao, co, eo⟩ := F.obj.shape
            rw [List.length_map, a2] at eo
            subst eo
            exact ⟨co, ao, F.bd.c1⟩
          clear hS hb
          go_wp2_with fail
          go_roundw
          case rel => exact ⟨m, L + 3, hS2, by omega, by omega, hb2⟩
          case measure => rw [d1, d2]; simp [slLen]
end Go.Proofs.Qxb6001000a.build
