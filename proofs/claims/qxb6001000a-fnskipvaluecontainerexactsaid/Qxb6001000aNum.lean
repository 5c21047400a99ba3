/-
  appendUint_b1, appendInt_b1, appendNumber_b1, appendLiteral_b1, walked.
-/
import Derived.Test.Qxb6001000aOwn2
import Derived.Test.Qxb6001000aPlain2
namespace Go.Proofs.Qxb6001000a.num
open Go.ChangeShapes Go.WideShapes Go.ChangeAt Go.RowKit
open Go.Proofs.Qxb6001000a.base Go.Proofs.Qxb6001000a.own Go.Proofs.Qxb6001000a.own2 Go.Proofs.Qxb6001000a.plain Go.Proofs.Qxb6001000a.space

/-- an append onto a row of bytes, from whatever source, as a law for the walk -/
theorem wpList_appS {w : World} {ops : Array Oper} {rest : List Oper} {o : Oper} {a : Act} {Q : Exit → Act → World → Prop} (hgd : o.guard = none) (s x : Operand) (tx : TypeId)
    (ho : o.op = .call { callee := .builtin .append, args := #[s, x], argTypes := #[22, tx] }) (v : Value) (bs : List Int) (hs : a.eval s = v) (hown : Own w v bs)
    (xv : Value) (ns : List Int) (hx : a.eval x = xv) (hsrc : Src Try.prog 1 tx xv ns.length (ns.map (Value.int .u8)) w) (hn : 0 < ns.length) (hbd : bs.length + ns.length ≤ 140737488355328)
    (h : ∀ v' w', Own w' v' (bs ++ ns) → Ext v w v' w' → wpList Try.prog ops Q rest (a.put o.dst v') w') : wpList Try.prog ops Q (o :: rest) a w := by
  refine wpList_plain hgd fun K hK => ?_
  obtain ⟨i0, hi, hz0, hz1, hz2⟩ := info_parts info5
  obtain ⟨v', w', hr, h1, h2⟩ := run_appR (ty := o.type) Try.underlying22 hi hz0 hz1 hz2 rfl w v _ ((own_iff w v bs).1 hown) xv ns.length _ hsrc hn (by rw [List.length_map]; omega) (by rw [List.length_map]; omega)
  rw [← List.map_append] at h1
  unfold Oper.wp execOp
  simp only [ho, resolve, invoke, builtin, Sem.run_bind, Sem.run_pure, Result.andThen_ok, List.map_toArray, List.map_cons, List.map_nil, hs, hx]
  rw [hr]
  exact hK _ _ (h v' w' ((own_iff w' v' _).2 h1) h2)

/-- the array of digits: its last places, from m on, hold ds -/
def Tmp (w : World) (tb m : Nat) (ds : List Int) : Prop :=
  ∃ cur : Array Value, w.heap[tb]? = some (.cells cur 59 (0, 0)) ∧ cur.size = 20 ∧ m + ds.length = 20 ∧ cur.toList.drop m = ds.map (Value.int .u8)
theorem Tmp.cell {w : World} {tb m : Nat} {ds : List Int} (h : Tmp w tb m ds) (k : Nat) (hk : k < 20) : (∃ u, w.cell? ⟨tb, k, none⟩ = some u) ∧ w.frozen? ⟨tb, k, none⟩ = false := by
  obtain ⟨cur, h1, h2, _⟩ := h
  exact ⟨⟨cur[k], by simp [World.cell?, h1, h2, hk]⟩, by simp [World.frozen?, h1]⟩
theorem Tmp.set {w : World} {tb m : Nat} {ds : List Int} (h : Tmp w tb (m + 1) ds) (c : Int) : Tmp (w.setCell ⟨tb, m, none⟩ (.int .u8 c)) tb m (c :: ds) := by
  obtain ⟨cur, h1, h2, h3, h4⟩ := h
  refine ⟨cur.setIfInBounds m (.int .u8 c), heap_setCell_same w tb m cur 59 _ h1, by simpa using h2, by simp; omega, ?_⟩
  rw [Array.toList_setIfInBounds, List.drop_eq_getElem_cons (by simp; omega)]
  simp only [List.getElem_set_self, List.map_cons]
  rw [List.drop_set_of_lt (by omega), h4]
theorem Tmp.src {w : World} {tb m : Nat} {ds : List Int} (h : Tmp w tb m ds) (c : Nat) : Src Try.prog 1 22 (.slice (some ⟨tb, m, none⟩) ds.length c) ds.length (ds.map (Value.int .u8)) w := by
  obtain ⟨cur, h1, h2, h3, h4⟩ := h
  refine Src.ofSlice w Try.underlying22 ⟨tb, m, none⟩ ds.length c _ (by simp) (fun j u hu => ?_) (ints_oneCell _ _)
  have hadd : (⟨tb, m, none⟩ : Addr).add j = ⟨tb, m + j, none⟩ := by unfold Addr.add; split <;> simp_all
  rw [hadd, cell_of_row w tb (m + j) cur 59 (0, 0) h1]
  rw [← h4, List.getElem?_drop] at hu
  simpa using hu
theorem ten_pow (m : Nat) (u : Int) (h : u < 10 ^ (m + 1)) : u / 10 < 10 ^ m := by
  rw [Int.pow_succ] at h
  omega
theorem ten_start (u : Int) (h : u < 18446744073709551616) : u < 10 ^ (19 + 1) := by
  have e : (10 : Int) ^ (19 + 1) = 100000000000000000000 := by decide +kernel
  rw [e]
  omega
theorem but_own {w w' : World} {o : Obj} {v : Value} {bs : List Int} (h : Own w v bs) (hb : But w.heap.size (w.alloc o) w') : Own w' v bs := by
  refine h.same fun k hk => ?_
  have hlt := h.lt k hk
  rw [hb.block k (by omega), Below.heap_alloc w o k hlt]
theorem but_ext {w w1 w2 : World} {o : Obj} {v v' : Value} (hb : But w.heap.size (w.alloc o) w1) (h : Ext v w1 v' w2) : Ext v w v' w2 := by
  have hs : w.heap.size ≤ w1.heap.size := by rw [hb.size]; simp
  refine ⟨⟨h.grown.os.trans hb.os, h.grown.tape.trans hb.tape, h.grown.output.trans hb.output, Nat.le_trans hs h.grown.size, fun k hk hne => ?_⟩, ?_⟩
  · rw [h.grown.block k (by omega) hne, hb.block k (by omega), Below.heap_alloc w o k hk]
  · rcases h.own with e | e
    · exact .inl e
    · exact .inr fun k hk => Nat.le_trans hs (e k hk)

theorem arr59 : Try.prog.arrayLen 59 = 20 := by kernel_rfl
theorem elem59 : Try.prog.elem 59 = 5 := by kernel_rfl
theorem run_size5 (w : World) : (sizeOf 5).run Try.prog w = .ok 1 w := by kernel_rfl
theorem slice59 (tb m : Nat) (hm : m < 20) (w : World) :
    (Instr.sliceAt 59 (.pointer (some ⟨tb, 0, none⟩)) (some (.int .i64 (m : Int))) none none).run Try.prog w = .ok (.slice (some ⟨tb, m, none⟩) (20 - m) (20 - m)) w := by
  rw [run_sliceAt_array_l (P := Try.prog) w 59 ⟨tb, 0, none⟩ Try.underlying59 .i64 (m : Int) (by omega) (by rw [arr59]; omega), elem59, arr59, run_size5]
  have h20 : ¬ (20 = m) := by omega
  simp [slicedAt, Addr.add, h20]
  omega

set_option maxRecDepth 100000 in
set_option maxHeartbeats 1000000 in
theorem appUint (v : Value) (bs : List Int) (u : Int) (w : World) (hown : Own w v bs) (hu0 : 0 ≤ u) (hu1 : u < 18446744073709551616) (hb : bs.length ≤ 70368744177664) :
    Calls Try.prog 34 #[v, .int .u64 u] w fun e w' => ∃ v' ds, e = .returned v' ∧ Own w' v' (bs ++ ds) ∧ ds.length ≤ 20 ∧ (∀ c ∈ ds, 48 ≤ c ∧ c ≤ 57) ∧ Ext v w v' w' := by
  go_enter Try.func34, Try.ntmps34
  go_wp2_with fail
  generalize hO : Obj.cells #[Value.int IntKind.u8 0, Value.int IntKind.u8 0, Value.int IntKind.u8 0, Value.int IntKind.u8 0, Value.int IntKind.u8 0, Value.int IntKind.u8 0, Value.int IntKind.u8 0, Value.int IntKind.u8 0, Value.int IntKind.u8 0, Value.int IntKind.u8 0, Value.int IntKind.u8 0, Value.int IntKind.u8 0, Value.int IntKind.u8 0, Value.int IntKind.u8 0, Value.int IntKind.u8 0, Value.int IntKind.u8 0, Value.int IntKind.u8 0, Value.int IntKind.u8 0, Value.int IntKind.u8 0, Value.int IntKind.u8 0] 59 = O
  have hT : Tmp (w.alloc O) w.heap.size 20 [] := by
    rw [← hO]
    exact ⟨_, heap_alloc_new w _, rfl, rfl, rfl⟩
  clear hO
  go_loopw [1, 6] (fun q i wr => ∃ (m : Nat) (x : Int) (ds : List Int), m < 20 ∧ 0 ≤ x ∧ x < 18446744073709551616 ∧ Hid (x < 10 ^ (m + 1)) ∧ q = .int .u64 x ∧ i = .int .i64 ((m : Int) + 1) ∧ Tmp wr w.heap.size (m + 1) ds ∧ Hid (∀ c ∈ ds, 48 ≤ c ∧ c ≤ 57) ∧ But w.heap.size (w.alloc O) wr) (fun _ i _ => (intOf i).toNat)
  case atStart => exact ⟨19, u, [], by omega, hu0, hu1, ten_start u hu1, rfl, rfl, hT, (fun c hc => by cases hc), But.refl _ _⟩
  case round =>
    clear hT
    obtain ⟨m, x, ds, hm, hx0, hx1, hxp, rfl, rfl, hT, hds, hbut⟩ := hrel
    obtain ⟨⟨old, c0⟩, f0⟩ := hT.cell m hm
    have hnext : x / 10 < 10 ^ m := ten_pow m x hxp.out
    have HNX : Hid (x / 10 < 10 ^ m) := hnext
    clear hnext hxp
    have hT2 := hT.set (48 + x % 10)
    have hds2 : Hid (∀ c ∈ (48 + x % 10) :: ds, 48 ≤ c ∧ c ≤ 57) := by
      intro c hc
      rcases List.mem_cons.1 hc with rfl | hc
      · omega
      · exact hds.out c hc
    have hbut2 := hbut.set m (.int .u8 (48 + x % 10))
    obtain ⟨ds2, hds2e⟩ : ∃ ds2, (48 + x % 10) :: ds = ds2 := ⟨_, rfl⟩
    rw [hds2e] at hT2 hds2
    clear hds2e hT hds hbut
    by_cases h0 : x / 10 = 0
    · have hq : (x / 10 == 0) = true := beq_iff_eq.2 h0
      have hsl := slice59 w.heap.size m hm
      have hown2 := but_own hown hbut2
      have hlen : m + ds2.length = 20 := by obtain ⟨_, _, _, h, _⟩ := hT2; exact h
      have HLEN : Hid (20 - m = ds2.length) := (show 20 - m = ds2.length by omega)
      rw [HLEN.out] at hsl
      have hdl : 0 < ds2.length := by omega
      have hdl2 : ds2.length ≤ 20 := by omega
      clear h0 hlen hown
      go_wp2_with (at_builtin; refine wpList_appS rfl (.tmp 19) (.tmp 21) 22 rfl v bs rfl hown2 _ ds2 rfl (hT2.src _) hdl (by omega) ?_)
      intro v2 w2 hown3 hext
      have hext2 := but_ext hbut2 hext
      clear hext hown2 hT2 hbut2
      go_wp2_with fail
      go_ret
      exact ⟨v2, ds2, rfl, hown3, hdl2, hds2.out, hext2⟩
    · have hq : (x / 10 == 0) = false := beq_eq_false_iff_ne.2 h0
      have hm1 : 1 ≤ m := by
        cases m with
        | zero => have := HNX.out; simp at this; omega
        | succ m => omega
      obtain ⟨m', rfl⟩ : ∃ m', m = m' + 1 := ⟨m - 1, by omega⟩
      have HX : Hid (x / 10 < 10 ^ (m' + 1)) := HNX.out
      clear HNX h0
      go_wp2_with fail
      go_roundw
      case rel => exact ⟨m', x / 10, ds2, by omega, by omega, by omega, HX, rfl, by go_num, hT2, hds2, hbut2⟩
      case measure => simp [intOf]; omega

theorem neutral_digits {ds : List Int} (h : ∀ c ∈ ds, 48 ≤ c ∧ c ≤ 57) : ∀ c ∈ ds, Neutral c := by
  intro c hc
  have := h c hc
  refine ⟨?_, ?_, ?_, ?_, ?_⟩ <;> omega

set_option maxRecDepth 100000 in
set_option maxHeartbeats 1000000 in
theorem appInt (v : Value) (bs : List Int) (n : Int) (w : World) (hown : Own w v bs) (hn0 : -9223372036854775808 ≤ n) (hn1 : n ≤ 9223372036854775807) (hb : bs.length ≤ 35184372088832) :
    Calls Try.prog 35 #[v, .int .i64 n] w fun e w' => ∃ v' ds, e = .returned v' ∧ Own w' v' (bs ++ ds) ∧ ds.length ≤ 21 ∧ (∀ c ∈ ds, Neutral c) ∧ Ext v w v' w' := by
  by_cases hneg : n < 0
  · go_enter Try.func35, Try.ntmps35
    go_wp2_with (at_builtin; refine wpList_app rfl (.tmp 7) (.tmp 8) rfl rfl v bs rfl (hown.alloc _) _ [45] rfl (isB_lit w [45] (by unfold maxLen; simp)) (by simp only [List.length_cons, List.length_nil]; omega) ?_)
    intro v1 w1 hown1 hext1
    replace hext1 := hext1.alloc
    clear hown
    go_wp2_with fail
    refine (appUint v1 (bs ++ [45]) _ _ hown1 ?_ ?_ (by simp only [List.length_append, List.length_cons, List.length_nil]; omega)).mono ?_
    · omega
    · omega
    rintro e w2 ⟨v2, ds, rfl, hown2, hdl, hds, hext2⟩
    have hext := hext1.trans hext2
    have HDS : Hid (∀ c ∈ ds, 48 ≤ c ∧ c ≤ 57) := hds
    clear hext1 hext2 hown1 hds
    go_wp2_with fail
    go_ret
    refine ⟨v2, 45 :: ds, rfl, hown2.cast (by simp), by simp only [List.length_cons]; omega, ?_, hext⟩
    intro c hc
    rcases List.mem_cons.1 hc with rfl | hc
    · refine ⟨?_, ?_, ?_, ?_, ?_⟩ <;> omega
    · exact neutral_digits HDS.out c hc
  · go_enter Try.func35, Try.ntmps35
    go_wp2_with fail
    refine (appUint v bs _ _ hown ?_ ?_ (by omega)).mono ?_
    · omega
    · omega
    rintro e w2 ⟨v2, ds, rfl, hown2, hdl, hds, hext2⟩
    have HDS : Hid (∀ c ∈ ds, 48 ≤ c ∧ c ≤ 57) := hds
    clear hown hds
    go_wp2_with fail
    go_ret
    exact ⟨v2, ds, rfl, hown2, by omega, neutral_digits HDS.out, hext2⟩

theorem neutral_cons {c : Int} {l : List Int} (hc : Neutral c) (h : ∀ x ∈ l, Neutral x) : ∀ x ∈ c :: l, Neutral x := by
  intro x hx
  rcases List.mem_cons.1 hx with rfl | hx
  · exact hc
  · exact h x hx
theorem neutral_append {l m : List Int} (h : ∀ x ∈ l, Neutral x) (k : ∀ x ∈ m, Neutral x) : ∀ x ∈ l ++ m, Neutral x := by
  intro x hx
  rcases List.mem_append.1 hx with hx | hx
  · exact h x hx
  · exact k x hx


set_option maxRecDepth 100000 in
set_option maxHeartbeats 2000000 in
theorem appNumber (v : Value) (bs : List Int) (n fr ex : Int) (w : World) (hown : Own w v bs) (hn0 : -9223372036854775808 ≤ n) (hn1 : n ≤ 9223372036854775807) (hf0 : 0 ≤ fr) (hf1 : fr ≤ 255) (he0 : -128 ≤ ex) (he1 : ex ≤ 127) (hb : bs.length ≤ 17592186044416) :
    Calls Try.prog 30 #[v, .int .i64 n, .int .u8 fr, .int .i8 ex] w fun e w' => ∃ v' ds, e = .returned v' ∧ Own w' v' (bs ++ ds) ∧ ds.length ≤ 64 ∧ (∀ c ∈ ds, Neutral c) ∧ Ext v w v' w' := by
  go_enter Try.func30, Try.ntmps30
  go_wp2_with fail
  refine (appInt v bs _ _ hown hn0 hn1 (by omega)).mono ?_
  rintro e w1 ⟨v1, d1, rfl, hown1, hdl1, hds1, hext1⟩
  have HD1 : Hid (∀ c ∈ d1, Neutral c) := hds1
  clear hown hds1
  cases hq : fr != 0
  · cases hq2 : ex != 0
    · go_wp2_with fail
      go_ret
      exact ⟨v1, d1, rfl, hown1, by omega, HD1.out, hext1⟩
    · go_wp2_with (at_builtin; refine wpList_app rfl (.tmp 23) (.tmp 24) rfl rfl v1 (bs ++ d1) rfl (hown1.alloc _) _ [101] rfl (isB_lit w1 [101] (by unfold maxLen; simp)) (by simp only [List.length_append, List.length_cons, List.length_nil]; omega) ?_)
      intro v2 w2 hown2 hext2
      replace hext2 := hext1.trans hext2.alloc
      clear hown1 hext1
      go_wp2_with fail
      refine (appInt v2 (bs ++ d1 ++ [101]) _ _ (hown2.cast (by simp)) ?_ ?_ (by simp only [List.length_append, List.length_cons, List.length_nil]; omega)).mono ?_
      · omega
      · omega
      rintro e w3 ⟨v3, d3, rfl, hown3, hdl3, hds3, hext3⟩
      have HD3 : Hid (∀ c ∈ d3, Neutral c) := hds3
      replace hext3 := hext2.trans hext3
      clear hown2 hext2 hds3
      go_wp2_with fail
      go_ret
      exact ⟨v3, d1 ++ 101 :: d3, rfl, hown3.cast (by simp), by simp only [List.length_append, List.length_cons]; omega, neutral_append HD1.out (neutral_cons (by refine ⟨?_, ?_, ?_, ?_, ?_⟩ <;> omega) HD3.out), hext3⟩
  · go_wp2_with (at_builtin; refine wpList_app rfl (.tmp 14) (.tmp 15) rfl rfl v1 (bs ++ d1) rfl (hown1.alloc _) _ [46] rfl (isB_lit w1 [46] (by unfold maxLen; simp)) (by simp only [List.length_append, List.length_cons, List.length_nil]; omega) ?_)
    intro v2 w2 hown2 hext2
    replace hext2 := hext1.trans hext2.alloc
    clear hown1 hext1
    go_wp2_with fail
    refine (appUint v2 (bs ++ d1 ++ [46]) _ _ (hown2.cast (by simp)) ?_ ?_ (by simp only [List.length_append, List.length_cons, List.length_nil]; omega)).mono ?_
    · omega
    · omega
    rintro e w3 ⟨v3, d3, rfl, hown3, hdl3, hds3, hext3⟩
    have HD3 : Hid (∀ c ∈ d3, Neutral c) := neutral_digits hds3
    replace hext3 := hext2.trans hext3
    clear hown2 hext2 hds3
    cases hq2 : ex != 0
    · go_wp2_with fail
      go_ret
      exact ⟨v3, d1 ++ 46 :: d3, rfl, hown3.cast (by simp), by simp only [List.length_append, List.length_cons]; omega, neutral_append HD1.out (neutral_cons (by refine ⟨?_, ?_, ?_, ?_, ?_⟩ <;> omega) HD3.out), hext3⟩
    · obtain ⟨B3, hB3⟩ : ∃ B3, bs ++ d1 ++ [46] ++ d3 = B3 := ⟨_, rfl⟩
      have hB3l : B3.length ≤ 17592186044416 + 42 := by rw [← hB3]; simp only [List.length_append, List.length_cons, List.length_nil]; omega
      rw [hB3] at hown3
      have HB3 : Hid (bs ++ d1 ++ [46] ++ d3 = B3) := hB3
      clear hB3
      go_wp2_with (at_builtin; refine wpList_app rfl (.tmp 23) (.tmp 24) rfl rfl v3 B3 rfl (hown3.alloc _) _ [101] rfl (isB_lit w3 [101] (by unfold maxLen; simp)) (by simp only [List.length_cons, List.length_nil]; omega) ?_)
      intro v4 w4 hown4 hext4
      replace hext4 := hext3.trans hext4.alloc
      clear hown3 hext3
      go_wp2_with fail
      refine (appInt v4 (B3 ++ [101]) _ _ hown4 ?_ ?_ (by simp only [List.length_append, List.length_cons, List.length_nil]; omega)).mono ?_
      · omega
      · omega
      rintro e w5 ⟨v5, d5, rfl, hown5, hdl5, hds5, hext5⟩
      have HD5 : Hid (∀ c ∈ d5, Neutral c) := hds5
      replace hext5 := hext4.trans hext5
      clear hown4 hext4 hds5
      go_wp2_with fail
      go_ret
      exact ⟨v5, d1 ++ 46 :: (d3 ++ 101 :: d5), rfl, hown5.cast (by rw [← HB3.out]; simp), by simp only [List.length_append, List.length_cons]; omega, neutral_append HD1.out (neutral_cons (by refine ⟨?_, ?_, ?_, ?_, ?_⟩ <;> omega) (neutral_append HD3.out (neutral_cons (by refine ⟨?_, ?_, ?_, ?_, ?_⟩ <;> omega) HD5.out))), hext5⟩

theorem lit_neutral (l : List Int) (h : l.all (fun c => c != 34 && c != 123 && c != 91 && c != 125 && c != 93) = true) : ∀ c ∈ l, Neutral c := by
  intro c hc
  have := List.all_eq_true.1 h c hc
  simp only [Bool.and_eq_true, bne_iff_ne, ne_eq] at this
  obtain ⟨⟨⟨⟨h1, h2⟩, h3⟩, h4⟩, h5⟩ := this
  exact ⟨h1, h2, h3, h4, h5⟩
theorem srcStr (w : World) (l : List UInt8) : Src Try.prog 1 9 (.string ⟨l.toArray⟩) (l.map fun b => (b.toNat : Int)).length ((l.map fun b => (b.toNat : Int)).map (Value.int .u8)) w := by
  have := Src.ofString (P := Try.prog) w Try.underlying9 ⟨l.toArray⟩
  have e1 : (⟨l.toArray⟩ : ByteArray).size = (l.map fun b => (b.toNat : Int)).length := by rw [List.length_map]; rfl
  have e2 : byteCells ⟨l.toArray⟩ = (l.map fun b => (b.toNat : Int)).map (Value.int .u8) := by
    unfold byteCells
    rw [List.map_map]
    rfl
  rw [e1, e2] at this
  exact this

set_option maxRecDepth 100000 in
set_option maxHeartbeats 1000000 in
theorem appLiteral (v : Value) (bs : List Int) (x : Int) (w : World) (hown : Own w v bs) (h0 : 0 ≤ x) (h1 : x ≤ 255) (hb : bs.length ≤ 17592186044416) :
    Calls Try.prog 31 #[v, .int .u8 x] w fun e w' => ∃ v' ds, e = .returned v' ∧ Own w' v' (bs ++ ds) ∧ ds.length ≤ 64 ∧ (∀ c ∈ ds, Neutral c) ∧ Ext v w v' w' := by
  cases q0 : x % 3 == 0
  · cases q1 : x % 3 == 1
    · go_enter Try.func31, Try.ntmps31
      go_wp2_with (at_builtin; refine wpList_appS rfl (.tmp 7) _ 9 rfl v bs rfl hown _ [110, 117, 108, 108] rfl (srcStr w [110, 117, 108, 108]) (by decide) (by simp only [List.length_cons, List.length_nil]; omega) ?_)
      intro v2 w2 hown2 hext2
      clear hown
      go_wp2_with fail
      go_ret
      exact ⟨v2, _, rfl, hown2, by simp, lit_neutral _ (by decide), hext2⟩
    · go_enter Try.func31, Try.ntmps31
      go_wp2_with (at_builtin; refine wpList_appS rfl (.tmp 15) _ 9 rfl v bs rfl hown _ [102, 97, 108, 115, 101] rfl (srcStr w [102, 97, 108, 115, 101]) (by decide) (by simp only [List.length_cons, List.length_nil]; omega) ?_)
      intro v2 w2 hown2 hext2
      clear hown
      go_wp2_with fail
      go_ret
      exact ⟨v2, _, rfl, hown2, by simp, lit_neutral _ (by decide), hext2⟩
  · go_enter Try.func31, Try.ntmps31
    go_wp2_with (at_builtin; refine wpList_appS rfl (.tmp 11) _ 9 rfl v bs rfl hown _ [116, 114, 117, 101] rfl (srcStr w [116, 114, 117, 101]) (by decide) (by simp only [List.length_cons, List.length_nil]; omega) ?_)
    intro v2 w2 hown2 hext2
    clear hown
    go_wp2_with fail
    go_ret
    exact ⟨v2, _, rfl, hown2, by simp, lit_neutral _ (by decide), hext2⟩
end Go.Proofs.Qxb6001000a.num
