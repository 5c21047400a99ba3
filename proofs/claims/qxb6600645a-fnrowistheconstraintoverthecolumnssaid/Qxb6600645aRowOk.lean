/-
  The gate zzZ1b1RowOK, walked.
-/
import Derived.Test.Qxb6600645aGate
namespace Go.Proofs.Qxb6600645a.rowok
open Go.ChangeShapes Go.WideShapes Go.ChangeAt Go.RowKit
open Go.Proofs.Qxb6600645a.base Go.Proofs.Qxb6600645a.gate

/-- literal k is one of the n variables, its weight is small -/
def LitOk (lits : List Int) (o : Option (List Int)) (n k : Nat) : Prop := lits.getD k 0 ≠ 0 ∧ -(n : Int) < lits.getD k 0 ∧ lits.getD k 0 < n ∧ -34359738368 ≤ wt o k ∧ wt o k ≤ 34359738368
structure Ok (l1 : Nat) (col lits : List Int) (o : Option (List Int)) (at' : Int) (n : Nat) : Prop where
  eqU : l1 = n
  eqC : col.length = n
  at0 : -1099511627776 ≤ at'
  at1 : at' ≤ 1099511627776
  wlen : ∀ ws, o = some ws → lits.length ≤ ws.length
  lit : ∀ k, k < lits.length → LitOk lits o n k
  top : ∀ v, v < n → col.getD v 0 ≤ 65536
set_option linter.unusedVariables false
def Upto (p : Nat → Prop) (k : Nat) : Prop := ∀ j, j < k → p j
theorem Upto.succ {p : Nat → Prop} {k : Nat} (h : Upto p k) (hk : p k) : Upto p (k + 1) := by
  intro j hj
  by_cases e : j = k
  · rw [e]; exact hk
  · exact h j (by omega)

set_option maxRecDepth 100000 in
set_option maxHeartbeats 4000000 in
theorem rowOkC (a0 : Option Addr) (n c0 : Nat) (a1 : Option Addr) (l1 c1 : Nat) (cv lv wv : Value) (col lits : List Int) (o : Option (List Int)) (at' : Int) (w : World)
    (hc : Nums w cv .i64 col) (hl : Nums w lv .i64 lits) (hw : WOk w wv o) (bn : n ≤ 1048576) (b1 : l1 ≤ 1048576) (bc : col.length ≤ 1048576) (bl : lits.length ≤ 1048576) (bw : ∀ ws, o = some ws → ws.length ≤ 1048576)  :
    Calls Try.prog 44 #[.slice a0 n c0, .slice a1 l1 c1, cv, lv, wv, .int .i64 at'] w fun e w' => w' = w ∧ YesIf e (Ok l1 col lits o at' n) := by
  have q := fun (w : World) (a : Option Addr) (n c n' c' : Nat) => run_neq_slice_nil_any (P := Try.prog) w 23 3 a n c n' c' Try.underlying23
  obtain ⟨ac, cc, rfl⟩ := hc.shape
  obtain ⟨al, cl, rfl⟩ := hl.shape
  have HC : Hid (Nums w (.slice ac col.length cc) .i64 col) := hc
  have HL : Hid (Nums w (.slice al lits.length cl) .i64 lits) := hl
  clear hc hl
  by_cases h1 : l1 = n
  · have d1 : ((l1 : Int) != (n : Int)) = false := by simp [h1]
    by_cases h2 : col.length = n
    · have d2 : ((col.length : Int) != (n : Int)) = false := by simp [h2]
      by_cases h3 : -1099511627776 ≤ at' ∧ at' ≤ 1099511627776
      · have hby : (decide ((1099511627776 : Int) < at') || decide (at' < -1099511627776)) = false := by simp; omega
        have H1 : Hid (l1 = n) := h1
        have H2 : Hid (col.length = n) := h2
        clear h1 h2
        cases o with
        | none =>
          obtain rfl : wv = _ := hw
          go_enter Try.func44, Try.ntmps44
          go_wp2_with fail
          refine (beyondC at' 1099511627776 _ (by omega) (by omega)).mono ?_
          rintro e w' ⟨rfl, rfl⟩
          rw [hby]
          go_wp2_with fail
          go_loop [14] (fun i => ∃ k : Nat, k ≤ lits.length ∧ i = .int .i64 k ∧ Upto (LitOk lits none n) k) (fun i => lits.length - (intOf i).toNat)
          case atStart => exact ⟨0, by omega, rfl, fun j hj => by omega⟩
          case round =>
            obtain ⟨k, hk, rfl, hU⟩ := hrel
            by_cases hlt : k < lits.length
            · obtain ⟨bb, off, rfl, hcell⟩ := HL.out.get k hlt
              obtain ⟨l, hx⟩ : ∃ l, lits.getD k 0 = l := ⟨_, rfl⟩
              rw [hx] at hcell
              have HX : Hid (lits.getD k 0 = l) := hx
              clear hx
              by_cases z0 : l = 0
              · have y0 : (l == 0) = true := beq_iff_eq.2 z0
                subst z0
                go_wp2_with fail
                go_ret
                exact ⟨rfl, false, rfl, fun h => by cases h⟩
              have y0 : (l == 0) = false := beq_eq_false_iff_ne.2 z0
              by_cases z1 : (n : Int) ≤ l
              · have y1 : decide ((n : Int) ≤ l) = true := decide_eq_true z1
                go_wp2_with fail
                go_ret
                exact ⟨rfl, false, rfl, fun h => by cases h⟩
              have y1 : decide ((n : Int) ≤ l) = false := decide_eq_false z1
              by_cases z2 : l ≤ -(n : Int)
              · have y2 : decide (l ≤ -(n : Int)) = true := decide_eq_true z2
                go_wp2_with fail
                go_ret
                exact ⟨rfl, false, rfl, fun h => by cases h⟩
              have y2 : decide (l ≤ -(n : Int)) = false := decide_eq_false z2
              have hU2 : Upto (LitOk lits none n) (k + 1) := hU.succ ⟨by rw [HX.out]; omega, by rw [HX.out]; omega, by rw [HX.out]; omega, by show _ ≤ (1 : Int); omega, by show (1 : Int) ≤ _; omega⟩
              go_wp2_with fail
              go_round
              case rel => exact ⟨k + 1, by omega, by go_num, hU2⟩
              case measure => simp [intOf]; omega
            · have HK : Hid (∀ k, k < lits.length → LitOk lits none n k) := fun k' hk' => hU k' (by omega)
              go_wp2_with fail
              go_loop [16] (fun i => ∃ v : Nat, v ≤ n ∧ i = .int .i64 v ∧ Upto (fun v => col.getD v 0 ≤ 65536) v) (fun i => n - (intOf i).toNat)
              case atStart => exact ⟨0, by omega, rfl, fun j hj => by omega⟩
              case round =>
                obtain ⟨v, hv, rfl, hU⟩ := hrel
                by_cases hlt2 : v < n
                · obtain ⟨bb, off, rfl, hcell⟩ := HC.out.get v (by rw [H2.out]; exact hlt2)
                  have hvc : v < col.length := by rw [H2.out]; exact hlt2
                  obtain ⟨x, hx⟩ : ∃ x, col.getD v 0 = x := ⟨_, rfl⟩
                  rw [hx] at hcell
                  have HX : Hid (col.getD v 0 = x) := hx
                  clear hx
                  by_cases hbig : 65536 < x
                  · go_wp2_with fail
                    go_ret
                    exact ⟨rfl, false, rfl, fun h => by cases h⟩
                  · have hU2 : Upto (fun v => col.getD v 0 ≤ 65536) (v + 1) := hU.succ (by rw [HX.out]; omega)
                    go_wp2_with fail
                    go_round
                    case rel => exact ⟨v + 1, by omega, by go_num, hU2⟩
                    case measure => simp [intOf]; omega
                · have HF : Hid (Ok l1 col lits none at' n) := ⟨H1.out, H2.out, h3.1, h3.2, (fun ws' e => by cases e), HK.out, fun v' hv' => hU v' (by omega)⟩
                  go_wp2_with fail
                  go_ret
                  exact ⟨rfl, true, rfl, fun _ => HF.out⟩
        | some ws =>
          have hbw := bw ws rfl
          clear bw
          obtain ⟨hwn, x0, nx, cx, ex⟩ := hw
          obtain ⟨aw, cw, ew⟩ := hwn.shape
          rw [ew] at ex hwn
          injection ex with e1 e2 e3
          clear e2 e3
          subst e1
          subst ew
          have hw : Nums w (.slice (some x0) ws.length cw) .i64 ws ∧ True := ⟨hwn, trivial⟩
          clear hwn
          by_cases hlw : ws.length < lits.length
          · go_enter Try.func44, Try.ntmps44
            go_wp2_with fail
            refine (beyondC at' 1099511627776 _ (by omega) (by omega)).mono ?_
            rintro e w' ⟨rfl, rfl⟩
            rw [hby]
            go_wp2_with fail
            go_ret
            exact ⟨rfl, false, rfl, fun h => by cases h⟩
          have dl1 : decide (ws.length < lits.length) = false := by simp; omega
          have dl2 : decide ((ws.length : Int) < (lits.length : Int)) = false := by simp; omega
          go_enter Try.func44, Try.ntmps44
          go_wp2_with fail
          refine (beyondC at' 1099511627776 _ (by omega) (by omega)).mono ?_
          rintro e w' ⟨rfl, rfl⟩
          rw [hby]
          go_wp2_with fail
          go_loop [14] (fun i => ∃ k : Nat, k ≤ lits.length ∧ i = .int .i64 k ∧ Upto (LitOk lits (some ws) n) k) (fun i => lits.length - (intOf i).toNat)
          case atStart => exact ⟨0, by omega, rfl, fun j hj => by omega⟩
          case round =>
            obtain ⟨k, hk, rfl, hU⟩ := hrel
            by_cases hlt : k < lits.length
            · obtain ⟨bb, off, rfl, hcell⟩ := HL.out.get k hlt
              obtain ⟨l, hx⟩ : ∃ l, lits.getD k 0 = l := ⟨_, rfl⟩
              rw [hx] at hcell
              have HX : Hid (lits.getD k 0 = l) := hx
              clear hx
              by_cases z0 : l = 0
              · have y0 : (l == 0) = true := beq_iff_eq.2 z0
                subst z0
                go_wp2_with fail
                go_ret
                exact ⟨rfl, false, rfl, fun h => by cases h⟩
              have y0 : (l == 0) = false := beq_eq_false_iff_ne.2 z0
              by_cases z1 : (n : Int) ≤ l
              · have y1 : decide ((n : Int) ≤ l) = true := decide_eq_true z1
                go_wp2_with fail
                go_ret
                exact ⟨rfl, false, rfl, fun h => by cases h⟩
              have y1 : decide ((n : Int) ≤ l) = false := decide_eq_false z1
              by_cases z2 : l ≤ -(n : Int)
              · have y2 : decide (l ≤ -(n : Int)) = true := decide_eq_true z2
                go_wp2_with fail
                go_ret
                exact ⟨rfl, false, rfl, fun h => by cases h⟩
              have y2 : decide (l ≤ -(n : Int)) = false := decide_eq_false z2
              obtain ⟨bw, offw, ew, hcw⟩ := hw.1.get k (by omega)
              obtain ⟨x, hxx⟩ : ∃ x, ws.getD k 0 = x := ⟨_, rfl⟩
              rw [hxx] at hcw
              have HW : Hid (ws.getD k 0 = x) := hxx
              clear hxx
              cases ew
              by_cases hbw : -34359738368 ≤ x ∧ x ≤ 34359738368
              · have hbb : (decide ((34359738368 : Int) < x) || decide (x < -34359738368)) = false := by simp; omega
                have hU2 : Upto (LitOk lits (some ws) n) (k + 1) := hU.succ ⟨by rw [HX.out]; omega, by rw [HX.out]; omega, by rw [HX.out]; omega, by show _ ≤ ws.getD k 0; rw [HW.out]; omega, by show ws.getD k 0 ≤ _; rw [HW.out]; omega⟩
                have hkw : k < ws.length := by omega
                go_wp2_with fail
                refine (beyondC x 34359738368 _ (by omega) (by omega)).mono ?_
                rintro e w' ⟨rfl, rfl⟩
                rw [hbb]
                go_wp2_with fail
                go_round
                case rel => exact ⟨k + 1, by omega, by go_num, hU2⟩
                case measure => simp [intOf]; omega
              · have hbb : (decide ((34359738368 : Int) < x) || decide (x < -34359738368)) = true := by simp; omega
                have hkw : k < ws.length := by omega
                go_wp2_with fail
                refine (beyondC x 34359738368 _ (by omega) (by omega)).mono ?_
                rintro e w' ⟨rfl, rfl⟩
                rw [hbb]
                go_wp2_with fail
                go_ret
                exact ⟨rfl, false, rfl, fun h => by cases h⟩
            · have HK : Hid (∀ k, k < lits.length → LitOk lits (some ws) n k) := fun k' hk' => hU k' (by omega)
              go_wp2_with fail
              go_loop [16] (fun i => ∃ v : Nat, v ≤ n ∧ i = .int .i64 v ∧ Upto (fun v => col.getD v 0 ≤ 65536) v) (fun i => n - (intOf i).toNat)
              case atStart => exact ⟨0, by omega, rfl, fun j hj => by omega⟩
              case round =>
                obtain ⟨v, hv, rfl, hU⟩ := hrel
                by_cases hlt2 : v < n
                · obtain ⟨bb, off, rfl, hcell⟩ := HC.out.get v (by rw [H2.out]; exact hlt2)
                  have hvc : v < col.length := by rw [H2.out]; exact hlt2
                  obtain ⟨x, hx⟩ : ∃ x, col.getD v 0 = x := ⟨_, rfl⟩
                  rw [hx] at hcell
                  have HX : Hid (col.getD v 0 = x) := hx
                  clear hx
                  by_cases hbig : 65536 < x
                  · go_wp2_with fail
                    go_ret
                    exact ⟨rfl, false, rfl, fun h => by cases h⟩
                  · have hU2 : Upto (fun v => col.getD v 0 ≤ 65536) (v + 1) := hU.succ (by rw [HX.out]; omega)
                    go_wp2_with fail
                    go_round
                    case rel => exact ⟨v + 1, by omega, by go_num, hU2⟩
                    case measure => simp [intOf]; omega
                · have HF : Hid (Ok l1 col lits (some ws) at' n) := ⟨H1.out, H2.out, h3.1, h3.2, (fun ws' e => by cases e; omega), HK.out, fun v' hv' => hU v' (by omega)⟩
                  go_wp2_with fail
                  go_ret
                  exact ⟨rfl, true, rfl, fun _ => HF.out⟩
      · have hby : (decide ((1099511627776 : Int) < at') || decide (at' < -1099511627776)) = true := by simp; omega
        go_enter Try.func44, Try.ntmps44
        go_wp2_with fail
        refine (beyondC at' 1099511627776 _ (by omega) (by omega)).mono ?_
        rintro e w' ⟨rfl, rfl⟩
        rw [hby]
        go_wp2_with fail
        go_ret
        exact ⟨rfl, false, rfl, fun h => by cases h⟩
    · have d2 : ((col.length : Int) != (n : Int)) = true := by simp; omega
      go_enter Try.func44, Try.ntmps44
      go_wp2_with fail
      go_ret
      exact ⟨rfl, false, rfl, fun h => by cases h⟩
  · have d1 : ((l1 : Int) != (n : Int)) = true := by simp; omega
    go_enter Try.func44, Try.ntmps44
    go_wp2_with fail
    go_ret
    exact ⟨rfl, false, rfl, fun h => by cases h⟩
end Go.Proofs.Qxb6600645a.rowok
