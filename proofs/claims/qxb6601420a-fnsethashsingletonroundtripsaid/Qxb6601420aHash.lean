/-
  The hash of one number, and the inverse of the multiplier.
-/
import Derived.Test.Qxb6601420aRows
import Derived.WalkKit
import Derived.ProofKit
import Derived.Below
import Derived.BigQuiet
import Derived.Deep.QuietTactic
import Derived.WalkSmall
import Derived.WalkSpells
import Derived.WalkLawsBesides
import Derived.Laws.Bits64
namespace Go.Proofs.Qxb6601420a.hash
open Go.ChangeShapes Go.WideShapes Go.ChangeAt Go.RowKit

def gold : Int := 11400714819323198485
def it : Nat → Int
  | 0 => gold
  | k + 1 => (it k * ((2 - (gold * it k) % 18446744073709551616) % 18446744073709551616)) % 18446744073709551616
theorem inv_gold : it 5 = 17428512612931826493 := by decide +kernel

theorem invC (w : World) : Calls Try.prog 9 #[.int .u64 11400714819323198485] w fun e w' => e = .returned (.int .u64 17428512612931826493) ∧ w' = w := by
  go_enter Try.func9, Try.ntmps9
  go_wp2_with fail
  go_loopw [3, 4] (fun v i wr => ∃ k : Nat, k ≤ 5 ∧ i = .int .i64 k ∧ v = .int .u64 (it k) ∧ wr = w) (fun _ i _ => 5 - (intOf i).toNat)
  case atStart => exact ⟨0, by omega, rfl, rfl, rfl⟩
  case round =>
    obtain ⟨k, hk, rfl, rfl, rfl⟩ := hrel
    by_cases hlt : k < 5
    · obtain ⟨x, hx⟩ : ∃ x, it k = x := ⟨_, rfl⟩
      have hs : it (k + 1) = (x * ((2 - (gold * x) % 18446744073709551616) % 18446744073709551616)) % 18446744073709551616 := by rw [it, hx]
      rw [hx]
      go_wp2
      go_roundw
      case rel =>
        refine ⟨k + 1, by omega, rfl, ?_, trivial⟩
        rw [hs]
        simp only [IntKind.wrap_u64, gold]
      case measure => simp [intOf]; omega
    · obtain rfl : k = 5 := by omega
      rw [inv_gold]
      go_wp2
      go_ret
      exact ⟨rfl, rfl⟩

/-- the number before the fold, and the hash, as the walk spells them -/
def spread (x : Int) : Int := IntKind.u64.wrap ((x + 1) % 4294967296 * 11400714819323198485)
def hv (x : Int) : Int := IntKind.u64.wrap (bits BinOp.xor IntKind.u64 (spread x) (spread x / 536870912))

theorem hashC (b : Nat) (x : Int) (w : World) (h : w.cell? ⟨b, 0, none⟩ = some (.int .u32 x)) :
   Calls Try.prog 11 #[.slice (some ⟨b, 0, none⟩) 1 1] w fun e w' => e = .returned (.int .u64 (hv x)) ∧ w' = w := by
  go_enter Try.func11, Try.ntmps11
  go_wp2_with fail
  go_loopw [3, 9] (fun v i wr => wr = w ∧ ((i = .int .i64 0 ∧ v = .int .u64 0) ∨ (i = .int .i64 1 ∧ v = .int .u64 (hv x)))) (fun _ i _ => 1 - (intOf i).toNat)
  case atStart => exact ⟨rfl, .inl ⟨rfl, rfl⟩⟩
  case round =>
    obtain ⟨rfl, ⟨rfl, rfl⟩ | ⟨rfl, rfl⟩⟩ := hrel
    · go_wp2
      go_roundw
      case rel => exact ⟨trivial, .inr ⟨rfl, rfl⟩⟩
      case measure => simp [intOf]
    · go_wp2
      go_ret
      exact ⟨rfl, rfl⟩
theorem zzHashC (b : Nat) (x : Int) (w : World) (h : w.cell? ⟨b, 0, none⟩ = some (.int .u32 x)) :
   Calls Try.prog 8 #[.slice (some ⟨b, 0, none⟩) 1 1] w fun e w' => e = .returned (.int .u64 (hv x)) ∧ w' = w := by
  go_enter Try.func8, Try.ntmps8
  go_wp2_with fail
  refine (hashC b x _ h).mono ?_
  rintro e w' ⟨rfl, rfl⟩
  go_wp2
  go_ret
  exact ⟨rfl, rfl⟩

/-- folding thrice undoes the fold -/
theorem unfold_nat (s : Nat) (h : s < 18446744073709551616) :
    ((s ^^^ s / 536870912) ^^^ (s ^^^ s / 536870912) / 536870912) ^^^ (s ^^^ s / 536870912) / 288230376151711744 = s := by
  rw [show (536870912 : Nat) = 2 ^ 29 by decide, show (288230376151711744 : Nat) = 2 ^ 58 by decide, ← Nat.shiftRight_eq_div_pow, ← Nat.shiftRight_eq_div_pow, ← Nat.shiftRight_eq_div_pow]
  apply Nat.eq_of_testBit_eq
  intro i
  have hb : s.testBit (29 + (58 + i)) = false := Nat.testBit_lt_two_pow (Nat.lt_of_lt_of_le h (by
    rw [show (18446744073709551616 : Nat) = 2 ^ 64 by decide]; exact Nat.pow_le_pow_right (by decide) (by omega)))
  have h2 : 29 + (29 + i) = 58 + i := by omega
  simp only [Nat.testBit_xor, Nat.testBit_shiftRight, hb, h2]
  cases s.testBit i <;> cases s.testBit (29 + i) <;> cases s.testBit (58 + i) <;> rfl
/-- the law, without Go: undone, and times the inverse, it is x + 1 -/
theorem law (x : Int) :
    IntKind.u64.wrap (bits .xor .u64 (bits .xor .u64 (hv x) (hv x / 536870912)) (hv x / 288230376151711744) * 17428512612931826493) = (x + 1) % 4294967296 := by
  obtain ⟨s, hs⟩ : ∃ s : Nat, spread x = s := Int.eq_ofNat_of_zero_le (by unfold spread; rw [IntKind.wrap_u64]; omega)
  have hlt : s < 18446744073709551616 := by
    have : spread x < 18446744073709551616 := by unfold spread; rw [IntKind.wrap_u64]; omega
    omega
  have hx : ∀ a b : Nat, a < 18446744073709551616 → b < 18446744073709551616 → a ^^^ b < 18446744073709551616 := fun a b ha hb =>
    Nat.xor_lt_two_pow (n := 64) ha hb
  have h1 : hv x = ((s ^^^ s / 536870912 : Nat) : Int) := by
    unfold hv
    rw [hs, show ((s : Int) / 536870912) = ((s / 536870912 : Nat) : Int) by omega, bits_xor_u64_nat _ _ hlt (by omega), IntKind.wrap_u64]
    have := hx s (s / 536870912) hlt (by omega)
    omega
  have l1 := hx s (s / 536870912) hlt (by omega)
  have hu := unfold_nat s hlt
  generalize (s ^^^ s / 536870912 : Nat) = A at h1 l1 hu
  have l2 := hx A (A / 536870912) l1 (by omega)
  have l3 := hx (A ^^^ A / 536870912) (A / 288230376151711744) l2 (by omega)
  rw [h1, show ((A : Int) / 536870912) = ((A / 536870912 : Nat) : Int) by omega, show ((A : Int) / 288230376151711744) = ((A / 288230376151711744 : Nat) : Int) by omega,
    bits_xor_u64_nat _ _ l1 (by omega)]
  generalize (A ^^^ A / 536870912 : Nat) = B at l2 l3 hu
  rw [bits_xor_u64_nat _ _ l2 (by omega), hu, ← hs]
  unfold spread
  simp only [IntKind.wrap_u64]
  omega
end Go.Proofs.Qxb6601420a.hash
