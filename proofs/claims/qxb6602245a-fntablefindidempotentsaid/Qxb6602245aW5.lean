import Derived.Test.Qxb6602245aW4
import Derived.Laws.BitsAllLaws
namespace Go.Proofs.Qxb6602245a
open Go.RowKit
set_option linter.unusedVariables false

theorem shl4 (a : Nat) : a <<< 4 = 16 * a := by rw [Nat.shiftLeft_eq]; omega
theorem and16 (a b : Nat) : (16 * a) &&& (16 * b) = 16 * (a &&& b) := by
  rw [← shl4, ← shl4, ← shl4, ← Nat.shiftLeft_and_distrib]
theorem xor16 (a b : Nat) : (16 * a) ^^^ (16 * b) = 16 * (a ^^^ b) := by
  rw [← shl4, ← shl4, ← shl4, ← Nat.shiftLeft_xor_distrib]

theorem two_pow_bounds {bt : Nat} (h1 : 2 ≤ bt) (h2 : bt ≤ 16) : 4 ≤ 2 ^ bt ∧ 2 ^ bt ≤ 65536 :=
  ⟨Nat.pow_le_pow_right (n := 2) (by decide) h1, Nat.pow_le_pow_right (n := 2) (by decide) h2⟩

theorem places {bt cx : Nat} (h1 : 2 ≤ bt) (h2 : bt ≤ 16) (hcx : cx ≤ 4294967295) : Places (16 * 2 ^ bt) cx (16 * (cx % 2 ^ bt)) (16 * ((cx % 2 ^ bt) ^^^ 1)) (16 * ((cx % 2 ^ bt) ^^^ 2)) := by
  obtain ⟨b1, b2⟩ := two_pow_bounds h1 h2
  have hh : cx % 2 ^ bt < 2 ^ bt := Nat.mod_lt _ (by omega)
  have hx1 : (cx % 2 ^ bt) ^^^ 1 < 2 ^ bt := Nat.xor_lt_two_pow hh (by omega)
  have hx2 : (cx % 2 ^ bt) ^^^ 2 < 2 ^ bt := Nat.xor_lt_two_pow hh (by omega)
  refine ⟨?_, ?_, ?_, by omega, by omega, by omega⟩
  · have ea : ((cx : Int) * 16 % 4294967296) = ((16 * (cx % 268435456) : Nat) : Int) := by omega
    have eb : (((16 * 2 ^ bt : Nat) : Int) - 16) = ((16 * (2 ^ bt - 1) : Nat) : Int) := by omega
    rw [ea, eb, u32_and_nat _ _ (by omega) (by omega), and16, Nat.and_two_pow_sub_one_eq_mod]
    have hd : 2 ^ bt ∣ 268435456 := by
      have : (268435456 : Nat) = 2 ^ 28 := by decide
      rw [this]
      exact Nat.pow_dvd_pow 2 (by omega)
    rw [Nat.mod_mod_of_dvd _ hd]
  · have := u32_xor_nat (16 * (cx % 2 ^ bt)) (16 * 1) (by omega) (by decide)
    rw [xor16] at this
    exact this
  · have := u32_xor_nat (16 * (cx % 2 ^ bt)) (16 * 2) (by omega) (by decide)
    rw [xor16] at this
    exact this
end Go.Proofs.Qxb6602245a
