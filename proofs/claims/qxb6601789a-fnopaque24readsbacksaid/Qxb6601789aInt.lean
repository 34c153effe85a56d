import Derived.Test.Qxb6601789aPref
namespace Go.Proofs.Qxb6601789a
open Go.RowKit
set_option linter.unusedVariables false

/-- the big-endian value of the first k bytes, modulo 2 to the 64th -/
def be (g : Nat → Int) : Nat → Nat
  | 0 => 0
  | k + 1 => be g k * 256 % 18446744073709551616 + (g k).toNat
/-- the weighted sum of the last j of n bytes, from the low end -/
def low (g : Nat → Int) (n : Nat) : Nat → Nat
  | 0 => 0
  | j + 1 => low g n j + (g (n - 1 - j)).toNat * 256 ^ j

theorem be_lt (g : Nat → Int) (hg : ∀ i, 0 ≤ g i ∧ g i ≤ 255) : ∀ n, be g n < 18446744073709551616
  | 0 => by show 0 < 18446744073709551616; omega
  | n + 1 => by
    have := hg n
    show be g n * 256 % 18446744073709551616 + (g n).toNat < 18446744073709551616
    omega

theorem be_lt_pow (g : Nat → Int) (hg : ∀ i, 0 ≤ g i ∧ g i ≤ 255) : ∀ n, be g n < 256 ^ n
  | 0 => by show 0 < 1; omega
  | n + 1 => by
    have := hg n
    have h := be_lt_pow g hg n
    show be g n * 256 % 18446744073709551616 + (g n).toNat < 256 ^ (n + 1)
    rw [Nat.pow_succ]
    have := Nat.mod_le (be g n * 256) 18446744073709551616
    omega

theorem low_cons (g : Nat → Int) (n : Nat) : ∀ j, j ≤ n → low g (n + 1) (j + 1) = (g n).toNat + 256 * low g n j
  | 0, _ => by simp [low]
  | j + 1, h => by
    have ih := low_cons g n j (by omega)
    show low g (n + 1) (j + 1) + (g (n + 1 - 1 - (j + 1))).toNat * 256 ^ (j + 1) = (g n).toNat + 256 * (low g n j + (g (n - 1 - j)).toNat * 256 ^ j)
    rw [ih, show n + 1 - 1 - (j + 1) = n - 1 - j by omega, Nat.pow_succ, Nat.mul_add, Nat.add_assoc]
    congr 2
    rw [← Nat.mul_assoc, Nat.mul_comm]

theorem be_low (g : Nat → Int) (hg : ∀ i, 0 ≤ g i ∧ g i ≤ 255) : ∀ n j, j ≤ n → j ≤ 8 → be g n % 256 ^ j = low g n j
  | n, 0, _, _ => by show be g n % 1 = 0; omega
  | 0, j + 1, h, _ => by omega
  | n + 1, j + 1, h, h8 => by
    have ih := be_low g hg n j (by omega) (by omega)
    rw [low_cons g n j (by omega), ← ih]
    show (be g n * 256 % 18446744073709551616 + (g n).toNat) % 256 ^ (j + 1) = (g n).toNat + 256 * (be g n % 256 ^ j)
    have hd : (256 ^ (j + 1)) ∣ 18446744073709551616 := by
      have : (18446744073709551616 : Nat) = 256 ^ (j + 1) * 256 ^ (7 - j) := by rw [← Nat.pow_add, show j + 1 + (7 - j) = 8 by omega]
      exact ⟨_, this⟩
    rw [Nat.add_mod, Nat.mod_mod_of_dvd _ hd, ← Nat.add_mod]
    have hb := hg n
    have e : be g n = 256 ^ j * (be g n / 256 ^ j) + be g n % 256 ^ j := (Nat.div_add_mod _ _).symm
    have hlt : be g n % 256 ^ j < 256 ^ j := Nat.mod_lt _ (Nat.pow_pos (by omega))
    have e2 : be g n * 256 + (g n).toNat = 256 ^ (j + 1) * (be g n / 256 ^ j) + ((g n).toNat + 256 * (be g n % 256 ^ j)) := by
      have e3 : be g n * 256 = 256 ^ (j + 1) * (be g n / 256 ^ j) + 256 * (be g n % 256 ^ j) := by
        rw [Nat.pow_succ, Nat.mul_assoc, Nat.mul_comm 256 (be g n / 256 ^ j), ← Nat.mul_assoc, Nat.mul_comm 256 (be g n % 256 ^ j), ← Nat.add_mul, ← e]
      rw [e3, Nat.add_assoc, Nat.add_comm (256 * _)]
    rw [e2, Nat.mul_add_mod, Nat.mod_eq_of_lt]
    rw [Nat.pow_succ]
    omega

theorem be_is (g : Nat → Int) (hg : ∀ i, 0 ≤ g i ∧ g i ≤ 255) (n : Nat) : be g n = low g n (min n 8) := by
  rw [← be_low g hg n (min n 8) (Nat.min_le_left _ _) (Nat.min_le_right _ _), Nat.mod_eq_of_lt]
  rcases Nat.lt_or_ge n 8 with h | h
  · rw [Nat.min_eq_left (by omega)]; exact be_lt_pow g hg n
  · rw [Nat.min_eq_right h]
    have := be_lt g hg n
    show be g n < 256 ^ 8
    omega

theorem or256 (u : Nat) (y : Int) (h0 : 0 ≤ y) (h1 : y ≤ 255) : bits BinOp.or IntKind.u64 (IntKind.u64.wrap ((u : Int) * 256)) y = ((u * 256 % 18446744073709551616 + y.toNat : Nat) : Int) := by
  rw [IntKind.wrap_u64]
  have hw : ∀ n : Int, 0 ≤ n → n < 2 ^ 64 → IntKind.u64.wrap n = n := fun n a b => by rw [IntKind.wrap_u64]; omega
  rw [bits_join .u64 64 (by decide) hw 8 _ y (by omega) (by omega) (by omega) h0 (by omega) (by omega)]
  omega

end Go.Proofs.Qxb6601789a
