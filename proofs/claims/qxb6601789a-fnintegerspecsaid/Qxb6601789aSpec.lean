import Derived.Test.Qxb6601789aIntW
namespace Go.Proofs.Qxb6601789a
open Go.RowKit
set_option linter.unusedVariables false

theorem bytes12 (a : Option Addr) (n c : Nat) (fl : Bool) (x : Int) (w : World) (h : n ≤ 1048576) :
    Calls Try.prog 12 #[.slice a n c, .bool fl, .int .i64 x] w fun e w' => e = .returned (.bool true) ∧ w' = w := by
  go_enter Try.func12, Try.ntmps12
  go_wp2
  go_ret
  exact ⟨rfl, rfl⟩

theorem bytes12_no (a : Option Addr) (n c : Nat) (fl : Bool) (x : Int) (w : World) (h : 1048576 < n) :
    Calls Try.prog 12 #[.slice a n c, .bool fl, .int .i64 x] w fun e w' => e = .returned (.bool false) ∧ w' = w := by
  go_enter Try.func12, Try.ntmps12
  go_wp2
  go_ret
  exact ⟨rfl, rfl⟩

/-- the model's scale behind j rounds -/
def sc (j : Nat) : Nat := 256 ^ j % 18446744073709551616

theorem sc_step (j : Nat) : IntKind.u64.wrap ((sc j : Int) * 256) = ((sc (j + 1) : Nat) : Int) := by
  rw [IntKind.wrap_u64]
  unfold sc
  rw [Nat.pow_succ, Nat.mul_mod]
  omega

theorem low_lt (g : Nat → Int) (hg : ∀ i, 0 ≤ g i ∧ g i ≤ 255) (n : Nat) : ∀ j, low g n j < 256 ^ j
  | 0 => by show 0 < 1; omega
  | j + 1 => by
    have ih := low_lt g hg n j
    have hb := hg (n - 1 - j)
    have h1 : (g (n - 1 - j)).toNat ≤ 255 := by omega
    have h2 : (g (n - 1 - j)).toNat * 256 ^ j ≤ 255 * 256 ^ j := Nat.mul_le_mul_right _ h1
    show low g n j + (g (n - 1 - j)).toNat * 256 ^ j < 256 ^ (j + 1)
    rw [Nat.pow_succ]
    omega

theorem want_step (g : Nat → Int) (hg : ∀ i, 0 ≤ g i ∧ g i ≤ 255) (n j : Nat) (hj : j < 8) :
    IntKind.u64.wrap ((low g n j : Int) + IntKind.u64.wrap (g (n - 1 - j) * (sc j : Int))) = ((low g n (j + 1) : Nat) : Int) := by
  have hs : sc j = 256 ^ j := by
    unfold sc
    apply Nat.mod_eq_of_lt
    have : 256 ^ j ≤ 256 ^ 7 := Nat.pow_le_pow_right (by omega) (by omega)
    have e : (256 : Nat) ^ 7 = 72057594037927936 := by decide
    omega
  have h1 := low_lt g hg n (j + 1)
  have h2 : 256 ^ (j + 1) ≤ 256 ^ 8 := Nat.pow_le_pow_right (by omega) (by omega)
  have e8 : (256 : Nat) ^ 8 = 18446744073709551616 := by decide
  have hb := hg (n - 1 - j)
  obtain ⟨x, hx⟩ : ∃ x : Nat, g (n - 1 - j) = (x : Int) := ⟨(g (n - 1 - j)).toNat, by omega⟩
  have e1 : low g n (j + 1) = low g n j + x * sc j := by
    show low g n j + (g (n - 1 - j)).toNat * 256 ^ j = _
    rw [hs, hx]; rfl
  rw [hx, IntKind.wrap_u64, IntKind.wrap_u64, ← Int.natCast_mul]
  rw [e1] at h1 ⊢
  generalize x * sc j = p at *
  generalize low g n j = q at *
  omega

end Go.Proofs.Qxb6601789a
