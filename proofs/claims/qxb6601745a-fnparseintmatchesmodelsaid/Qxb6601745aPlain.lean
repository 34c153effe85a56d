import Derived.WalkKit
namespace Go.Proofs.Qxb6601745a
set_option linter.unusedVariables false

/-- the number that the m digits from s on write -/
def val (f : Nat → Int) (s : Nat) : Nat → Nat
  | 0 => 0
  | m + 1 => val f s m * 10 + (f (s + m) - 48).toNat

def Digs (f : Nat → Int) (s n : Nat) : Prop := ∀ i, s ≤ i → i < n → 48 ≤ f i ∧ f i ≤ 57

theorem val_mono (f : Nat → Int) (s : Nat) {m m' : Nat} (h : m ≤ m') : val f s m ≤ val f s m' := by
  induction m' with
  | zero => have : m = 0 := by omega
            subst this; exact Nat.le_refl _
  | succ k ih =>
    by_cases e : m = k + 1
    · subst e; exact Nat.le_refl _
    · have := ih (by omega)
      show _ ≤ val f s k * 10 + _
      omega

theorem val_cons (f : Nat → Int) (s : Nat) (m : Nat) : val f s (m + 1) = (f s - 48).toNat * 10 ^ m + val f (s + 1) m := by
  induction m with
  | zero => simp [val]
  | succ k ih =>
    show val f s (k + 1) * 10 + (f (s + (k + 1)) - 48).toNat = _ * 10 ^ (k + 1) + (val f (s + 1) k * 10 + (f (s + 1 + k) - 48).toNat)
    rw [ih, Nat.pow_succ, Nat.add_mul, show s + (k + 1) = s + 1 + k by omega, Nat.mul_assoc]
    omega

theorem val_congr {f g : Nat → Int} {s : Nat} : ∀ {m : Nat}, (∀ i, s ≤ i → i < s + m → f i = g i) → val f s m = val g s m
  | 0, _ => rfl
  | m + 1, h => by
    show val f s m * 10 + _ = val g s m * 10 + _
    rw [val_congr (m := m) (fun i h1 h2 => h i h1 (by omega)), h (s + m) (by omega) (by omega)]

theorem val_shift (f : Nat → Int) (o s : Nat) : ∀ m, val (fun i => f (o + i)) s m = val f (o + s) m
  | 0 => rfl
  | m + 1 => by
    show val (fun i => f (o + i)) s m * 10 + (f (o + (s + m)) - 48).toNat = val f (o + s) m * 10 + (f (o + s + m) - 48).toNat
    rw [val_shift f o s m, Nat.add_assoc]

/-- the greatest magnitude -/
def lim (neg : Bool) : Nat := if neg then 9223372036854775808 else 9223372036854775807

/-- what parseInt and the model answer: the digits from s on, neg: a '-' ahead of them -/
def PPost (f : Nat → Int) (s n : Nat) (neg : Bool) (e : Ending) : Prop :=
  (Digs f s n ∧ val f s (n - s) ≤ lim neg ∧ e = .returned (.tuple #[.int .i64 (if neg then -((val f s (n - s) : Nat) : Int) else ((val f s (n - s) : Nat) : Int)), .bool true])) ∨
  (¬ (Digs f s n ∧ val f s (n - s) ≤ lim neg) ∧ e = .returned (.tuple #[.int .i64 0, .bool false]))

theorem PPost.det {f : Nat → Int} {s n : Nat} {neg : Bool} {e e' : Ending} (h : PPost f s n neg e) (h' : PPost f s n neg e') :
    ∃ (x : Int) (r : Bool), e = .returned (.tuple #[.int .i64 x, .bool r]) ∧ e' = .returned (.tuple #[.int .i64 x, .bool r]) := by
  rcases h with ⟨h1, h2, h3⟩ | ⟨h1, h2⟩ <;> rcases h' with ⟨k1, k2, k3⟩ | ⟨k1, k2⟩
  · exact ⟨_, _, h3, k3⟩
  · exact absurd ⟨h1, h2⟩ k1
  · exact absurd ⟨k1, k2⟩ h1
  · exact ⟨_, _, h2, k2⟩

end Go.Proofs.Qxb6601745a
