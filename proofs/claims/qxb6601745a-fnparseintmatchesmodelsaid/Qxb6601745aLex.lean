import Derived.Test.Qxb6601745aDecW
import Derived.PlainAid
namespace Go.Proofs.Qxb6601745a
open Go.RowKit
set_option linter.unusedVariables false

theorem lex_lt {f g : Nat → Int} {z k : Nat} : ∀ {m : Nat}, k < m → Digs f z (z + m) → Digs g 0 m → (∀ j, j < k → f (z + j) = g j) → f (z + k) < g k → val f z m < val g 0 m := by
  intro m
  induction m with
  | zero => intro h; omega
  | succ m ih =>
    intro hk hf hg he hlt
    show val f z m * 10 + (f (z + m) - 48).toNat < val g 0 m * 10 + (g (0 + m) - 48).toNat
    have df := hf (z + m) (by omega) (by omega)
    have dg := hg m (by omega) (by omega)
    rw [Nat.zero_add]
    by_cases e : k = m
    · subst e
      have : val f z k = val g 0 k := by
        rw [← val_congr (f := fun i => f (z + i)) (g := g) (fun i _ h2 => he i (by omega)), val_shift]
        rfl
      omega
    · have := ih (by omega) (fun i h1 h2 => hf i h1 (by omega)) (fun i h1 h2 => hg i h1 (by omega)) he hlt
      omega

theorem lex_gt {f g : Nat → Int} {z k : Nat} : ∀ {m : Nat}, k < m → Digs f z (z + m) → Digs g 0 m → (∀ j, j < k → f (z + j) = g j) → g k < f (z + k) → val g 0 m < val f z m := by
  intro m
  induction m with
  | zero => intro h; omega
  | succ m ih =>
    intro hk hf hg he hlt
    show val g 0 m * 10 + (g (0 + m) - 48).toNat < val f z m * 10 + (f (z + m) - 48).toNat
    have df := hf (z + m) (by omega) (by omega)
    have dg := hg m (by omega) (by omega)
    rw [Nat.zero_add]
    by_cases e : k = m
    · subst e
      have : val f z k = val g 0 k := by
        rw [← val_congr (f := fun i => f (z + i)) (g := g) (fun i _ h2 => he i (by omega)), val_shift]
        rfl
      omega
    · have := ih (by omega) (fun i h1 h2 => hf i h1 (by omega)) (fun i h1 h2 => hg i h1 (by omega)) he hlt
      omega

theorem lex_eq {f g : Nat → Int} {z m : Nat} (he : ∀ j, j < m → f (z + j) = g j) : val f z m = val g 0 m := by
  rw [← val_congr (f := fun i => f (z + i)) (g := g) (fun i _ h2 => he i (by omega)), val_shift]
  rfl

/-- leading zeros count for nothing -/
theorem val_zeros {f : Nat → Int} {s z : Nat} (hsz : s ≤ z) (h : ∀ i, s ≤ i → i < z → f i = 48) : ∀ m, val f s (z - s + m) = val f z m := by
  intro m
  induction m with
  | zero =>
    show val f s (z - s + 0) = 0
    rw [Nat.add_zero]
    obtain ⟨d, rfl⟩ : ∃ d, z = s + d := ⟨z - s, by omega⟩
    rw [show s + d - s = d by omega]
    clear hsz
    induction d with
    | zero => rfl
    | succ d ih =>
      show val f s d * 10 + (f (s + d) - 48).toNat = 0
      rw [ih (fun i h1 h2 => h i h1 (by omega)), h (s + d) (by omega) (by omega)]
      rfl
  | succ m ih =>
    show val f s (z - s + m) * 10 + (f (s + (z - s + m)) - 48).toNat = val f z m * 10 + (f (z + m) - 48).toNat
    rw [ih, show s + (z - s + m) = z + m by omega]

theorem val_lt_pow {f : Nat → Int} {z : Nat} : ∀ {m : Nat}, Digs f z (z + m) → val f z m < 10 ^ m := by
  intro m
  induction m with
  | zero => intro _; exact Nat.zero_lt_one
  | succ m ih =>
    intro h
    have a := ih (fun i h1 h2 => h i h1 (by omega))
    have d := h (z + m) (by omega) (by omega)
    show val f z m * 10 + (f (z + m) - 48).toNat < 10 ^ (m + 1)
    rw [Nat.pow_succ]
    omega

theorem pow_le_val {f : Nat → Int} {z : Nat} (h : 49 ≤ f z) : ∀ m, 10 ^ m ≤ val f z (m + 1) := by
  intro m
  rw [val_cons]
  have : 1 ≤ (f z - 48).toNat := by omega
  have h2 : 1 * 10 ^ m ≤ (f z - 48).toNat * 10 ^ m := Nat.mul_le_mul_right _ this
  omega

def limP : ByteArray := ⟨#[57, 50, 50, 51, 51, 55, 50, 48, 51, 54, 56, 53, 52, 55, 55, 53, 56, 48, 55]⟩
def limN : ByteArray := ⟨#[57, 50, 50, 51, 51, 55, 50, 48, 51, 54, 56, 53, 52, 55, 55, 53, 56, 48, 56]⟩
def limS (neg : Bool) : ByteArray := if neg then limN else limP

theorem limS_size (neg : Bool) : (limS neg).size = 19 := by cases neg <;> rfl
theorem limS_val (neg : Bool) : val (PlainAid.bt (limS neg)) 0 19 = lim neg := by cases neg <;> decide +kernel
theorem limS_digs (neg : Bool) : Digs (PlainAid.bt (limS neg)) 0 19 := by
  have h : ∀ i : Fin 19, 48 ≤ PlainAid.bt (limS neg) i.val ∧ PlainAid.bt (limS neg) i.val ≤ 57 := by cases neg <;> decide +kernel
  exact fun i _ hi => h ⟨i, hi⟩

/-- THE MODEL's ANSWER 'yes': z where the significant digits begin -/
theorem model_yes {f : Nat → Int} {s z n : Nat} {neg : Bool} (hsz : s ≤ z) (hzn : z ≤ n) (hd : Digs f s n) (hz : ∀ i, s ≤ i → i < z → f i = 48) (hv : val f z (n - z) ≤ lim neg) (x : Int)
    (hx : x = if neg then -((val f z (n - z) : Nat) : Int) else ((val f z (n - z) : Nat) : Int)) : PPost f s n neg (.returned (.tuple #[.int .i64 x, .bool true])) := by
  have e : val f s (n - s) = val f z (n - z) := by rw [← val_zeros hsz hz]; congr 1; omega
  refine .inl ⟨hd, by rw [e]; exact hv, ?_⟩
  rw [hx, e]

theorem model_no {f : Nat → Int} {s z n : Nat} {neg : Bool} (hsz : s ≤ z) (hzn : z ≤ n) (hz : ∀ i, s ≤ i → i < z → f i = 48) (hv : lim neg < val f z (n - z)) : PPost f s n neg (.returned (.tuple #[.int .i64 0, .bool false])) := by
  have e : val f s (n - s) = val f z (n - z) := by rw [← val_zeros hsz hz]; congr 1; omega
  refine .inr ⟨fun h => ?_, rfl⟩
  have := h.2
  omega

theorem lim_lo (neg : Bool) : 9223372036854775807 ≤ lim neg := by unfold lim; cases neg <;> simp

theorem short_ok {f : Nat → Int} {z n : Nat} {neg : Bool} (hd : Digs f z n) (hzn : z ≤ n) (h : n - z < 19) : val f z (n - z) ≤ lim neg := by
  have a := val_lt_pow (f := f) (z := z) (m := n - z) (by rw [show z + (n - z) = n by omega]; exact hd)
  have b : 10 ^ (n - z) ≤ 10 ^ 18 := Nat.pow_le_pow_right (by omega) (by omega)
  have c := lim_lo neg
  omega

theorem long_no {f : Nat → Int} {z n : Nat} {neg : Bool} (h49 : 49 ≤ f z) (h : 19 < n - z) : lim neg < val f z (n - z) := by
  obtain ⟨k, hk⟩ : ∃ k, n - z = k + 1 := ⟨n - z - 1, by omega⟩
  have a := pow_le_val h49 k
  have b : 10 ^ 19 ≤ 10 ^ k := Nat.pow_le_pow_right (by omega) (by omega)
  have c := lim_le neg
  rw [hk]
  omega

end Go.Proofs.Qxb6601745a
