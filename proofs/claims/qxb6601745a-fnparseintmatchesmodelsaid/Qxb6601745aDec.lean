import Derived.Test.Qxb6601745aParse
namespace Go.Proofs.Qxb6601745a
open Go.RowKit
set_option linter.unusedVariables false

theorem Try.info5 : (Try.prog.info? 5).map (fun i => (i.zero, i.size, i.bytes)) = some (some (.int .u8 0), 1, 1) := by kernel_rfl

/-- decimalOf's loop: i the next place, u what is left of N, h the buffer -/
structure Dr (i u : Nat) (h : Nat → Int) (N : Nat) : Prop where
  lo : 1 ≤ i
  hi : i ≤ 20
  small : u < 10 ^ (i - 1)
  digs : ∀ j, i ≤ j → j < 20 → 48 ≤ h j ∧ h j ≤ 57
  sum : u * 10 ^ (20 - i) + val h i (20 - i) = N
  some1 : u = 0 → i ≤ 19

theorem Dr.start (N : Nat) (h0 : N ≠ 0) (hN : N ≤ 9223372036854775808) (h : Nat → Int) : Dr 20 N h N :=
  ⟨by omega, by omega, by show N < 10 ^ 19; omega, fun j h1 h2 => by omega, by simp [val], fun e => absurd e h0⟩

theorem Dr.zero (h : Nat → Int) (h19 : h 19 = 48) : Dr 19 0 h 0 := by
  refine ⟨by omega, by omega, by show 0 < 10 ^ 18; omega, fun j h1 h2 => ?_, by simp [val, h19], fun _ => by omega⟩
  obtain rfl : j = 19 := by omega
  omega

theorem Dr.two {i u : Nat} {h : Nat → Int} {N : Nat} (d : Dr i u h N) (hu : 0 < u) : 2 ≤ i := by
  have := d.small
  have := d.lo
  rcases Nat.lt_or_ge i 2 with h | h
  · obtain rfl : i = 1 := by omega
    simp at *
    omega
  · exact h

theorem Dr.step {i u : Nat} {h : Nat → Int} {N : Nat} (d : Dr i u h N) (hu : 0 < u) : Dr (i - 1) (u / 10) (fun j => if j = i - 1 then 48 + (u : Int) % 10 else h j) N := by
  have h2 := d.two hu
  have hi := d.hi
  obtain ⟨k, rfl⟩ : ∃ k, i = k + 2 := ⟨i - 2, by omega⟩
  refine ⟨by omega, by omega, ?_, ?_, ?_, fun _ => by omega⟩
  · have := d.small
    show u / 10 < 10 ^ k
    have e : 10 ^ (k + 2 - 1) = 10 ^ k * 10 := by rw [show k + 2 - 1 = k + 1 by omega, Nat.pow_succ]
    rw [e] at this
    omega
  · intro j h1 h2
    show 48 ≤ (if j = k + 2 - 1 then 48 + (u : Int) % 10 else h j) ∧ (if j = k + 2 - 1 then 48 + (u : Int) % 10 else h j) ≤ 57
    by_cases e : j = k + 2 - 1
    · rw [if_pos e]; omega
    · rw [if_neg e]; exact d.digs j (by omega) h2
  · have hs := d.sum
    rw [show k + 2 - 1 = k + 1 by omega, show 20 - (k + 1) = (20 - (k + 2)) + 1 by omega, val_cons]
    have e1 : val (fun j => if j = k + 1 then 48 + (u : Int) % 10 else h j) (k + 1 + 1) (20 - (k + 2)) = val h (k + 2) (20 - (k + 2)) :=
      val_congr (fun j h1 h2 => by
        show (if j = k + 1 then 48 + (u : Int) % 10 else h j) = h j
        rw [if_neg (by omega)])
    rw [e1]
    have e2 : ((if k + 1 = k + 1 then 48 + (u : Int) % 10 else h (k + 1)) - 48).toNat = u % 10 := by rw [if_pos rfl]; omega
    rw [e2, Nat.pow_succ]
    generalize 10 ^ (20 - (k + 2)) = P at *
    generalize val h (k + 2) (20 - (k + 2)) = V at *
    have e3 : u / 10 * (P * 10) + u % 10 * P = u * P := by
      rw [Nat.mul_comm P 10, ← Nat.mul_assoc, ← Nat.add_mul]
      congr 1
      omega
    omega

/-- what decimalOf hands back -/
def DPost (B : Nat) (x : Int) (w' : World) (e : Ending) : Prop :=
  ∃ (i : Nat) (f : Nat → Int) (s : Nat) (neg : Bool), i < 20 ∧ e = .returned (.slice (some ⟨B, i, none⟩) (20 - i) (20 - i)) ∧ Lies w' (some ⟨B, i, none⟩) (20 - i) f ∧
    Cuts f (20 - i) s neg ∧ Digs f s (20 - i) ∧ val f s (20 - i - s) ≤ lim neg ∧ (if neg then -((val f s (20 - i - s) : Nat) : Int) else ((val f s (20 - i - s) : Nat) : Int)) = x

theorem dpost_pos {B i : Nat} {h : Nat → Int} {N : Nat} {w' : World} (d : Dr i 0 h N) (hr : w'.rowIs B 5 20 (fun j => .int .u8 (h j))) (hN : N ≤ 9223372036854775807) :
    DPost B (N : Int) w' (.returned (.slice (some ⟨B, i, none⟩) (20 - i) (20 - i))) := by
  have h1 := d.some1 rfl
  have hs : val h i (20 - i) = N := by have := d.sum; simpa using this
  refine ⟨i, fun j => h (i + j), 0, false, by omega, rfl, fun _ => ⟨B, i, rfl, fun j hj => ⟨hr.cell (by omega), ?_⟩⟩, .inr ⟨rfl, rfl, fun _ => ?_⟩, fun j _ hj => ?_, ?_, ?_⟩
  · show 0 ≤ h (i + j) ∧ h (i + j) ≤ 255
    have := d.digs (i + j) (by omega) (by omega); omega
  · have := d.digs (i + 0) (by omega) (by omega); show h (i + 0) ≠ 45; omega
  · exact d.digs (i + j) (by omega) (by omega)
  · rw [val_shift]; show val h i (20 - i) ≤ 9223372036854775807; omega
  · rw [val_shift]; show ((val h i (20 - i) : Nat) : Int) = N; rw [hs]

theorem dpost_neg {B i : Nat} {h : Nat → Int} {N : Nat} {w' : World} (d : Dr i 0 h N) (hr : w'.rowIs B 5 20 (fun j => .int .u8 (if j = i - 1 then 45 else h j))) (hN : N ≤ 9223372036854775808) (x : Int) (hx : x = -(N : Int)) :
    DPost B x w' (.returned (.slice (some ⟨B, i - 1, none⟩) (20 - (i - 1)) (20 - (i - 1)))) := by
  have h1 := d.some1 rfl
  have hl := d.lo
  have hs : val h i (20 - i) = N := by have := d.sum; simpa using this
  obtain ⟨k, rfl⟩ : ∃ k, i = k + 1 := ⟨i - 1, by omega⟩
  rw [show k + 1 - 1 = k by omega] at hr ⊢
  have hv : val (fun j => if k + j = k then 45 else h (k + j)) 1 (20 - k - 1) = N := by
    rw [show 20 - k - 1 = 20 - (k + 1) by omega, ← hs, ← val_shift h k 1]
    exact val_congr (fun j h1 h2 => by
      show (if k + j = k then 45 else h (k + j)) = h (k + j)
      rw [if_neg (by omega)])
  refine ⟨k, fun j => if k + j = k then 45 else h (k + j), 1, true, by omega, rfl, fun _ => ⟨B, k, rfl, fun j hj => ⟨hr.cell (by omega), ?_⟩⟩, .inl ⟨rfl, rfl, by omega, by simp⟩, fun j j1 hj => ?_, ?_, ?_⟩
  · show 0 ≤ (if k + j = k then 45 else h (k + j)) ∧ (if k + j = k then 45 else h (k + j)) ≤ 255
    by_cases e : k + j = k
    · rw [if_pos e]; decide
    · rw [if_neg e]; have := d.digs (k + j) (by omega) (by omega); omega
  · show 48 ≤ (if k + j = k then 45 else h (k + j)) ∧ (if k + j = k then 45 else h (k + j)) ≤ 57
    rw [if_neg (by omega)]; exact d.digs (k + j) (by omega) (by omega)
  · rw [hv]; exact hN
  · rw [hv, hx]; rfl

end Go.Proofs.Qxb6601745a
