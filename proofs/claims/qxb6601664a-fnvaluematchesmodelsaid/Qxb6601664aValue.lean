import Derived.Test.Qxb6601664aVal
namespace Go.Proofs.Qxb6601664a
open Go.RowKit
set_option linter.unusedVariables false

theorem first_eq {f : Nat → Int} {n p k q : Nat} (hF : First f n p k) (h1 : p ≤ q) (h2 : q ≤ n) (h3 : ∀ i, p ≤ i → i < q → blankB (f i) = true) (h4 : q < n → blankB (f q) = false) : k = q := by
  obtain ⟨r1, r2, r3, r4⟩ := hF
  rcases Nat.lt_trichotomy q k with h | h | h
  · have a := r3 q h1 h
    have c := h4 (by omega)
    rw [a] at c; exact absurd c (by decide)
  · exact h.symm
  · have a := h3 k r1 h
    rw [a] at r4; exact absurd r4 (by decide)

set_option maxHeartbeats 1000000 in
theorem value_str (B : Nat) (w0 : World) (bd b n : Nat) (f : Nat → Int) (p k e0 : Nat) (hn : n ≤ 1048576) (hp : p ≤ n) (hF : First f n p k) (h34 : f k = 34) (hs : SxE f n (k + 1) e0) (w : World) (h : Jt B w0 w bd b n f p) :
    Calls Try.prog 31 #[.pointer (some ⟨bd, 0, none⟩)] w fun e w' => e = .returned (.slice (some ⟨b, k, none⟩) (e0 - k) (n - k)) ∧ Jt B w0 w' bd b n f e0 := by
  have hbd : k + 1 < e0 ∧ e0 ≤ n := by obtain ⟨g, hg⟩ := hs; have := hg.bound; omega
  have HF : Hid (First f n p k) := hF
  have HS : Hid (SxE f n (k + 1) e0) := hs
  have t34 : (f k == 34) = true := by simpa using h34
  have hkn : (k : Int) < (n : Int) := by have := hF.2.1; omega
  clear hF hs h34
  go_enter Try.func31, Try.ntmps31
  go_wp2_with fail
  refine (skip_any B w0 bd b n f p hn hp _ h).mono ?_
  rintro e w1 ⟨rfl, q, q1, q2, q3, q4, hj⟩
  obtain rfl := first_eq HF.out q1 q2 q3 q4
  clear q3 q4 h
  have c0 := hj.c0
  have c1 := hj.c1
  have fz := hj.fz
  have cc := hj.cell (i := k) (by omega)
  have HJ : Hid (Jt B w0 w1 bd b n f k) := hj
  clear hj
  go_wp2_with fail
  go_quiet (fail)
  go_wp2_with fail
  refine (stringEnd_any B w0 bd b n f k k e0 hn _ (HJ.out.drewN _) HS.out).mono ?_
  rintro e w2 ⟨rfl, rfl⟩
  go_wp2_with fail
  have hke : (k : Int) ≤ (e0 : Int) := by omega
  have hen : (e0 : Int) ≤ (n : Int) := by omega
  have hne : ¬ n = k := by omega
  go_quiet (fail)
  go_wp2_with fail
  go_ret
  refine ⟨rfl, ?_⟩
  exact ((HJ.out.drewN _).set e0).drewN _

end Go.Proofs.Qxb6601664a
