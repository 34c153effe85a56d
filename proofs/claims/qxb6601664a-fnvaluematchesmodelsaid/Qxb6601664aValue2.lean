import Derived.Test.Qxb6601664aValue
namespace Go.Proofs.Qxb6601664a
open Go.RowKit
set_option linter.unusedVariables false

set_option maxHeartbeats 1000000 in
theorem value_lit (B : Nat) (w0 : World) (bd b n : Nat) (f : Nat → Int) (p k e0 : Nat) (hn : n ≤ 1048576) (hp : p ≤ n) (hF : First f n p k)
    (t34 : (f k == 34) = false) (t1 : (f k == 123) = false) (t2 : (f k == 91) = false) (hke0 : k ≤ e0) (hen0 : e0 ≤ n) (hlo : ∀ i, k ≤ i → i < e0 → enderB (f i) = false) (hhi : e0 < n → enderB (f e0) = true)
    (w : World) (h : Jt B w0 w bd b n f p) :
    Calls Try.prog 31 #[.pointer (some ⟨bd, 0, none⟩)] w fun e w' => e = .returned (.slice (some ⟨b, k, none⟩) (e0 - k) (n - k)) ∧ Jt B w0 w' bd b n f e0 := by
  have HF : Hid (First f n p k) := hF
  have hkn : (k : Int) < (n : Int) := by have := hF.2.1; omega
  have HL : Hid (∀ i, k ≤ i → i < e0 → enderB (f i) = false) := hlo
  have HH : Hid (e0 < n → enderB (f e0) = true) := hhi
  clear hF hlo hhi
  go_enter Try.func31, Try.ntmps31
  go_wp2_with fail
  refine (skip_any B w0 bd b n f p hn hp _ h).mono ?_
  rintro e w1 ⟨rfl, q, q1, q2, q3, q4, hj⟩
  obtain rfl := first_eq HF.out q1 q2 q3 q4
  clear q3 q4 h
  have c0 := hj.c0
  have c1 := hj.c1
  have fz := hj.fz
  have cc := hj.cell (i := k) (by omega)
  have HJ : Hid (Jt B w0 w1 bd b n f k) := hj
  clear hj
  go_wp2_with fail
  go_quiet (fail)
  go_wp2_with fail
  go_loopg [] (n - k) (fun g wr => ∃ m : Nat, g = n - m ∧ k ≤ m ∧ m ≤ e0 ∧ Jt B w0 wr bd b n f m)
  case atStart => exact ⟨k, rfl, by omega, hke0, HJ.out.drewN _⟩
  case round =>
    clear c0 c1 fz cc HJ
    obtain ⟨m, rfl, hkm, hme, hj⟩ := hrel
    have c0 := hj.c0
    have c1 := hj.c1
    have fz := hj.fz
    have HJ : Hid (Jt B w0 wr bd b n f m) := hj
    by_cases hlt : m < n
    · have hi : (m : Int) < (n : Int) := by omega
      have cc := hj.cell hlt
      clear hj
      by_cases hm : m < e0
      · have he : enderB (f m) = false := HL.out m hkm hm
        go_wp2_with fail
        go_quiet ((go_at_call 37; exact Calls.quiet_of_same (endsLiteral_any _ _)))
        go_wp2_with fail
        go_roundg (n - (m + 1))
        case measure => omega
        case rel => exact ⟨m + 1, rfl, by omega, by omega, (HJ.out.drewN _).set (m + 1)⟩
      · obtain rfl : m = e0 := by omega
        have he : enderB (f m) = true := HH.out hlt
        go_wp2_with fail
        go_quiet ((go_at_call 37; exact Calls.quiet_of_same (endsLiteral_any _ _)))
        go_wp2_with fail
        have hke : (k : Int) ≤ (m : Int) := by omega
        have hen : (m : Int) ≤ (n : Int) := by omega
        have hne : ¬ n = k := by omega
        go_quiet (fail)
        go_wp2_with fail
        go_ret
        refine ⟨rfl, ?_⟩
        exact (HJ.out.drewN _).drewN _
    · have hi : decide ((m : Int) < (n : Int)) = false := by simpa using hlt
      clear hj
      obtain rfl : m = e0 := by omega
      go_wp2_with fail
      go_quiet ((go_at_call 37; exact Calls.quiet_of_same (endsLiteral_any _ _)))
      go_wp2_with fail
      have hke : (k : Int) ≤ (m : Int) := by omega
      have hen : (m : Int) ≤ (n : Int) := by omega
      have hne : ¬ n = k := by omega
      go_quiet (fail)
      go_wp2_with fail
      go_ret
      refine ⟨rfl, ?_⟩
      exact (HJ.out.drewN _).drewN _

end Go.Proofs.Qxb6601664a
