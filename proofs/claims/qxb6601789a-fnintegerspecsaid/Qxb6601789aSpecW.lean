import Derived.Test.Qxb6601789aSpec
namespace Go.Proofs.Qxb6601789a
open Go.RowKit
set_option linter.unusedVariables false

set_option maxHeartbeats 1000000 in
theorem spec_fail (a0 : Option Addr) (N c0 : Nat) (fl : Bool) (x : Int) (g : Nat → Int) (w : World) (hN : N ≤ 1048576) (hd : In .u8 w a0 N c0 g) (hf : fl = true ∨ (fl = false ∧ (N : Int) < x)) :
    Calls Try.prog 4 #[.slice a0 N c0, .bool fl, .int .i64 x] w fun e w' => e = .returned (.bool true) ∧ Below w.heap.size w w' := by
  have HD : Hid (In .u8 w a0 N c0 g) := hd
  have HF : Hid (fl = true ∨ (N : Int) < x) := by
    rcases hf with h | h
    · exact .inl h
    · exact .inr h.2
  have hneg : fl = true ∨ (fl = false ∧ (N : Int) < x ∧ decide (x < 0) = false ∧ decide ((N : Int) < x) = true) := by
    rcases hf with h | ⟨h, h2⟩
    · exact .inl h
    · exact .inr ⟨h, h2, by simp; omega, by simp; omega⟩
  have h1 : decide ((1048576 : Int) < (N : Int)) = false := by simp; omega
  clear hd hf
  have hcs : (fl = true ∧ x < 0) ∨ (fl = true ∧ ¬ x < 0) ∨ (fl = false ∧ (N : Int) < x ∧ decide (x < 0) = false ∧ decide ((N : Int) < x) = true) := by
    rcases hneg with h | h
    · by_cases hx0 : x < 0
      · exact .inl ⟨h, hx0⟩
      · exact .inr (.inl ⟨h, hx0⟩)
    · exact .inr (.inr h)
  clear hneg HF
  rcases hcs with ⟨rfl, hx⟩ | ⟨rfl, hx⟩ | ⟨rfl, hx, hd1, hd2⟩
  all_goals
    go_enter Try.func4, Try.ntmps4
    go_wp2_with fail
    refine (bytes12 _ _ _ _ _ _ hN).mono ?_
    rintro e w' ⟨rfl, hw⟩
    obtain rfl := hw.symm
    clear hw
    go_wp2_with fail
    refine (clone_any a0 N c0 g _ hN HD.out).mono ?_
    rintro e w1 ⟨⟨v, rfl, hcl⟩, hb1⟩
    obtain ⟨A, rfl, hA⟩ := hcl.form
    have HA : Hid (Cur .u8 w1 (.slice A N N) N g) := hA
    have HB1 : Hid (Below w.heap.size w w1) := hb1
    clear hcl hA hb1
    go_wp2_with fail
    refine (zzint_no A N N x _ g _ (by first | exact .inl rfl | exact .inr hx) HA.out).mono ?_
    rintro e w2 ⟨rfl, hb2⟩
    have HA2 : Hid (Cur .u8 w2 (.slice A N N) N g) := HA.out.below hb2 (Nat.le_refl _)
    have HB2 : Hid (Below w.heap.size w w2) := HB1.out.trans (hb2.mono HB1.out.size)
    clear hb2 HA HB1
    go_wp2_with fail
    refine (equal_any A A N N N N g g _ (by omega) HA2.out HA2.out).mono ?_
    rintro e w3 ⟨⟨r, rfl, hr⟩, nd, rfl⟩
    obtain rfl : r = true := hr.2 ⟨rfl, fun _ _ => rfl⟩
    clear hr
    go_wp2_with fail
    go_ret
    exact ⟨rfl, below_drewN HB2.out _⟩

set_option maxRecDepth 4000 in
set_option maxHeartbeats 2000000 in
theorem spec_ok (a0 : Option Addr) (N c0 k : Nat) (g : Nat → Int) (w : World) (hN : N ≤ 1048576) (hk : k ≤ N) (hd : In .u8 w a0 N c0 g) (hg : ∀ i, 0 ≤ g i ∧ g i ≤ 255) :
    Calls Try.prog 4 #[.slice a0 N c0, .bool false, .int .i64 k] w fun e w' => e = .returned (.bool true) ∧ Below w.heap.size w w' := by
  have HD : Hid (In .u8 w a0 N c0 g) := hd
  have HG : Hid (∀ i, 0 ≤ g i ∧ g i ≤ 255) := hg
  have h1 : decide ((1048576 : Int) < (N : Int)) = false := by simp; omega
  have h2 : decide ((k : Int) < 0) = false := by simp
  have h3 : decide (N < k) = false := by simp; omega
  clear hd hg
  go_enter Try.func4, Try.ntmps4
  go_wp2_with fail
  refine (bytes12 _ _ _ _ _ _ hN).mono ?_
  rintro e w' ⟨rfl, hw⟩
  obtain rfl := hw.symm
  clear hw
  go_wp2_with fail
  refine (clone_any a0 N c0 g _ hN HD.out).mono ?_
  rintro e w1 ⟨⟨v, rfl, hcl⟩, hb1⟩
  obtain ⟨A, rfl, hA⟩ := hcl.form
  have HA : Hid (Cur .u8 w1 (.slice A N N) N g) := hA
  have HB1 : Hid (Below w.heap.size w w1) := hb1
  clear hcl hA hb1
  go_wp2_with fail
  refine (zzint_ok A N N k g _ (by omega) hk HG.out HA.out).mono ?_
  rintro e w2 ⟨⟨A2, c2, rfl, h2c⟩, hb2⟩
  have HR : Hid (Cur .u8 w2 (.slice A2 (N - k) c2) (N - k) (fun i => g (k + i))) := h2c
  have HA2 : Hid (Cur .u8 w2 (.slice A N N) N g) := HA.out.below hb2 (Nat.le_refl _)
  have HB2 : Hid (Below w.heap.size w w2) := HB1.out.trans (hb2.mono HB1.out.size)
  clear hb2 HA HB1 h2c HD
  obtain ⟨x, hx⟩ : ∃ x : Nat, x = be g k := ⟨_, rfl⟩
  have HX : Hid (x = be g k) := hx
  rw [← hx]
  clear hx
  go_wp2_with fail
  go_loop [10, 11, 12] (fun W S t => ∃ j wn s : Nat, j ≤ k ∧ j ≤ 8 ∧ t = .int .i64 j ∧ W = .int .u64 wn ∧ S = .int .u64 s ∧ wn = low g k j ∧ s = sc j) (fun _ _ t => 8 - (intOf t).toNat)
  case atStart => exact ⟨0, 0, 1, by omega, by omega, rfl, rfl, rfl, rfl, rfl⟩
  case round =>
    obtain ⟨j, wn, s, hj, hj8, rfl, rfl, rfl, hwn, hs⟩ := hrel
    have HW : Hid (wn = low g k j) := hwn
    have HSC : Hid (s = sc j) := hs
    clear hwn hs
    by_cases hlt : j < k
    · by_cases hlt8 : j < 8
      · obtain ⟨b, o, rfl, hc⟩ := HA2.out.spot (by omega)
        have e1 := hc (k - 1 - j) (by omega)
        have eg := HG.out (k - 1 - j)
        clear hc
        go_wp2_with fail
        go_round
        case rel =>
          refine ⟨j + 1, low g k (j + 1), sc (j + 1), by omega, by omega, by go_num, ?_, ?_, rfl, rfl⟩
          · rw [← want_step g HG.out k j hlt8, ← HW.out, ← HSC.out]
          · rw [← sc_step j, ← HSC.out]
        case measure => simp [intOf]; omega
      · have hxw : x = wn := by rw [HX.out, HW.out, be_is g HG.out k]; congr 1; omega
        subst hxw
        have hne2 : (((N - k : Nat) : Int) != (N : Int) - (k : Int)) = false := by simp; omega
        clear HW HSC HX
        go_wp2_with fail
        go_loopg [13] (N - k) (fun gg t wr => ∃ i nd : Nat, gg = N - k - i ∧ i ≤ N - k ∧ t = .int .i64 i ∧ w2.drewN nd = wr)
        case atStart => exact ⟨0, 0, rfl, by omega, rfl, rfl⟩
        case round =>
          obtain ⟨i, nd, rfl, hi, rfl, rfl⟩ := hrel
          by_cases hik : i < N - k
          · obtain ⟨b1, o1, rfl, hc1⟩ := HR.out.spot (by omega)
            obtain ⟨bA, oA, rfl, hcA⟩ := HA2.out.spot (by omega)
            have e1 := hc1 i hik
            have eA := hcA (k + i) (by omega)
            have i1 : (i : Int) < ((N - k : Nat) : Int) := by omega
            have iA : (k : Int) + (i : Int) < (N : Int) := by omega
            clear hc1 hcA
            go_wp2_with fail
            go_quiet (fail)
            go_wp2_with fail
            go_roundg (N - k - (i + 1))
            case measure => omega
            case rel => exact ⟨i + 1, nd + nq, rfl, by omega, by go_num, rfl⟩
          · go_wp2_with fail
            go_ret
            exact ⟨rfl, below_drewN HB2.out _⟩
    · have hxw : x = wn := by rw [HX.out, HW.out, be_is g HG.out k]; congr 1; omega
      subst hxw
      have hne2 : (((N - k : Nat) : Int) != (N : Int) - (k : Int)) = false := by simp; omega
      clear HW HSC HX
      go_wp2_with fail
      go_loopg [13] (N - k) (fun gg t wr => ∃ i nd : Nat, gg = N - k - i ∧ i ≤ N - k ∧ t = .int .i64 i ∧ w2.drewN nd = wr)
      case atStart => exact ⟨0, 0, rfl, by omega, rfl, rfl⟩
      case round =>
        obtain ⟨i, nd, rfl, hi, rfl, rfl⟩ := hrel
        by_cases hik : i < N - k
        · obtain ⟨b1, o1, rfl, hc1⟩ := HR.out.spot (by omega)
          obtain ⟨bA, oA, rfl, hcA⟩ := HA2.out.spot (by omega)
          have e1 := hc1 i hik
          have eA := hcA (k + i) (by omega)
          have i1 : (i : Int) < ((N - k : Nat) : Int) := by omega
          have iA : (k : Int) + (i : Int) < (N : Int) := by omega
          clear hc1 hcA
          go_wp2_with fail
          go_quiet (fail)
          go_wp2_with fail
          go_roundg (N - k - (i + 1))
          case measure => omega
          case rel => exact ⟨i + 1, nd + nq, rfl, by omega, by go_num, rfl⟩
        · go_wp2_with fail
          go_ret
          exact ⟨rfl, below_drewN HB2.out _⟩

end Go.Proofs.Qxb6601789a
