import Derived.Test.Qxb6601745aLex
namespace Go.Proofs.Qxb6601745a
open Go.RowKit
set_option linter.unusedVariables false

theorem model_nil (w : World) : Calls Try.prog 8 #[.slice none 0 0] w fun e w' => e = .returned (.tuple #[.int .i64 0, .bool true]) ∧ w' = w := by
  go_enter Try.func8, Try.ntmps8
  go_wp2
  refine wp_loop_rounds 1 ?_
  rw [rounds_succ]
  go_wp2
  refine wp_loop_rounds 1 ?_
  rw [rounds_succ]
  go_wp2
  refine wp_loop_rounds 1 ?_
  rw [rounds_succ]
  go_wp2
  go_ret2
  exact ⟨rfl, rfl⟩

set_option maxHeartbeats 4000000 in
theorem model_pos (b n : Nat) (f : Nat → Int) (hn : n ≤ 1048576) (w : World) (hr : w.rowIs b 5 n (fun i => .int .u8 (f i))) (hb : ∀ i, i < n → 0 ≤ f i ∧ f i ≤ 255) (hn0 : 0 < n) (h45 : f 0 ≠ 45) :
    Calls Try.prog 8 #[.slice (some ⟨b, 0, none⟩) n n] w fun e w' => PPost f 0 n false e ∧ ∃ nd, w' = w.drewN nd := by
  have HR : Hid (w.rowIs b 5 n (fun i => .int .u8 (f i))) := hr
  have HB : Hid (∀ i, i < n → 0 ≤ f i ∧ f i ≤ 255) := hb
  have hc0 := hr.cell hn0
  have hf0 : (f 0 == 45) = false := by simpa using h45
  clear hr hb h45
  go_enter Try.func8, Try.ntmps8
  go_wp2_with fail
  go_loop [6] (fun t => ∃ k : Nat, 0 ≤ k ∧ k ≤ n ∧ t = .int .i64 k ∧ Digs f 0 k) (fun t => n - (intOf t).toNat)
  case atStart => exact ⟨0, by omega, by omega, rfl, fun i h1 h2 => by omega⟩
  case round =>
    obtain ⟨k, hsk, hk, rfl, hd⟩ := hrel
    have HD1 : Hid (Digs f 0 k) := hd
    clear hd
    by_cases hlt : k < n
    · have ck := HR.out.cell hlt
      have bk := HB.out k hlt
      by_cases h48 : f k < 48
      · go_wp2_with fail
        go_ret2
        exact ⟨.inr ⟨fun h => by have := h.1 k hsk hlt; omega, rfl⟩, 0, rfl⟩
      · by_cases h57 : 57 < f k
        · go_wp2_with fail
          go_ret2
          exact ⟨.inr ⟨fun h => by have := h.1 k hsk hlt; omega, rfl⟩, 0, rfl⟩
        · go_wp2_with fail
          go_round
          case rel =>
            refine ⟨k + 1, by omega, by omega, by go_num, fun i h1 h2 => ?_⟩
            by_cases e : i = k
            · rw [e]; omega
            · exact HD1.out i h1 (by omega)
          case measure => simp [intOf]; omega
    · obtain rfl : n = k := by omega
      have HD : Hid (Digs f 0 n) := HD1.out
      clear HD1
      go_wp2_with fail
      go_loopg [4] (n - 0) (fun g t wr => ∃ z : Nat, g = n - z ∧ w = wr ∧ 0 ≤ z ∧ z ≤ n ∧ t = .int .i64 z ∧ ∀ i, 0 ≤ i → i < z → f i = 48)
      case atStart => exact ⟨0, rfl, rfl, by omega, by omega, rfl, fun i h1 h2 => by omega⟩
      case round =>
        obtain ⟨z, rfl, rfl, hsz, hzn, rfl, hz⟩ := hrel
        have HZ : Hid (∀ i, 0 ≤ i → i < z → f i = 48) := hz
        clear hz
        by_cases hltz : z < n
        · have cz := HR.out.cell hltz
          have dz := HD.out z hsz hltz
          by_cases e48 : f z = 48
          · have t48 : (f z == 48) = true := by simpa using e48
            have H48 : Hid (f z = 48) := e48
            clear e48
            go_wp2_with fail
            go_roundg (n - (z + 1))
            case measure => omega
            case rel =>
              refine ⟨z + 1, rfl, rfl, by omega, by omega, by go_num, fun i h1 h2 => ?_⟩
              by_cases e : i = z
              · rw [e]; exact H48.out
              · exact HZ.out i h1 (by omega)
          · have t48 : (f z == 48) = false := by simpa using e48
            have h49 : 49 ≤ f z := by omega
            have hne : ¬ n = z := by omega
            clear e48
            rcases Nat.lt_trichotomy (n - z) 19 with h19 | h19 | h19
            · have t19 : (((n - z : Nat) : Int) == 19) = false := by simp; omega
              have t19' : decide ((19 : Int) < ((n - z : Nat) : Int)) = false := by simp; omega
              go_wp2_with fail
              have HV : Hid (val f z (n - z) ≤ lim false) := short_ok (fun i h1 h2 => HD.out i (by omega) h2) (by omega) h19
              go_loopg [10, 11] (n - z) (fun g A t wr => ∃ k v : Nat, g = n - z - k ∧ k ≤ n - z ∧ t = .int .i64 k ∧ A = .int .i64 ((v : Int)) ∧ v = val f z k ∧ ∃ nd, w.drewN nd = wr)
              case atStart => exact ⟨0, 0, rfl, by omega, rfl, rfl, rfl, 0, rfl⟩
              case round =>
                obtain ⟨k, v, rfl, hk, rfl, rfl, hvk, nd, rfl⟩ := hrel
                have HK : Hid (v = val f z k) := hvk
                clear hvk
                by_cases hlt4 : k < n - z
                · have ck4 := HR.out.cell (i := z + k) (by omega)
                  have dk := HD.out (z + k) (by omega) (by omega)
                  have vb : (v : Int) * 10 + (f (z + k) - 48) ≤ 9223372036854775807 := by
                    have a := val_mono f z (show k + 1 ≤ n - z by omega)
                    have c : val f z (k + 1) = v * 10 + (f (z + k) - 48).toNat := by show val f z k * 10 + _ = _; rw [HK.out]
                    have d : val f z (n - z) ≤ 9223372036854775807 := HV.out
                    omega
                  have e10 : ((v * 10 + (f (z + k) - 48).toNat : Nat) : Int) = (v : Int) * 10 + (f (z + k) - 48) := by omega
                  have HE : Hid (((v * 10 + (f (z + k) - 48).toNat : Nat) : Int) = (v : Int) * 10 + (f (z + k) - 48)) := e10
                  have HN : Hid (v * 10 + (f (z + k) - 48).toNat = val f z (k + 1)) := by show _ = val f z k * 10 + _; rw [HK.out]
                  clear e10
                  go_wp2_with fail
                  go_roundg (n - z - (k + 1))
                  case measure => omega
                  case rel => exact ⟨k + 1, v * 10 + (f (z + k) - 48).toNat, rfl, by omega, by go_num, by rw [HE.out], HN.out, _, rfl⟩
                · have ek : k = n - z := by omega
                  have HEK : Hid (k = n - z) := ek
                  clear ek
                  go_wp2_with fail
                  go_ret2
                  exact ⟨model_yes (z := z) (by omega) (by omega) HD.out HZ.out HV.out _ (by rw [← HEK.out, ← HK.out]; rfl), _, rfl⟩
            · have t19 : (((n - z : Nat) : Int) == 19) = true := by simp; omega
              have t19' : decide ((19 : Int) < ((n - z : Nat) : Int)) = false := by simp; omega
              have H19 : Hid (n - z = 19) := h19
              have g19 : 19 ≤ n - z := by omega
              have g19' : n - z ≤ 19 := by omega
              clear h19
              go_wp2_with fail
              obtain ⟨S, hS⟩ : ∃ S : ByteArray, S = limP := ⟨_, rfl⟩
              have hsz19 : S.size = 19 := by rw [hS]; rfl
              have HLV : Hid (val (PlainAid.bt S) 0 19 = lim false) := by rw [hS]; exact limS_val false
              have HLD : Hid (Digs (PlainAid.bt S) 0 19) := by rw [hS]; exact limS_digs false
              have HDZ : Hid (Digs f z (z + 19)) := fun i h1 h2 => HD.out i (by omega) (by omega)
              unfold limP at hS
              rw [← hS]
              clear hS
              have hbt := PlainAid.get_bt S
              go_loopg [9] 19 (fun g t wr => ∃ k : Nat, g = 19 - k ∧ k ≤ 19 ∧ t = .int .i64 k ∧ (∀ j, j < k → f (z + j) = PlainAid.bt S j) ∧ ∃ nd, w.drewN nd = wr)
              case atStart => exact ⟨0, rfl, by omega, rfl, fun j h => by omega, 0, rfl⟩
              case round =>
                obtain ⟨k3, rfl, hk19, rfl, hq, nd, rfl⟩ := hrel
                have HQ : Hid (∀ j, j < k3 → f (z + j) = PlainAid.bt S j) := hq
                clear hq
                by_cases hk3 : k3 < 19
                · have ck3 := HR.out.cell (i := z + k3) (by omega)
                  have hi1 : (k3 : Int) < ((n - z : Nat) : Int) := by omega
                  have hi2 : (k3 : Int) < (S.size : Int) := by omega
                  have hi3 : k3 < S.size := by omega
                  rcases Int.lt_trichotomy (f (z + k3)) (PlainAid.bt S k3) with hclt | hceq | hcgt
                  · go_wp2_with fail
                    go_quiet (fail)
                    go_wp2_with fail
                    have HV : Hid (val f z (n - z) ≤ lim false) := by
                      have h := lex_lt (m := 19) hk3 HDZ.out HLD.out HQ.out hclt
                      rw [HLV.out, ← H19.out] at h
                      show val f z (n - z) ≤ lim _
                      omega
                    go_loopg [10, 11] (n - z) (fun g A t wr => ∃ k v : Nat, g = n - z - k ∧ k ≤ n - z ∧ t = .int .i64 k ∧ A = .int .i64 ((v : Int)) ∧ v = val f z k ∧ ∃ nd, w.drewN nd = wr)
                    case atStart => exact ⟨0, 0, rfl, by omega, rfl, rfl, rfl, nd + nq, by rw [World.drewN_drewN]⟩
                    case round =>
                      obtain ⟨k, v, rfl, hk, rfl, rfl, hvk, nd, rfl⟩ := hrel
                      have HK : Hid (v = val f z k) := hvk
                      clear hvk
                      by_cases hlt4 : k < n - z
                      · have ck4 := HR.out.cell (i := z + k) (by omega)
                        have dk := HD.out (z + k) (by omega) (by omega)
                        have vb : (v : Int) * 10 + (f (z + k) - 48) ≤ 9223372036854775807 := by
                          have a := val_mono f z (show k + 1 ≤ n - z by omega)
                          have c : val f z (k + 1) = v * 10 + (f (z + k) - 48).toNat := by show val f z k * 10 + _ = _; rw [HK.out]
                          have d : val f z (n - z) ≤ 9223372036854775807 := HV.out
                          omega
                        have e10 : ((v * 10 + (f (z + k) - 48).toNat : Nat) : Int) = (v : Int) * 10 + (f (z + k) - 48) := by omega
                        have HE : Hid (((v * 10 + (f (z + k) - 48).toNat : Nat) : Int) = (v : Int) * 10 + (f (z + k) - 48)) := e10
                        have HN : Hid (v * 10 + (f (z + k) - 48).toNat = val f z (k + 1)) := by show _ = val f z k * 10 + _; rw [HK.out]
                        clear e10
                        go_wp2_with fail
                        go_roundg (n - z - (k + 1))
                        case measure => omega
                        case rel => exact ⟨k + 1, v * 10 + (f (z + k) - 48).toNat, rfl, by omega, by go_num, by rw [HE.out], HN.out, _, rfl⟩
                      · have ek : k = n - z := by omega
                        have HEK : Hid (k = n - z) := ek
                        clear ek
                        go_wp2_with fail
                        go_ret2
                        exact ⟨model_yes (z := z) (by omega) (by omega) HD.out HZ.out HV.out _ (by rw [← HEK.out, ← HK.out]; rfl), _, rfl⟩
                  · have HCE : Hid (f (z + k3) = PlainAid.bt S k3) := hceq
                    have e1 : ¬ f (z + k3) < PlainAid.bt S k3 := by omega
                    have e2 : ¬ PlainAid.bt S k3 < f (z + k3) := by omega
                    clear hceq
                    go_wp2_with fail
                    go_quiet (fail)
                    go_wp2_with fail
                    go_quiet (fail)
                    go_wp2_with fail
                    go_roundg (19 - (k3 + 1))
                    case measure => omega
                    case rel =>
                      refine ⟨k3 + 1, rfl, by omega, by go_num, fun j hj => ?_, ?_⟩
                      · by_cases e : j = k3
                        · rw [e]; exact HCE.out
                        · exact HQ.out j (by omega)
                      · exact ⟨_, rfl⟩
                  · have e1 : ¬ f (z + k3) < PlainAid.bt S k3 := by omega
                    go_wp2_with fail
                    go_quiet (fail)
                    go_wp2_with fail
                    go_quiet (fail)
                    go_wp2_with fail
                    go_ret2
                    refine ⟨model_no (z := z) (by omega) (by omega) HZ.out ?_, _, by rw [World.drewN_drewN, World.drewN_drewN]⟩
                    have h := lex_gt (m := 19) hk3 HDZ.out HLD.out HQ.out hcgt
                    rw [HLV.out, ← H19.out] at h
                    exact h
                · obtain rfl : k3 = 19 := by omega
                  go_wp2_with fail
                  have HV : Hid (val f z (n - z) ≤ lim false) := by
                    have h := lex_eq (m := 19) HQ.out
                    rw [HLV.out, ← H19.out] at h
                    show val f z (n - z) ≤ lim _
                    omega
                  go_loopg [10, 11] (n - z) (fun g A t wr => ∃ k v : Nat, g = n - z - k ∧ k ≤ n - z ∧ t = .int .i64 k ∧ A = .int .i64 ((v : Int)) ∧ v = val f z k ∧ ∃ nd, w.drewN nd = wr)
                  case atStart => exact ⟨0, 0, rfl, by omega, rfl, rfl, rfl, nd, rfl⟩
                  case round =>
                    obtain ⟨k, v, rfl, hk, rfl, rfl, hvk, nd, rfl⟩ := hrel
                    have HK : Hid (v = val f z k) := hvk
                    clear hvk
                    by_cases hlt4 : k < n - z
                    · have ck4 := HR.out.cell (i := z + k) (by omega)
                      have dk := HD.out (z + k) (by omega) (by omega)
                      have vb : (v : Int) * 10 + (f (z + k) - 48) ≤ 9223372036854775807 := by
                        have a := val_mono f z (show k + 1 ≤ n - z by omega)
                        have c : val f z (k + 1) = v * 10 + (f (z + k) - 48).toNat := by show val f z k * 10 + _ = _; rw [HK.out]
                        have d : val f z (n - z) ≤ 9223372036854775807 := HV.out
                        omega
                      have e10 : ((v * 10 + (f (z + k) - 48).toNat : Nat) : Int) = (v : Int) * 10 + (f (z + k) - 48) := by omega
                      have HE : Hid (((v * 10 + (f (z + k) - 48).toNat : Nat) : Int) = (v : Int) * 10 + (f (z + k) - 48)) := e10
                      have HN : Hid (v * 10 + (f (z + k) - 48).toNat = val f z (k + 1)) := by show _ = val f z k * 10 + _; rw [HK.out]
                      clear e10
                      go_wp2_with fail
                      go_roundg (n - z - (k + 1))
                      case measure => omega
                      case rel => exact ⟨k + 1, v * 10 + (f (z + k) - 48).toNat, rfl, by omega, by go_num, by rw [HE.out], HN.out, _, rfl⟩
                    · have ek : k = n - z := by omega
                      have HEK : Hid (k = n - z) := ek
                      clear ek
                      go_wp2_with fail
                      go_ret2
                      exact ⟨model_yes (z := z) (by omega) (by omega) HD.out HZ.out HV.out _ (by rw [← HEK.out, ← HK.out]; rfl), _, rfl⟩
            · have t19' : decide ((19 : Int) < ((n - z : Nat) : Int)) = true := by simp; omega
              go_wp2_with fail
              go_ret2
              exact ⟨model_no (z := z) (by omega) (by omega) HZ.out (long_no h49 h19), 0, rfl⟩
        · obtain rfl : n = z := by omega
          go_wp2_with fail
          refine wp_loop_rounds 1 ?_
          rw [rounds_succ]
          go_wp2_with fail
          go_ret2
          exact ⟨model_yes (z := n) (by omega) (by omega) HD.out HZ.out (by rw [Nat.sub_self]; exact Nat.zero_le _) _ (by rw [Nat.sub_self]; rfl), 0, rfl⟩

set_option maxHeartbeats 4000000 in
theorem model_neg (b n : Nat) (f : Nat → Int) (hn : n ≤ 1048576) (w : World) (hr : w.rowIs b 5 n (fun i => .int .u8 (f i))) (hb : ∀ i, i < n → 0 ≤ f i ∧ f i ≤ 255) (hn0 : 0 < n) (h45 : f 0 = 45) :
    Calls Try.prog 8 #[.slice (some ⟨b, 0, none⟩) n n] w fun e w' => PPost f 1 n true e ∧ ∃ nd, w' = w.drewN nd := by
  have HR : Hid (w.rowIs b 5 n (fun i => .int .u8 (f i))) := hr
  have HB : Hid (∀ i, i < n → 0 ≤ f i ∧ f i ≤ 255) := hb
  have hc0 := hr.cell hn0
  have hf0 : (f 0 == 45) = true := by simpa using h45
  clear hr hb h45
  go_enter Try.func8, Try.ntmps8
  go_wp2_with fail
  go_loop [6] (fun t => ∃ k : Nat, 1 ≤ k ∧ k ≤ n ∧ t = .int .i64 k ∧ Digs f 1 k) (fun t => n - (intOf t).toNat)
  case atStart => exact ⟨1, by omega, by omega, rfl, fun i h1 h2 => by omega⟩
  case round =>
    obtain ⟨k, hsk, hk, rfl, hd⟩ := hrel
    have HD1 : Hid (Digs f 1 k) := hd
    clear hd
    by_cases hlt : k < n
    · have ck := HR.out.cell hlt
      have bk := HB.out k hlt
      by_cases h48 : f k < 48
      · go_wp2_with fail
        go_ret2
        exact ⟨.inr ⟨fun h => by have := h.1 k hsk hlt; omega, rfl⟩, 0, rfl⟩
      · by_cases h57 : 57 < f k
        · go_wp2_with fail
          go_ret2
          exact ⟨.inr ⟨fun h => by have := h.1 k hsk hlt; omega, rfl⟩, 0, rfl⟩
        · go_wp2_with fail
          go_round
          case rel =>
            refine ⟨k + 1, by omega, by omega, by go_num, fun i h1 h2 => ?_⟩
            by_cases e : i = k
            · rw [e]; omega
            · exact HD1.out i h1 (by omega)
          case measure => simp [intOf]; omega
    · obtain rfl : n = k := by omega
      have HD : Hid (Digs f 1 n) := HD1.out
      clear HD1
      go_wp2_with fail
      go_loopg [4] (n - 1) (fun g t wr => ∃ z : Nat, g = n - z ∧ w = wr ∧ 1 ≤ z ∧ z ≤ n ∧ t = .int .i64 z ∧ ∀ i, 1 ≤ i → i < z → f i = 48)
      case atStart => exact ⟨1, rfl, rfl, by omega, by omega, rfl, fun i h1 h2 => by omega⟩
      case round =>
        obtain ⟨z, rfl, rfl, hsz, hzn, rfl, hz⟩ := hrel
        have HZ : Hid (∀ i, 1 ≤ i → i < z → f i = 48) := hz
        clear hz
        by_cases hltz : z < n
        · have cz := HR.out.cell hltz
          have dz := HD.out z hsz hltz
          by_cases e48 : f z = 48
          · have t48 : (f z == 48) = true := by simpa using e48
            have H48 : Hid (f z = 48) := e48
            clear e48
            go_wp2_with fail
            go_roundg (n - (z + 1))
            case measure => omega
            case rel =>
              refine ⟨z + 1, rfl, rfl, by omega, by omega, by go_num, fun i h1 h2 => ?_⟩
              by_cases e : i = z
              · rw [e]; exact H48.out
              · exact HZ.out i h1 (by omega)
          · have t48 : (f z == 48) = false := by simpa using e48
            have h49 : 49 ≤ f z := by omega
            have hne : ¬ n = z := by omega
            clear e48
            rcases Nat.lt_trichotomy (n - z) 19 with h19 | h19 | h19
            · have t19 : (((n - z : Nat) : Int) == 19) = false := by simp; omega
              have t19' : decide ((19 : Int) < ((n - z : Nat) : Int)) = false := by simp; omega
              go_wp2_with fail
              have HV : Hid (val f z (n - z) ≤ lim true) := short_ok (fun i h1 h2 => HD.out i (by omega) h2) (by omega) h19
              go_loopg [10, 11] (n - z) (fun g A t wr => ∃ k v : Nat, g = n - z - k ∧ k ≤ n - z ∧ t = .int .i64 k ∧ A = .int .i64 (-(v : Int)) ∧ v = val f z k ∧ ∃ nd, w.drewN nd = wr)
              case atStart => exact ⟨0, 0, rfl, by omega, rfl, rfl, rfl, 0, rfl⟩
              case round =>
                obtain ⟨k, v, rfl, hk, rfl, rfl, hvk, nd, rfl⟩ := hrel
                have HK : Hid (v = val f z k) := hvk
                clear hvk
                by_cases hlt4 : k < n - z
                · have ck4 := HR.out.cell (i := z + k) (by omega)
                  have dk := HD.out (z + k) (by omega) (by omega)
                  have vb : (v : Int) * 10 + (f (z + k) - 48) ≤ 9223372036854775808 := by
                    have a := val_mono f z (show k + 1 ≤ n - z by omega)
                    have c : val f z (k + 1) = v * 10 + (f (z + k) - 48).toNat := by show val f z k * 10 + _ = _; rw [HK.out]
                    have d : val f z (n - z) ≤ 9223372036854775808 := HV.out
                    omega
                  have e10 : -((v * 10 + (f (z + k) - 48).toNat : Nat) : Int) = -(v : Int) * 10 - (f (z + k) - 48) := by omega
                  have HE : Hid (-((v * 10 + (f (z + k) - 48).toNat : Nat) : Int) = -(v : Int) * 10 - (f (z + k) - 48)) := e10
                  have HN : Hid (v * 10 + (f (z + k) - 48).toNat = val f z (k + 1)) := by show _ = val f z k * 10 + _; rw [HK.out]
                  clear e10
                  go_wp2_with fail
                  go_roundg (n - z - (k + 1))
                  case measure => omega
                  case rel => exact ⟨k + 1, v * 10 + (f (z + k) - 48).toNat, rfl, by omega, by go_num, by rw [HE.out], HN.out, _, rfl⟩
                · have ek : k = n - z := by omega
                  have HEK : Hid (k = n - z) := ek
                  clear ek
                  go_wp2_with fail
                  go_ret2
                  exact ⟨model_yes (z := z) (by omega) (by omega) HD.out HZ.out HV.out _ (by rw [← HEK.out, ← HK.out]; rfl), _, rfl⟩
            · have t19 : (((n - z : Nat) : Int) == 19) = true := by simp; omega
              have t19' : decide ((19 : Int) < ((n - z : Nat) : Int)) = false := by simp; omega
              have H19 : Hid (n - z = 19) := h19
              have g19 : 19 ≤ n - z := by omega
              have g19' : n - z ≤ 19 := by omega
              clear h19
              go_wp2_with fail
              obtain ⟨S, hS⟩ : ∃ S : ByteArray, S = limN := ⟨_, rfl⟩
              have hsz19 : S.size = 19 := by rw [hS]; rfl
              have HLV : Hid (val (PlainAid.bt S) 0 19 = lim true) := by rw [hS]; exact limS_val true
              have HLD : Hid (Digs (PlainAid.bt S) 0 19) := by rw [hS]; exact limS_digs true
              have HDZ : Hid (Digs f z (z + 19)) := fun i h1 h2 => HD.out i (by omega) (by omega)
              unfold limN at hS
              rw [← hS]
              clear hS
              have hbt := PlainAid.get_bt S
              go_loopg [9] 19 (fun g t wr => ∃ k : Nat, g = 19 - k ∧ k ≤ 19 ∧ t = .int .i64 k ∧ (∀ j, j < k → f (z + j) = PlainAid.bt S j) ∧ ∃ nd, w.drewN nd = wr)
              case atStart => exact ⟨0, rfl, by omega, rfl, fun j h => by omega, 0, rfl⟩
              case round =>
                obtain ⟨k3, rfl, hk19, rfl, hq, nd, rfl⟩ := hrel
                have HQ : Hid (∀ j, j < k3 → f (z + j) = PlainAid.bt S j) := hq
                clear hq
                by_cases hk3 : k3 < 19
                · have ck3 := HR.out.cell (i := z + k3) (by omega)
                  have hi1 : (k3 : Int) < ((n - z : Nat) : Int) := by omega
                  have hi2 : (k3 : Int) < (S.size : Int) := by omega
                  have hi3 : k3 < S.size := by omega
                  rcases Int.lt_trichotomy (f (z + k3)) (PlainAid.bt S k3) with hclt | hceq | hcgt
                  · go_wp2_with fail
                    go_quiet (fail)
                    go_wp2_with fail
                    have HV : Hid (val f z (n - z) ≤ lim true) := by
                      have h := lex_lt (m := 19) hk3 HDZ.out HLD.out HQ.out hclt
                      rw [HLV.out, ← H19.out] at h
                      show val f z (n - z) ≤ lim _
                      omega
                    go_loopg [10, 11] (n - z) (fun g A t wr => ∃ k v : Nat, g = n - z - k ∧ k ≤ n - z ∧ t = .int .i64 k ∧ A = .int .i64 (-(v : Int)) ∧ v = val f z k ∧ ∃ nd, w.drewN nd = wr)
                    case atStart => exact ⟨0, 0, rfl, by omega, rfl, rfl, rfl, nd + nq, by rw [World.drewN_drewN]⟩
                    case round =>
                      obtain ⟨k, v, rfl, hk, rfl, rfl, hvk, nd, rfl⟩ := hrel
                      have HK : Hid (v = val f z k) := hvk
                      clear hvk
                      by_cases hlt4 : k < n - z
                      · have ck4 := HR.out.cell (i := z + k) (by omega)
                        have dk := HD.out (z + k) (by omega) (by omega)
                        have vb : (v : Int) * 10 + (f (z + k) - 48) ≤ 9223372036854775808 := by
                          have a := val_mono f z (show k + 1 ≤ n - z by omega)
                          have c : val f z (k + 1) = v * 10 + (f (z + k) - 48).toNat := by show val f z k * 10 + _ = _; rw [HK.out]
                          have d : val f z (n - z) ≤ 9223372036854775808 := HV.out
                          omega
                        have e10 : -((v * 10 + (f (z + k) - 48).toNat : Nat) : Int) = -(v : Int) * 10 - (f (z + k) - 48) := by omega
                        have HE : Hid (-((v * 10 + (f (z + k) - 48).toNat : Nat) : Int) = -(v : Int) * 10 - (f (z + k) - 48)) := e10
                        have HN : Hid (v * 10 + (f (z + k) - 48).toNat = val f z (k + 1)) := by show _ = val f z k * 10 + _; rw [HK.out]
                        clear e10
                        go_wp2_with fail
                        go_roundg (n - z - (k + 1))
                        case measure => omega
                        case rel => exact ⟨k + 1, v * 10 + (f (z + k) - 48).toNat, rfl, by omega, by go_num, by rw [HE.out], HN.out, _, rfl⟩
                      · have ek : k = n - z := by omega
                        have HEK : Hid (k = n - z) := ek
                        clear ek
                        go_wp2_with fail
                        go_ret2
                        exact ⟨model_yes (z := z) (by omega) (by omega) HD.out HZ.out HV.out _ (by rw [← HEK.out, ← HK.out]; rfl), _, rfl⟩
                  · have HCE : Hid (f (z + k3) = PlainAid.bt S k3) := hceq
                    have e1 : ¬ f (z + k3) < PlainAid.bt S k3 := by omega
                    have e2 : ¬ PlainAid.bt S k3 < f (z + k3) := by omega
                    clear hceq
                    go_wp2_with fail
                    go_quiet (fail)
                    go_wp2_with fail
                    go_quiet (fail)
                    go_wp2_with fail
                    go_roundg (19 - (k3 + 1))
                    case measure => omega
                    case rel =>
                      refine ⟨k3 + 1, rfl, by omega, by go_num, fun j hj => ?_, ?_⟩
                      · by_cases e : j = k3
                        · rw [e]; exact HCE.out
                        · exact HQ.out j (by omega)
                      · exact ⟨_, rfl⟩
                  · have e1 : ¬ f (z + k3) < PlainAid.bt S k3 := by omega
                    go_wp2_with fail
                    go_quiet (fail)
                    go_wp2_with fail
                    go_quiet (fail)
                    go_wp2_with fail
                    go_ret2
                    refine ⟨model_no (z := z) (by omega) (by omega) HZ.out ?_, _, by rw [World.drewN_drewN, World.drewN_drewN]⟩
                    have h := lex_gt (m := 19) hk3 HDZ.out HLD.out HQ.out hcgt
                    rw [HLV.out, ← H19.out] at h
                    exact h
                · obtain rfl : k3 = 19 := by omega
                  go_wp2_with fail
                  have HV : Hid (val f z (n - z) ≤ lim true) := by
                    have h := lex_eq (m := 19) HQ.out
                    rw [HLV.out, ← H19.out] at h
                    show val f z (n - z) ≤ lim _
                    omega
                  go_loopg [10, 11] (n - z) (fun g A t wr => ∃ k v : Nat, g = n - z - k ∧ k ≤ n - z ∧ t = .int .i64 k ∧ A = .int .i64 (-(v : Int)) ∧ v = val f z k ∧ ∃ nd, w.drewN nd = wr)
                  case atStart => exact ⟨0, 0, rfl, by omega, rfl, rfl, rfl, nd, rfl⟩
                  case round =>
                    obtain ⟨k, v, rfl, hk, rfl, rfl, hvk, nd, rfl⟩ := hrel
                    have HK : Hid (v = val f z k) := hvk
                    clear hvk
                    by_cases hlt4 : k < n - z
                    · have ck4 := HR.out.cell (i := z + k) (by omega)
                      have dk := HD.out (z + k) (by omega) (by omega)
                      have vb : (v : Int) * 10 + (f (z + k) - 48) ≤ 9223372036854775808 := by
                        have a := val_mono f z (show k + 1 ≤ n - z by omega)
                        have c : val f z (k + 1) = v * 10 + (f (z + k) - 48).toNat := by show val f z k * 10 + _ = _; rw [HK.out]
                        have d : val f z (n - z) ≤ 9223372036854775808 := HV.out
                        omega
                      have e10 : -((v * 10 + (f (z + k) - 48).toNat : Nat) : Int) = -(v : Int) * 10 - (f (z + k) - 48) := by omega
                      have HE : Hid (-((v * 10 + (f (z + k) - 48).toNat : Nat) : Int) = -(v : Int) * 10 - (f (z + k) - 48)) := e10
                      have HN : Hid (v * 10 + (f (z + k) - 48).toNat = val f z (k + 1)) := by show _ = val f z k * 10 + _; rw [HK.out]
                      clear e10
                      go_wp2_with fail
                      go_roundg (n - z - (k + 1))
                      case measure => omega
                      case rel => exact ⟨k + 1, v * 10 + (f (z + k) - 48).toNat, rfl, by omega, by go_num, by rw [HE.out], HN.out, _, rfl⟩
                    · have ek : k = n - z := by omega
                      have HEK : Hid (k = n - z) := ek
                      clear ek
                      go_wp2_with fail
                      go_ret2
                      exact ⟨model_yes (z := z) (by omega) (by omega) HD.out HZ.out HV.out _ (by rw [← HEK.out, ← HK.out]; rfl), _, rfl⟩
            · have t19' : decide ((19 : Int) < ((n - z : Nat) : Int)) = true := by simp; omega
              go_wp2_with fail
              go_ret2
              exact ⟨model_no (z := z) (by omega) (by omega) HZ.out (long_no h49 h19), 0, rfl⟩
        · obtain rfl : n = z := by omega
          go_wp2_with fail
          refine wp_loop_rounds 1 ?_
          rw [rounds_succ]
          go_wp2_with fail
          go_ret2
          exact ⟨model_yes (z := n) (by omega) (by omega) HD.out HZ.out (by rw [Nat.sub_self]; exact Nat.zero_le _) _ (by rw [Nat.sub_self]; rfl), 0, rfl⟩

end Go.Proofs.Qxb6601745a
