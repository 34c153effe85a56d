import Derived.Test.Qxb6601664aModel
namespace Go.Proofs.Qxb6601664a
open Go.RowKit
set_option linter.unusedVariables false

def CPost (f : Nat → Int) (n i : Nat) (e : Ending) : Prop :=
  e = .returned (.tuple #[.int .i64 0, .bool false]) ∨ ∃ q : Nat, e = .returned (.tuple #[.int .i64 q, .bool true]) ∧ Cx f n i q

set_option maxHeartbeats 1000000 in
theorem cont_any (b n : Nat) (f : Nat → Int) (hn : n ≤ 1048576) (k : Nat) : ∀ (i : Nat) (w : World), n - i ≤ k → i < n → w.rowIs b 5 n (fun i => .int .u8 (f i)) →
    Calls Try.prog 29 #[.slice (some ⟨b, 0, none⟩) n n, .int .i64 i] w fun e w' => CPost f n i e ∧ w' = w := by
  induction k with
  | zero => intro i w h1 h2; omega
  | succ k ih =>
    intro i w hk hi hr
    have IH : Hid (∀ (i : Nat) (w : World), n - i ≤ k → i < n → w.rowIs b 5 n (fun i => .int .u8 (f i)) →
        Calls Try.prog 29 #[.slice (some ⟨b, 0, none⟩) n n, .int .i64 i] w fun e w' => CPost f n i e ∧ w' = w) := ih
    clear ih
    go_enter Try.func29, Try.ntmps29
    go_wp2_with fail
    go_loop [6] (fun t => ∃ j : Nat, i < j ∧ j ≤ n ∧ t = .int .i64 j ∧ Cin f n i j) (fun t => n - (intOf t).toNat)
    case atStart => exact ⟨i + 1, by omega, by omega, by go_num, cin_start f n i⟩
    case round =>
      obtain ⟨j, hij, hj, rfl, hc⟩ := hrel
      have HC : Hid (Cin f n i j) := hc
      have HR : Hid (w.rowIs b 5 n (fun i => .int .u8 (f i))) := hr
      by_cases hlt : j < n
      · have cc := hr.cell hlt
        clear hc hr
        by_cases e34 : f j = 34
        · have t34 : (f j == 34) = true := by simpa using e34
          have H : Hid (f j = 34) := e34
          clear e34
          go_wp2_with fail
          refine (quote_any b n f j hn hlt _ HR.out).mono ?_
          rintro e w' ⟨rfl | ⟨q, rfl, hs⟩, rfl⟩
          · go_wp2_with fail
            go_ret2
            exact ⟨.inl rfl, rfl⟩
          · have hbd : j + 1 < q ∧ q ≤ n := by obtain ⟨g, hg⟩ := hs; have := hg.bound; omega
            have HS : Hid (SxE f n (j + 1) q) := hs
            clear hs
            go_wp2_with fail
            go_round
            case rel => exact ⟨q, by omega, by omega, rfl, cin_quote HC.out hlt H.out HS.out⟩
            case measure => simp [intOf]; omega
        · have t34 : (f j == 34) = false := by simpa using e34
          have H34 : Hid (f j ≠ 34) := e34
          clear e34
          by_cases eo : f j = 123 ∨ f j = 91
          · have HO : Hid (f j = 123 ∨ f j = 91) := eo
            rcases eo with eo | eo
            · have t1 : (f j == 123) = true := by simpa using eo
              clear eo
              go_wp2_with fail
              refine (IH.out j _ (by omega) hlt HR.out).mono ?_
              rintro e w' ⟨rfl | ⟨q, rfl, hs⟩, rfl⟩
              · go_wp2_with fail
                go_ret2
                exact ⟨.inl rfl, rfl⟩
              · have hbd := hs.bound
                have HS : Hid (Cx f n j q) := hs
                clear hs
                go_wp2_with fail
                go_round
                case rel => exact ⟨q, by omega, by omega, rfl, cin_open HC.out hlt HO.out HS.out⟩
                case measure => simp [intOf]; omega
            · have t1 : (f j == 123) = false := by rw [eo]; decide
              have t2 : (f j == 91) = true := by simpa using eo
              clear eo
              go_wp2_with fail
              refine (IH.out j _ (by omega) hlt HR.out).mono ?_
              rintro e w' ⟨rfl | ⟨q, rfl, hs⟩, rfl⟩
              · go_wp2_with fail
                go_ret2
                exact ⟨.inl rfl, rfl⟩
              · have hbd := hs.bound
                have HS : Hid (Cx f n j q) := hs
                clear hs
                go_wp2_with fail
                go_round
                case rel => exact ⟨q, by omega, by omega, rfl, cin_open HC.out hlt HO.out HS.out⟩
                case measure => simp [intOf]; omega
          · have n1 : f j ≠ 123 := fun h => eo (.inl h)
            have n2 : f j ≠ 91 := fun h => eo (.inr h)
            have t1 : (f j == 123) = false := by simpa using n1
            have t2 : (f j == 91) = false := by simpa using n2
            have HN : Hid (f j ≠ 123 ∧ f j ≠ 91) := ⟨n1, n2⟩
            clear eo n1 n2
            by_cases ec : f j = 125 ∨ f j = 93
            · have HE : Hid (f j = 125 ∨ f j = 93) := ec
              rcases ec with ec | ec
              · have t3 : (f j == 125) = true := by simpa using ec
                clear ec
                go_wp2_with fail
                go_ret2
                exact ⟨.inr ⟨j + 1, by rfl, cin_close HC.out hlt HE.out⟩, rfl⟩
              · have t3 : (f j == 125) = false := by rw [ec]; decide
                have t4 : (f j == 93) = true := by simpa using ec
                clear ec
                go_wp2_with fail
                go_ret2
                exact ⟨.inr ⟨j + 1, by rfl, cin_close HC.out hlt HE.out⟩, rfl⟩
            · have n3 : f j ≠ 125 := fun h => ec (.inl h)
              have n4 : f j ≠ 93 := fun h => ec (.inr h)
              have t3 : (f j == 125) = false := by simpa using n3
              have t4 : (f j == 93) = false := by simpa using n4
              have HM : Hid (f j ≠ 125 ∧ f j ≠ 93) := ⟨n3, n4⟩
              clear ec n3 n4
              go_wp2_with fail
              go_round
              case rel => exact ⟨j + 1, by omega, by omega, by go_num, cin_other HC.out hlt H34.out HN.out.1 HN.out.2 HM.out.1 HM.out.2⟩
              case measure => simp [intOf]; omega
      · clear hr hc
        go_wp2_with fail
        go_ret2
        exact ⟨.inl rfl, rfl⟩

end Go.Proofs.Qxb6601664a
