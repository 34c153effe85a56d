import Derived.Test.Qxb6601664aPlain
namespace Go.Proofs.Qxb6601664a
open Go.RowKit
set_option linter.unusedVariables false

theorem ender_any (c : Int) (w : World) :
    Calls Try.prog 30 #[.int .u8 c] w fun e w' => e = .returned (.bool (enderB c)) ∧ w' = w := by
  unfold enderB
  go_enter Try.func30, Try.ntmps30
  go_wp2
  all_goals
    go_ret
    refine ⟨?_, rfl⟩
    simp_all

theorem endsLiteral_any (c : Int) (w : World) :
    Calls Try.prog 37 #[.int .u8 c] w fun e w' => e = .returned (.bool (enderB c)) ∧ w' = w := by
  go_enter Try.func37, Try.ntmps37
  go_wp2_with (go_at_call 38; refine (isBlank_any _ _).mono ?_; rintro e w' ⟨rfl, rfl⟩)
  all_goals
    go_ret
    refine ⟨?_, rfl⟩
    simp_all [enderB, blankB]

def QPost (f : Nat → Int) (n i : Nat) (e : Ending) : Prop :=
  e = .returned (.tuple #[.int .i64 0, .bool false]) ∨ ∃ q : Nat, e = .returned (.tuple #[.int .i64 q, .bool true]) ∧ SxE f n (i + 1) q

set_option maxHeartbeats 400000 in
theorem quote_any (b n : Nat) (f : Nat → Int) (i : Nat) (hn : n ≤ 1048576) (hi : i < n) (w : World) (hr : w.rowIs b 5 n (fun i => .int .u8 (f i))) :
    Calls Try.prog 28 #[.slice (some ⟨b, 0, none⟩) n n, .int .i64 i] w fun e w' => QPost f n i e ∧ w' = w := by
  go_enter Try.func28, Try.ntmps28
  go_wp2
  go_loop [6, 7] (fun r t => ∃ (j run : Nat), i < j ∧ j ≤ n ∧ run ≤ j ∧ t = .int .i64 j ∧ r = .int .i64 run ∧ Back f n i j run) (fun _ t => n - (intOf t).toNat)
  case atStart => exact ⟨i + 1, 0, by omega, by omega, by omega, by go_num, rfl, back_start f n i⟩
  case round =>
    obtain ⟨j, run, hij, hj, hrj, rfl, rfl, hb⟩ := hrel
    have HB : Hid (Back f n i j run) := hb
    clear hb
    by_cases hlt : j < n
    · have cc := hr.cell hlt
      clear hr
      by_cases e92 : f j = 92
      · have t34 : (f j == 34) = false := by rw [e92]; decide
        have t92 : (f j == 92) = true := by rw [e92]; decide
        have H : Hid (f j = 92) := e92
        clear e92
        go_wp2
        go_round
        case rel => exact ⟨j + 1, run + 1, by omega, by omega, by omega, by go_num, by go_num, back_slash HB.out hlt H.out⟩
        case measure => simp [intOf]; omega
      · have t92 : (f j == 92) = false := by simpa using e92
        have H : Hid (f j ≠ 92) := e92
        clear e92
        by_cases e34 : f j = 34
        · have t34 : (f j == 34) = true := by rw [e34]; decide
          have H3 : Hid (f j = 34) := e34
          clear e34
          by_cases e0 : run % 2 = 0
          · have t0 : (((run : Nat) : Int) % 2 == 0) = true := by simp; omega
            have H0 : Hid (run % 2 = 0) := e0
            clear e0
            go_wp2
            go_ret2
            exact ⟨.inr ⟨j + 1, by rfl, back_hit HB.out hlt H0.out H3.out⟩, rfl⟩
          · have t0 : (((run : Nat) : Int) % 2 == 0) = false := by simp; omega
            have H0 : Hid (¬ run % 2 = 0) := e0
            clear e0
            go_wp2
            go_round
            case rel => exact ⟨j + 1, 0, by omega, by omega, by omega, by go_num, by go_num, back_plain HB.out hlt H.out (fun h => H0.out h.2)⟩
            case measure => simp [intOf]; omega
        · have t34 : (f j == 34) = false := by simpa using e34
          have H3 : Hid (f j ≠ 34) := e34
          clear e34
          go_wp2
          go_round
          case rel => exact ⟨j + 1, 0, by omega, by omega, by omega, by go_num, by go_num, back_plain HB.out hlt H.out (fun h => H3.out h.1)⟩
          case measure => simp [intOf]; omega
    · clear hr
      go_wp2
      go_ret2
      exact ⟨.inl rfl, rfl⟩

end Go.Proofs.Qxb6601664a
