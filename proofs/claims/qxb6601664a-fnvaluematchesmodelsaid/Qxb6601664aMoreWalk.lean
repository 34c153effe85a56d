import Derived.Test.Qxb6601664aDom
namespace Go.Proofs.Qxb6601664a
open Go.RowKit
set_option linter.unusedVariables false

theorem bytes15 (a : Option Addr) (n c : Nat) (p e : Int) (w : World) (h : n ≤ 1048576) :
    Calls Try.prog 15 #[.slice a n c, .int .i64 p, .int .u8 e] w fun e w' => e = .returned (.bool true) ∧ w' = w := by
  go_enter Try.func15, Try.ntmps15
  go_wp2
  go_ret
  exact ⟨rfl, rfl⟩

theorem bytes15_no (a : Option Addr) (n c : Nat) (p e : Int) (w : World) (h : 1048576 < n) :
    Calls Try.prog 15 #[.slice a n c, .int .i64 p, .int .u8 e] w fun e w' => e = .returned (.bool false) ∧ w' = w := by
  go_enter Try.func15, Try.ntmps15
  go_wp2
  go_ret
  exact ⟨rfl, rfl⟩

theorem clone_nil (w : World) : Calls Try.prog 16 #[.slice none 0 0] w fun e w' => e = .returned (.slice none 0 0) ∧ w' = w := by
  have hnil := fun (w : World) (a : Option Addr) (n c n' c' : Nat) => Lib.run_eql_slice_nil (P := Try.prog) w 30 5 a n c n' c' Try.underlying30
  go_enter Try.func16, Try.ntmps16
  go_wp2
  go_ret
  exact ⟨rfl, rfl⟩

theorem domain_nil (w : World) : Calls Try.prog 17 #[.slice none 0 0, .int .i64 0] w fun e w' => e = .returned (.bool false) ∧ w' = w := by
  go_enter Try.func17, Try.ntmps17
  go_wp2
  refine wp_loop_rounds 1 ?_
  rw [rounds_succ]
  go_wp2
  go_ret
  exact ⟨rfl, rfl⟩

/-- the checking loop's state: cm commas met in [p, k) -/
def Cm (f : Nat → Int) (p s k cm : Nat) : Prop :=
  (cm = 0 ∧ f s ≠ 44 ∧ ∀ i, p ≤ i → i < s → blankB (f i) = true) ∨
  ∃ q, p ≤ q ∧ q < s ∧ f q = 44 ∧ (∀ i, p ≤ i → i < s → i ≠ q → blankB (f i) = true) ∧ ((cm = 0 ∧ k ≤ q) ∨ (cm = 1 ∧ q < k))

theorem blank44 : blankB 44 = false := by decide

theorem cm_start {f : Nat → Int} {n p s : Nat} (h : Ans f n p s) : Cm f p s p 0 := by
  obtain ⟨h1, h2, h3, h4 | ⟨q, h4, h5, h6, h7⟩⟩ := h
  · exact .inl ⟨rfl, h4⟩
  · exact .inr ⟨q, h4, h5, h6, h7, .inl ⟨rfl, h4⟩⟩

theorem cm_comma {f : Nat → Int} {p s k cm : Nat} (h : Cm f p s k cm) (h1 : p ≤ k) (h2 : k < s) (e : f k = 44) : cm = 0 ∧ Cm f p s (k + 1) 1 := by
  rcases h with ⟨h3, h4, h5⟩ | ⟨q, h3, h4, h5, h6, h7⟩
  · have := h5 k h1 h2; rw [e, blank44] at this; exact absurd this (by decide)
  · by_cases hq : k = q
    · refine ⟨by omega, .inr ⟨q, h3, h4, h5, h6, .inr ⟨rfl, by omega⟩⟩⟩
    · have := h6 k h1 h2 hq; rw [e, blank44] at this; exact absurd this (by decide)

theorem cm_blank {f : Nat → Int} {p s k cm : Nat} (h : Cm f p s k cm) (h1 : p ≤ k) (h2 : k < s) (e : f k ≠ 44) : blankB (f k) = true ∧ Cm f p s (k + 1) cm := by
  rcases h with ⟨h3, h4, h5⟩ | ⟨q, h3, h4, h5, h6, h7⟩
  · exact ⟨h5 k h1 h2, .inl ⟨h3, h4, h5⟩⟩
  · have hq : k ≠ q := fun hq => e (by rw [hq]; exact h5)
    exact ⟨h6 k h1 h2 hq, .inr ⟨q, h3, h4, h5, h6, by omega⟩⟩

theorem cm_end {f : Nat → Int} {p s cm : Nat} (h : Cm f p s s cm) : (cm = 0 ∧ f s ≠ 44) ∨ cm = 1 := by
  rcases h with ⟨h3, h4, h5⟩ | ⟨q, h3, h4, h5, h6, h7⟩
  · exact .inl ⟨h3, h4⟩
  · omega

set_option maxHeartbeats 1000000 in
theorem more_main (x : Addr) (n cap : Nat) (f : Nat → Int) (p : Nat) (en : Int) (w : World) (hn : n ≤ 1048576) (hp : p ≤ n) (hc : ∀ i, i < n → w.cell? (x.add i) = some (.int .u8 (f i))) :
    Calls Try.prog 5 #[.slice (some x) n cap, .int .i64 p, .int .u8 en] w fun e w' => e = .returned (.bool true) ∧ Below w.heap.size w w' := by
  go_enter Try.func5, Try.ntmps5
  go_wp2_with fail
  refine (bytes15 _ _ _ _ _ _ hn).mono ?_
  rintro e w' ⟨rfl, rfl⟩
  go_wp2_with fail
  refine (clone_any x n cap f _ hn hc).mono ?_
  rintro e w1 ⟨rfl, hb1, hs1, hr1⟩
  clear hc
  go_wp2_with fail
  refine (domain_any w'.heap.size n f p hn hp _ hr1).mono ?_
  rintro e w2 ⟨⟨r, rfl, hd⟩, rfl⟩
  cases r
  · go_wp2_with fail
    go_ret
    exact ⟨rfl, hb1⟩
  · have HD : Hid (Dom f n p) := hd rfl
    clear hd
    go_wp2_with fail
    refine (jsonMore_any w'.heap.size w' w'.heap.size n f p en hn hp HD.out _ hb1 (by omega) hr1).mono ?_
    rintro e w3 ⟨s, r, nx, rfl, ha, hh, hb3, hr3⟩
    have hs : s < n := ha.2.1
    have hps : p ≤ s := ha.1
    have cc := hr3.cell hs
    have hbl : blankB (f s) = false := ha.2.2.1
    have HA : Hid (Ans f n p s) := ha
    have HR : Hid (w3.rowIs w'.heap.size 5 n (fun i => .int .u8 (f i))) := hr3
    clear ha hr3 hr1 hb1 hs1 HD
    replace hh : (r = true ∧ (f s == en) = false ∧ s = nx) ∨ (r = false ∧ (f s == en) = true ∧ nx = s + 1) := by
      rcases hh with ⟨x1, x2, x3⟩ | hh
      · exact .inl ⟨x1, x2, x3.symm⟩
      · exact .inr hh
    rcases hh with ⟨rfl, he, rfl⟩ | ⟨rfl, he, rfl⟩
    all_goals
      go_wp2_with (go_at_call 19; refine (blank_any _ _).mono ?_; rintro e w' ⟨rfl, rfl⟩)
      go_loop [11, 12] (fun a i => ∃ k cm : Nat, p ≤ k ∧ k ≤ s ∧ i = .int .i64 k ∧ a = .int .i64 cm ∧ Cm f p s k cm) (fun _ i => s - (intOf i).toNat)
      case atStart => exact ⟨p, 0, Nat.le_refl _, hps, rfl, rfl, cm_start HA.out⟩
      case round =>
        obtain ⟨k, cm, hk1, hk2, rfl, rfl, hcm⟩ := hrel
        by_cases hlt : k < s
        · have ck := HR.out.cell (i := k) (by omega)
          by_cases e44 : f k = 44
          · obtain ⟨rfl, hcm2⟩ := cm_comma hcm hk1 hlt e44
            have HC : Hid (Cm f p s (k + 1) 1) := hcm2
            have h44 : (f k == 44) = true := by simpa using e44
            clear hcm hcm2 e44
            go_wp2_with (go_at_call 19; refine (blank_any _ _).mono ?_; rintro e w' ⟨rfl, rfl⟩)
            go_round
            case rel => exact ⟨k + 1, 1, by omega, by omega, by go_num, by go_num, HC.out⟩
            case measure => simp [intOf]; omega
          · obtain ⟨hbk, hcm2⟩ := cm_blank hcm hk1 hlt e44
            have HC : Hid (Cm f p s (k + 1) cm) := hcm2
            have h44 : (f k == 44) = false := by simpa using e44
            clear hcm hcm2 e44
            go_wp2_with (go_at_call 19; refine (blank_any _ _).mono ?_; rintro e w' ⟨rfl, rfl⟩)
            go_round
            case rel => exact ⟨k + 1, cm, by omega, by omega, by go_num, by go_num, HC.out⟩
            case measure => simp [intOf]; omega
        · obtain rfl : k = s := by omega
          rcases cm_end hcm with ⟨rfl, h4⟩ | rfl
          · have h44 : (f k == 44) = false := by simpa using h4
            clear hcm h4
            go_wp2_with fail
            go_ret
            exact ⟨rfl, hb3⟩
          · clear hcm
            go_wp2_with fail
            go_ret
            exact ⟨rfl, hb3⟩

end Go.Proofs.Qxb6601664a
