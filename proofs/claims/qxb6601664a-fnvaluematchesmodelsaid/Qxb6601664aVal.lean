import Derived.Test.Qxb6601664aCont
namespace Go.Proofs.Qxb6601664a
open Go.RowKit
set_option linter.unusedVariables false

def VPost (f : Nat → Int) (n p : Nat) (e : Ending) : Prop :=
  (∃ x y : Int, e = .returned (.tuple #[.int .i64 x, .int .i64 y, .bool false])) ∨
  ∃ k q : Nat, e = .returned (.tuple #[.int .i64 k, .int .i64 q, .bool true]) ∧ First f n p k ∧ Vx f n k q

set_option maxHeartbeats 1000000 in
theorem model_any (b n : Nat) (f : Nat → Int) (p : Nat) (hn : n ≤ 1048576) (hp : p ≤ n) (w : World) (hr : w.rowIs b 5 n (fun i => .int .u8 (f i))) :
    Calls Try.prog 22 #[.slice (some ⟨b, 0, none⟩) n n, .int .i64 p] w fun e w' => VPost f n p e ∧ w' = w := by
  have HR : Hid (w.rowIs b 5 n (fun i => .int .u8 (f i))) := hr
  clear hr
  go_enter Try.func22, Try.ntmps22
  go_wp2_with fail
  go_loop [7] (fun t => ∃ k : Nat, p ≤ k ∧ k ≤ n ∧ t = .int .i64 k ∧ ∀ i, p ≤ i → i < k → blankB (f i) = true) (fun t => n - (intOf t).toNat)
  case atStart => exact ⟨p, by omega, by omega, rfl, fun i h1 h2 => by omega⟩
  case round =>
    obtain ⟨k, hpk, hk, rfl, hbl⟩ := hrel
    have HB : Hid (∀ i, p ≤ i → i < k → blankB (f i) = true) := hbl
    clear hbl
    by_cases hlt : k < n
    · have cc := HR.out.cell hlt
      cases hb : blankB (f k)
      · have HF : Hid (First f n p k) := ⟨hpk, hlt, HB.out, hb⟩
        by_cases e34 : f k = 34
        · have t34 : (f k == 34) = true := by simpa using e34
          have H34 : Hid (f k = 34) := e34
          clear e34
          go_wp2_with (go_at_call 19; refine (blank_any _ _).mono ?_; rintro e w' ⟨rfl, rfl⟩)
          refine (quote_any b n f k hn hlt _ HR.out).mono ?_
          rintro e w' ⟨rfl | ⟨q, rfl, hs⟩, rfl⟩
          · go_wp2_with fail
            go_ret3
            exact ⟨.inl ⟨_, _, rfl⟩, rfl⟩
          · have HS : Hid (SxE f n (k + 1) q) := hs
            clear hs
            go_wp2_with fail
            go_ret3
            exact ⟨.inr ⟨k, q, rfl, HF.out, .inl ⟨H34.out, HS.out⟩⟩, rfl⟩
        · have t34 : (f k == 34) = false := by simpa using e34
          have H34 : Hid (f k ≠ 34) := e34
          clear e34
          by_cases eo : f k = 123 ∨ f k = 91
          · have HO : Hid (f k = 123 ∨ f k = 91) := eo
            have t12 : ((f k == 123) = true) ∨ ((f k == 123) = false ∧ (f k == 91) = true) := by
              rcases eo with e | e
              · exact .inl (by simpa using e)
              · exact .inr ⟨by rw [e]; decide, by simpa using e⟩
            clear eo
            rcases t12 with t1 | ⟨t1, t2⟩
            all_goals
              go_wp2_with (go_at_call 19; refine (blank_any _ _).mono ?_; rintro e w' ⟨rfl, rfl⟩)
              refine (cont_any b n f hn n k _ (by omega) hlt HR.out).mono ?_
              rintro e w' ⟨rfl | ⟨q, rfl, hs⟩, rfl⟩
              · go_wp2_with fail
                go_ret3
                exact ⟨.inl ⟨_, _, rfl⟩, rfl⟩
              · have HS : Hid (Cx f n k q) := hs
                clear hs
                go_wp2_with fail
                go_ret3
                exact ⟨.inr ⟨k, q, rfl, HF.out, cx_value hlt HO.out HS.out⟩, rfl⟩
          · have n1 : f k ≠ 123 := fun h => eo (.inl h)
            have n2 : f k ≠ 91 := fun h => eo (.inr h)
            have t1 : (f k == 123) = false := by simpa using n1
            have t2 : (f k == 91) = false := by simpa using n2
            have HN : Hid (f k ≠ 123 ∧ f k ≠ 91) := ⟨n1, n2⟩
            clear eo n1 n2
            have hge : decide (n ≤ k) = false := by simp; omega
            go_wp2_with (go_at_call 19; refine (blank_any _ _).mono ?_; rintro e w' ⟨rfl, hw⟩; obtain rfl := hw.symm; clear hw)
            go_loopg [12] (n - k) (fun g t wr => ∃ m : Nat, g = n - m ∧ wr = w ∧ k ≤ m ∧ m ≤ n ∧ t = .int .i64 m ∧ ∀ i, k ≤ i → i < m → enderB (f i) = false)
            case atStart => exact ⟨k, rfl, rfl, by omega, by omega, rfl, fun i h1 h2 => by omega⟩
            case round =>
              obtain ⟨m, rfl, rfl, hkm, hm, rfl, hel⟩ := hrel
              have HE : Hid (∀ i, k ≤ i → i < m → enderB (f i) = false) := hel
              clear hel
              by_cases hmn : m < n
              · have cm := HR.out.cell hmn
                cases he : enderB (f m)
                · go_wp2_with (go_at_call 30; refine (ender_any _ _).mono ?_; rintro e w' ⟨rfl, rfl⟩)
                  go_roundg (n - (m + 1))
                  case rel =>
                    refine ⟨m + 1, rfl, rfl, by omega, by omega, by go_num, fun i h1 h2 => ?_⟩
                    by_cases e : i = m
                    · rw [e]; exact he
                    · exact HE.out i h1 (by omega)
                  case measure => omega
                · go_wp2_with (go_at_call 30; refine (ender_any _ _).mono ?_; rintro e w' ⟨rfl, rfl⟩)
                  go_ret3
                  exact ⟨.inr ⟨k, m, rfl, HF.out, .inr (.inr ⟨H34.out, HN.out.1, HN.out.2, hkm, hm, HE.out, fun _ => he⟩)⟩, rfl⟩
              · go_wp2_with fail
                go_ret3
                exact ⟨.inr ⟨k, m, rfl, HF.out, .inr (.inr ⟨H34.out, HN.out.1, HN.out.2, hkm, hm, HE.out, fun h => absurd h hmn⟩)⟩, rfl⟩
      · go_wp2_with (go_at_call 19; refine (blank_any _ _).mono ?_; rintro e w' ⟨rfl, rfl⟩)
        go_round
        case rel =>
          refine ⟨k + 1, by omega, by omega, by go_num, fun i h1 h2 => ?_⟩
          by_cases e : i = k
          · rw [e]; exact hb
          · exact HB.out i h1 (by omega)
        case measure => simp [intOf]; omega
    · go_wp2_with fail
      go_ret3
      exact ⟨.inl ⟨_, _, rfl⟩, rfl⟩

set_option maxHeartbeats 400000 in
theorem stringEnd_any (B : Nat) (w0 : World) (bd b n : Nat) (f : Nat → Int) (p i e0 : Nat) (hn : n ≤ 1048576) (w : World) (h : Jt B w0 w bd b n f p) (hs : SxE f n (i + 1) e0) :
    Calls Try.prog 36 #[.pointer (some ⟨bd, 0, none⟩), .int .i64 i] w fun e w' => e = .returned (.int .i64 e0) ∧ w' = w := by
  have c0 := h.c0
  have hrow := h.row
  have hin : i < n := by obtain ⟨g, hg⟩ := hs; have := hg.bound; omega
  have HR : Hid (w.rowIs b 5 n (fun i => .int .u8 (f i))) := hrow
  have HS : Hid (SxE f n (i + 1) e0) := hs
  clear hrow h hs
  go_enter Try.func36, Try.ntmps36
  go_wp2_with fail
  go_loop [1] (fun t => ∃ j g : Nat, t = .int .i64 j ∧ Sx f n g j e0) (fun t => n - (intOf t).toNat)
  case atStart =>
    obtain ⟨g, hg⟩ := HS.out
    exact ⟨i + 1, g, by go_num, hg⟩
  case round =>
    obtain ⟨j, g, rfl, hg⟩ := hrel
    have hbd := hg.bound
    have hlt : j < n := hbd.2.2
    have cc := HR.out.cell hlt
    match g, hg with
    | 0, hg => exact hg.elim
    | g + 1, hg =>
      obtain ⟨_, ⟨h34, he⟩ | ⟨h92, hg2⟩ | ⟨h34, h92, hg2⟩⟩ := hg
      · have t34 : (f j != 34) = false := by rw [h34]; decide
        have HE : Hid (e0 = j + 1) := he
        clear he h34
        go_wp2_with fail
        go_ret
        refine ⟨?_, rfl⟩
        rw [HE.out]
        rfl
      · have t34 : (f j != 34) = true := by rw [h92]; decide
        have t92 : (f j == 92) = true := by rw [h92]; decide
        have HG : Hid (Sx f n g (j + 2) e0) := hg2
        have := hg2.bound
        clear hg2 h92
        go_wp2_with fail
        go_round
        case rel => exact ⟨j + 2, g, by go_num, HG.out⟩
        case measure => simp [intOf]; omega
      · have t34 : (f j != 34) = true := by simpa using h34
        have t92 : (f j == 92) = false := by simpa using h92
        have HG : Hid (Sx f n g (j + 1) e0) := hg2
        clear hg2 h92 h34
        go_wp2_with fail
        go_round
        case rel => exact ⟨j + 1, g, by go_num, HG.out⟩
        case measure => simp [intOf]; omega

end Go.Proofs.Qxb6601664a
