import Derived.Test.Qxb6601664aMore2
namespace Go.Proofs.Qxb6601664a
open Go.RowKit
set_option linter.unusedVariables false

/-- the state of zzMoreDomain's loop at index k -/
def St (f : Nat → Int) (n p k nb : Nat) (fc : Bool) : Prop :=
  (nb = 0 ∧ fc = false ∧ ∀ i, p ≤ i → i < k → blankB (f i) = true) ∨
  (nb = 1 ∧ ∃ q, First f n p q ∧ q < k ∧ fc = (f q == 44)) ∨
  (nb = 2 ∧ ∃ q, First f n p q ∧ fc = (f q == 44) ∧ ∃ q2, q < q2 ∧ q2 < n ∧ blankB (f q2) = false)

theorem St.le {f : Nat → Int} {n p k nb : Nat} {fc : Bool} (h : St f n p k nb fc) : nb ≤ 2 := by
  rcases h with ⟨rfl, _⟩ | ⟨rfl, _⟩ | ⟨rfl, _⟩ <;> omega

theorem St.blank {f : Nat → Int} {n p k nb : Nat} {fc : Bool} (h : St f n p k nb fc) (hb : blankB (f k) = true) : St f n p (k + 1) nb fc := by
  rcases h with ⟨h1, h2, h3⟩ | ⟨h1, q, h2, h3, h4⟩ | h
  · refine .inl ⟨h1, h2, fun i i1 i2 => ?_⟩
    by_cases e : i = k
    · rw [e]; exact hb
    · exact h3 i i1 (by omega)
  · exact .inr (.inl ⟨h1, q, h2, by omega, h4⟩)
  · exact .inr (.inr h)

theorem St.first {f : Nat → Int} {n p k nb : Nat} {fc : Bool} (h : St f n p k nb fc) (h0 : nb = 0) (hk : k < n) (hpk : p ≤ k) (hb : blankB (f k) = false) : St f n p (k + 1) 1 (f k == 44) := by
  rcases h with ⟨h1, h2, h3⟩ | ⟨h1, _⟩ | ⟨h1, _⟩
  · exact .inr (.inl ⟨rfl, k, ⟨hpk, hk, h3, hb⟩, by omega, rfl⟩)
  · omega
  · omega

theorem St.second {f : Nat → Int} {n p k nb : Nat} {fc : Bool} (h : St f n p k nb fc) (h0 : nb = 1) (hk : k < n) (hb : blankB (f k) = false) : St f n p (k + 1) 2 fc := by
  rcases h with ⟨h1, h2, h3⟩ | ⟨h1, q, h2, h3, h4⟩ | ⟨h1, _⟩
  · omega
  · exact .inr (.inr ⟨rfl, q, h2, h4, k, h3, hk, hb⟩)
  · omega

theorem St.yes {f : Nat → Int} {n p k nb : Nat} {fc : Bool} (h : St f n p k nb fc) (h0 : 0 < nb) (hb : fc = false ∨ 2 ≤ nb) : Dom f n p := by
  rcases h with ⟨h1, h2, h3⟩ | ⟨h1, q, h2, h3, h4⟩ | ⟨h1, q, h2, h3, h4⟩
  · omega
  · refine ⟨q, h2, fun e => ?_⟩
    rcases hb with hb | hb
    · rw [hb, e] at h4; simp at h4
    · omega
  · exact ⟨q, h2, fun _ => h4⟩

def DomPost (f : Nat → Int) (n p : Nat) (e : Ending) : Prop := ∃ r : Bool, e = .returned (.bool r) ∧ (r = true → Dom f n p)

set_option maxHeartbeats 400000 in
theorem domain_any (b n : Nat) (f : Nat → Int) (p : Nat) (hn : n ≤ 1048576) (hp : p ≤ n) (w : World) (hr : w.rowIs b 5 n (fun i => .int .u8 (f i))) :
    Calls Try.prog 17 #[.slice (some ⟨b, 0, none⟩) n n, .int .i64 p] w fun e w' => DomPost f n p e ∧ w' = w := by
  go_enter Try.func17, Try.ntmps17
  go_wp2
  go_loop [5, 6, 7] (fun a c i => ∃ (k nb : Nat) (fc : Bool), p ≤ k ∧ k ≤ n ∧ i = .int .i64 k ∧ a = .int .i64 nb ∧ c = .bool fc ∧ St f n p k nb fc) (fun _ _ i => n - (intOf i).toNat)
  case atStart => exact ⟨p, 0, false, Nat.le_refl _, hp, rfl, rfl, rfl, .inl ⟨rfl, rfl, fun i h1 h2 => by omega⟩⟩
  case round =>
    obtain ⟨k, nb, fc, hpk, hk, rfl, rfl, rfl, hst⟩ := hrel
    have hle := hst.le
    have HS : Hid (St f n p k nb fc) := hst
    clear hst
    by_cases hlt : k < n
    · have cc := hr.cell hlt
      have HR : Hid (w.rowIs b 5 n (fun i => .int .u8 (f i))) := hr
      clear hr
      by_cases h2 : nb < 2
      · cases hb : blankB (f k)
        · by_cases h0 : nb = 0
          · subst h0
            go_wp2_with (go_at_call 19; refine (blank_any _ _).mono ?_; rintro e w' ⟨rfl, rfl⟩)
            go_round
            case rel => exact ⟨k + 1, 1, (f k == 44), by omega, by omega, by go_num, by go_num, rfl, HS.out.first rfl hlt hpk hb⟩
            case measure => simp [intOf]; omega
          · have h1 : nb = 1 := by omega
            subst h1
            go_wp2_with (go_at_call 19; refine (blank_any _ _).mono ?_; rintro e w' ⟨rfl, rfl⟩)
            go_round
            case rel => exact ⟨k + 1, 2, fc, by omega, by omega, by go_num, by go_num, rfl, HS.out.second rfl hlt hb⟩
            case measure => simp [intOf]; omega
        · go_wp2_with (go_at_call 19; refine (blank_any _ _).mono ?_; rintro e w' ⟨rfl, rfl⟩)
          go_round
          case rel => exact ⟨k + 1, nb, fc, by omega, by omega, by go_num, rfl, rfl, HS.out.blank hb⟩
          case measure => simp [intOf]; omega
      · have e2 : nb = 2 := by omega
        subst e2
        cases fc
        · go_wp2_with fail
          go_ret
          exact ⟨⟨_, rfl, fun _ => HS.out.yes (by omega) (.inl rfl)⟩, rfl⟩
        · go_wp2_with fail
          go_ret
          exact ⟨⟨_, rfl, fun _ => HS.out.yes (by omega) (.inr (by omega))⟩, rfl⟩
    · clear hr
      by_cases h0 : nb = 0
      · subst h0
        go_wp2_with fail
        go_ret
        exact ⟨⟨_, rfl, fun h => by simp at h⟩, rfl⟩
      · have hb0 : (((nb : Nat) : Int) == 0) = false := by simpa using h0
        cases fc
        · go_wp2_with fail
          go_ret
          exact ⟨⟨_, rfl, fun _ => HS.out.yes (by omega) (.inl rfl)⟩, rfl⟩
        · by_cases e2 : nb < 2
          · go_wp2_with fail
            go_ret
            exact ⟨⟨_, rfl, fun h => by simp at h; omega⟩, rfl⟩
          · go_wp2_with fail
            go_ret
            exact ⟨⟨_, rfl, fun _ => HS.out.yes (by omega) (.inr (by omega))⟩, rfl⟩

end Go.Proofs.Qxb6601664a
