import Derived.Test.Qxb6601745aCut
namespace Go.Proofs.Qxb6601745a
open Go.RowKit
set_option linter.unusedVariables false

/-- the n bytes f lie behind the address a, each a byte -/
def Lies (w : World) (a : Option Addr) (n : Nat) (f : Nat → Int) : Prop :=
  0 < n → ∃ b o, a = some ⟨b, o, none⟩ ∧ ∀ i, i < n → w.cell? ⟨b, o + i, none⟩ = some (.int .u8 (f i)) ∧ 0 ≤ f i ∧ f i ≤ 255

/-- where the digits begin, and whether a '-' stands ahead of them -/
def Cuts (f : Nat → Int) (n s : Nat) (neg : Bool) : Prop := (neg = true ∧ s = 1 ∧ 1 ≤ n ∧ f 0 = 45) ∨ (neg = false ∧ s = 0 ∧ (1 ≤ n → f 0 ≠ 45))

theorem Cuts.same {f : Nat → Int} {n s s' : Nat} {neg neg' : Bool} (h : Cuts f n s neg) (h' : Cuts f n s' neg') : s = s' ∧ neg = neg' := by
  rcases h with ⟨h1, h2, h3, h4⟩ | ⟨h1, h2, h3⟩ <;> rcases h' with ⟨k1, k2, k3, k4⟩ | ⟨k1, k2, k3⟩
  · exact ⟨by omega, by rw [h1, k1]⟩
  · exact absurd h4 (k3 h3)
  · exact absurd k4 (h3 k3)
  · exact ⟨by omega, by rw [h1, k1]⟩

def CutPost (w : World) (f : Nat → Int) (n : Nat) (e : Ending) : Prop :=
  ∃ (A : Option Addr) (m cc s : Nat) (neg : Bool), e = .returned (.tuple #[.slice A m cc, .bool neg]) ∧ n = s + m ∧ Cuts f n s neg ∧ Lies w A m (fun i => f (s + i))

theorem cut_any (a : Option Addr) (n c b2 o2 c2 : Nat) (f : Nat → Int) (w : World) (hnc : n ≤ c) (hl : Lies w a n f) (h2 : w.cell? ⟨b2, o2, none⟩ = some (.int .u8 45)) :
    Calls Try.prog 12 #[.slice a n c, .slice (some ⟨b2, o2, none⟩) 1 c2] w fun e w' => CutPost w f n e ∧ w' = w := by
  by_cases hn : n = 0
  · subst hn
    refine (cut_none a c b2 o2 c2 w).mono ?_
    rintro e w' ⟨rfl, rfl⟩
    exact ⟨⟨a, 0, c, 0, false, rfl, rfl, .inr ⟨rfl, rfl, fun h => by omega⟩, fun h => by omega⟩, rfl⟩
  · obtain ⟨b, o, rfl, hc⟩ := hl (by omega)
    have h0 := hc 0 (by omega)
    by_cases h45 : f 0 = 45
    · rw [h45] at h0
      refine (cut_yes b o n c b2 o2 c2 w (by omega) hnc h0.1 h2).mono ?_
      rintro e w' ⟨rfl, rfl⟩
      refine ⟨⟨_, n - 1, c - 1, 1, true, rfl, by omega, .inl ⟨rfl, rfl, by omega, h45⟩, fun h => ?_⟩, rfl⟩
      refine ⟨b, o + 1, by rw [if_neg (by omega)], fun i hi => ?_⟩
      have := hc (1 + i) (by omega)
      rw [show o + 1 + i = o + (1 + i) by omega]
      exact this
    · refine (cut_no b o n c b2 o2 c2 (f 0) w (by omega) hnc h0.1 h2 h0.2.1 h0.2.2 h45).mono ?_
      rintro e w' ⟨rfl, rfl⟩
      refine ⟨⟨_, n, c, 0, false, rfl, by omega, .inr ⟨rfl, rfl, fun _ => h45⟩, fun h => ?_⟩, rfl⟩
      refine ⟨b, o, rfl, fun i hi => ?_⟩
      show w'.cell? ⟨b, o + i, none⟩ = some (.int .u8 (f (0 + i))) ∧ 0 ≤ f (0 + i) ∧ f (0 + i) ≤ 255
      rw [Nat.zero_add]
      exact hc i hi

/-- the loop's state: u is the number of the first k digits -/
def Ps (f : Nat → Int) (s k u : Nat) : Prop := u = val f s k ∧ Digs f s (s + k)

theorem ps_step {f : Nat → Int} {s k u : Nat} (h : Ps f s k u) (h1 : 48 ≤ f (s + k)) (h2 : f (s + k) ≤ 57) : Ps f s (k + 1) (u * 10 + (f (s + k) - 48).toNat) := by
  refine ⟨?_, fun i i1 i2 => ?_⟩
  · show _ = val f s k * 10 + _
    rw [h.1]
  · by_cases e : i = s + k
    · rw [e]; exact ⟨h1, h2⟩
    · exact h.2 i i1 (by omega)

theorem ps_bad {f : Nat → Int} {s m k u : Nat} {neg : Bool} {n : Nat} (hn : n = s + m) (hk : k < m) (h : ¬ (48 ≤ f (s + k) ∧ f (s + k) ≤ 57)) : PPost f s n neg (.returned (.tuple #[.int .i64 0, .bool false])) :=
  .inr ⟨fun hh => h (hh.1 (s + k) (by omega) (by omega)), rfl⟩

theorem lim_le (neg : Bool) : lim neg ≤ 9223372036854775808 := by unfold lim; cases neg <;> simp

theorem ps_big {f : Nat → Int} {s m k u : Nat} {neg : Bool} {n : Nat} (hn : n = s + m) (hk : k < m) (hp : Ps f s k u) (h1 : 48 ≤ f (s + k)) (h : 9223372036854775808 < (u : Int) * 10 + (f (s + k) - 48)) :
    PPost f s n neg (.returned (.tuple #[.int .i64 0, .bool false])) := by
  refine .inr ⟨fun hh => ?_, rfl⟩
  have a := val_mono f s (show k + 1 ≤ n - s by omega)
  have c : val f s (k + 1) = u * 10 + (f (s + k) - 48).toNat := by show val f s k * 10 + _ = _; rw [hp.1]
  have d := hh.2
  have l := lim_le neg
  omega

theorem ps_pos {f : Nat → Int} {s m u n : Nat} (hn : n = s + m) (hp : Ps f s m u) (h : u ≤ 9223372036854775807) : PPost f s n false (.returned (.tuple #[.int .i64 (u : Int), .bool true])) := by
  have e : n - s = m := by omega
  refine .inl ⟨?_, ?_, ?_⟩
  · rw [hn]; exact hp.2
  · rw [e, ← hp.1]; exact h
  · rw [e, ← hp.1]; rfl

theorem ps_over {f : Nat → Int} {s m u n : Nat} (hn : n = s + m) (hp : Ps f s m u) (h : 9223372036854775807 < u) : PPost f s n false (.returned (.tuple #[.int .i64 0, .bool false])) := by
  have e : n - s = m := by omega
  refine .inr ⟨fun hh => ?_, rfl⟩
  have := hh.2
  rw [e, ← hp.1] at this
  exact absurd (show u ≤ 9223372036854775807 from this) (by omega)

theorem ps_neg {f : Nat → Int} {s m u n : Nat} (hn : n = s + m) (hp : Ps f s m u) (h : u ≤ 9223372036854775808) (x : Int) (hx : x = -(u : Int)) : PPost f s n true (.returned (.tuple #[.int .i64 x, .bool true])) := by
  have e : n - s = m := by omega
  refine .inl ⟨?_, ?_, ?_⟩
  · rw [hn]; exact hp.2
  · rw [e, ← hp.1]; exact h
  · rw [e, ← hp.1, hx]; rfl

def ParsePost (f : Nat → Int) (n : Nat) (e : Ending) : Prop := ∃ (s : Nat) (neg : Bool), Cuts f n s neg ∧ PPost f s n neg e

theorem lies_new {w : World} {a : Option Addr} {n : Nat} {f : Nat → Int} (h : Lies w a n f) (o : Obj) : Lies (w.alloc o) a n f := by
  intro h0
  obtain ⟨b, o', e, hc⟩ := h h0
  exact ⟨b, o', e, fun i hi => ⟨Lib.cell?_alloc_marked _ (hc i hi).1, (hc i hi).2⟩⟩

theorem neg_wrap (u : Nat) (h : u ≤ 9223372036854775808) : wrap64 (-wrap64 (u : Int)) = -(u : Int) := by
  unfold wrap64
  omega

set_option maxHeartbeats 1000000 in
theorem parse_any (a : Option Addr) (n c : Nat) (f : Nat → Int) (w : World) (hn : n ≤ 1048576) (hnc : n ≤ c) (hl : Lies w a n f) :
    Calls Try.prog 11 #[.slice a n c] w fun e w' => ParsePost f n e ∧ Below w.heap.size w w' := by
  have kc := fun (w : World) (C : Array Value) (n c : Nat) => Lib.run_convert_bytes_const (P := Try.prog) w 22 5 C n c Try.underlying22 Try.underlying5
  go_enter Try.func11, Try.ntmps11
  go_wp2_with fail
  clear kc
  refine (cut_any a n c w.heap.size 0 1 f _ hnc (lies_new hl _) (by rw [World.cell?_alloc_mark]; rfl)).mono ?_
  rintro e w1 ⟨⟨A, m, cc, s, neg, rfl, hsm, hcut, hlies⟩, rfl⟩
  have HC : Hid (Cuts f n s neg) := hcut
  have HS : Hid (n = s + m) := hsm
  have hm : m ≤ 1048576 := by omega
  have HL : Hid (Lies (w.alloc (.cells #[.int .u8 45] 5 (1, 2))) A m (fun i => f (s + i))) := hlies
  have HB : Hid (Below w.heap.size w (w.alloc (.cells #[.int .u8 45] 5 (1, 2)))) := (Below.refl _ _).alloc (Nat.le_refl _) _
  clear hcut hsm hlies hl hnc hn
  obtain ⟨w2, hw2⟩ : ∃ w2, w2 = w.alloc (.cells #[.int .u8 45] 5 (1, 2)) := ⟨_, rfl⟩
  rw [← hw2] at HL HB ⊢
  clear hw2
  go_wp2_with fail
  go_loop [6, 18] (fun U i => ∃ k u : Nat, k ≤ m ∧ i = .int .i64 k ∧ U = .int .u64 u ∧ u ≤ 9223372036854775808 ∧ Ps f s k u) (fun _ i => m - (intOf i).toNat)
  case atStart => exact ⟨0, 0, by omega, rfl, rfl, by omega, rfl, fun i h1 h2 => by omega⟩
  case round =>
    obtain ⟨k, u, hk, rfl, rfl, hu, hps⟩ := hrel
    have HP : Hid (Ps f s k u) := hps
    clear hps
    by_cases hlt : k < m
    · obtain ⟨b, o, rfl, hcell⟩ := HL.out (by omega)
      have cc0 := (hcell k hlt).1
      have b1 := (hcell k hlt).2.1
      have b2 := (hcell k hlt).2.2
      have hx0 : ∃ x, x = f (s + k) := ⟨_, rfl⟩
      obtain ⟨x, hx⟩ := hx0
      replace cc0 : w2.cell? ⟨b, o + k, none⟩ = some (.int .u8 x) := by rw [hx]; exact cc0
      replace b1 : 0 ≤ x := by rw [hx]; exact b1
      replace b2 : x ≤ 255 := by rw [hx]; exact b2
      have HX : Hid (x = f (s + k)) := hx
      clear hcell HL hx
      by_cases h48 : x < 48
      · go_wp2_with fail
        go_ret2
        exact ⟨⟨s, neg, HC.out, ps_bad (u := u) HS.out hlt (by rw [← HX.out]; omega)⟩, HB.out⟩
      · by_cases h57 : 57 < x
        · go_wp2_with fail
          go_ret2
          exact ⟨⟨s, neg, HC.out, ps_bad (u := u) HS.out hlt (by rw [← HX.out]; omega)⟩, HB.out⟩
        · by_cases hbig : 9223372036854775808 < (u : Int) * 10 + (x - 48)
          · go_wp2_with fail
            go_ret2
            exact ⟨⟨s, neg, HC.out, ps_big HS.out hlt HP.out (by rw [← HX.out]; omega) (by rw [← HX.out]; exact hbig)⟩, HB.out⟩
          · go_wp2_with fail
            go_round
            case rel =>
              refine ⟨k + 1, u * 10 + (x - 48).toNat, by omega, by go_num, ?_, by omega, ?_⟩
              · have e : ((u * 10 + (x - 48).toNat : Nat) : Int) = (u : Int) * 10 + (x - 48) := by omega
                rw [e]
              · rw [HX.out]
                exact ps_step HP.out (by rw [← HX.out]; omega) (by rw [← HX.out]; omega)
            case measure => simp [intOf]; omega
    · obtain rfl : k = m := by omega
      cases neg
      · by_cases hbig : 9223372036854775807 < u
        · go_wp2_with fail
          go_ret2
          exact ⟨⟨s, false, HC.out, ps_over HS.out HP.out hbig⟩, HB.out⟩
        · go_wp2_with fail
          go_ret2
          exact ⟨⟨s, false, HC.out, ps_pos HS.out HP.out (by omega)⟩, HB.out⟩
      · go_wp2_with fail
        go_ret2
        exact ⟨⟨s, true, HC.out, ps_neg HS.out HP.out hu _ (neg_wrap u hu)⟩, HB.out⟩

end Go.Proofs.Qxb6601745a
