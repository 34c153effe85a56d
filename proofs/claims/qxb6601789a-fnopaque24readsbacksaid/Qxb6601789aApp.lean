import Derived.Test.Qxb6601789aScript
import Derived.ArgAppend
import Derived.Laws.AppendOwnNone
namespace Go.Proofs.Qxb6601789a
open Go.RowKit
set_option linter.unusedVariables false

def cellsOf (g : Nat → Int) (n : Nat) : List Value := (List.range n).map fun i => Value.int .u8 (g i)
theorem cellsOf_length (g : Nat → Int) (n : Nat) : (cellsOf g n).length = n := by simp [cellsOf]
theorem cellsOf_get (g : Nat → Int) (n j : Nat) (h : j < n) : (cellsOf g n)[j]? = some (.int .u8 (g j)) := by simp [cellsOf, h]
theorem cellsOf_one (g : Nat → Int) (n : Nat) : ∀ u ∈ cellsOf g n, u.oneCell' = true := by
  intro u hu
  obtain ⟨i, _, rfl⟩ := List.mem_map.1 hu
  rfl

/-- the three bytes of a length -/
def hdr (n : Nat) : List Value := [.int .u8 ((n : Int) / 65536), .int .u8 ((n : Int) / 256 % 256), .int .u8 ((n : Int) % 256)]
/-- what appendOpaque24 lays -/
def enc24 (fb : Nat → Int) (nb n : Nat) (d : Nat → Int) (i : Nat) : Int :=
  if i < nb then fb i else if i = nb then (n : Int) / 65536 else if i = nb + 1 then (n : Int) / 256 % 256 else if i = nb + 2 then (n : Int) % 256 else d (i - (nb + 3))

theorem enc_get (fb : Nat → Int) (nb n : Nat) (d : Nat → Int) (i : Nat) (h : i < nb + 3 + n) : (cellsOf fb nb ++ hdr n ++ cellsOf d n)[i]? = some (.int .u8 (enc24 fb nb n d i)) := by
  unfold enc24
  by_cases h1 : i < nb
  · rw [if_pos h1, List.append_assoc, List.getElem?_append_left (by rw [cellsOf_length]; exact h1), cellsOf_get _ _ _ h1]
  · rw [if_neg h1]
    by_cases h2 : i < nb + 3
    · rw [List.getElem?_append_left (by rw [List.length_append, cellsOf_length]; show i < nb + 3; exact h2), List.getElem?_append_right (by rw [cellsOf_length]; omega), cellsOf_length]
      by_cases e0 : i = nb
      · rw [if_pos e0, e0, Nat.sub_self]; rfl
      · rw [if_neg e0]
        by_cases e1 : i = nb + 1
        · rw [if_pos e1, e1, show nb + 1 - nb = 1 by omega]; rfl
        · rw [if_neg e1]
          have e2 : i = nb + 2 := by omega
          rw [if_pos e2, e2, show nb + 2 - nb = 2 by omega]; rfl
    · rw [if_neg (by omega), if_neg (by omega), if_neg (by omega)]
      have hl : (cellsOf fb nb ++ hdr n).length = nb + 3 := by rw [List.length_append, cellsOf_length]; rfl
      rw [List.getElem?_append_right (by rw [hl]; omega), hl, cellsOf_get _ _ _ (by omega)]

theorem own_cur {w : World} {base : Nat} {v : Value} {N : Nat} {xs : List Value} {G : Nat → Int} (h : w.ownsRow base 5 1 v N xs) (h0 : 0 < N) (hx : ∀ i, i < N → xs[i]? = some (.int .u8 (G i))) :
    ∃ A c, v = .slice A N c ∧ Cur .u8 w (.slice A N c) N G := by
  have h' := h
  obtain ⟨_, ⟨_, e⟩ | ⟨g, cap, cur, rfl, _, _, hc, _⟩⟩ := h
  · omega
  · refine ⟨_, cap, rfl, _, cap, rfl, hc, .inr ⟨g, 0, rfl, fun i hi => ?_⟩⟩
    rw [Nat.zero_add, h'.cellAt i (by omega)]
    exact hx i hi

theorem cells_at {w : World} {b o n : Nat} {g : Nat → Int} (h : ∀ i, i < n → w.cell? ⟨b, o + i, none⟩ = some (.int .u8 (g i))) :
    ∀ j u, (cellsOf g n)[j]? = some u → w.cell? ((⟨b, o, none⟩ : Addr).add j) = some u := by
  intro j u hu
  have hj : j < n := by
    rcases Nat.lt_or_ge j n with h | h
    · exact h
    · rw [List.getElem?_eq_none (by rw [cellsOf_length]; exact h)] at hu; cases hu
  rw [cellsOf_get _ _ _ hj] at hu
  rw [Go.WideShapes.add_plain, h j hj]
  exact hu

theorem hdr_at (w : World) (n : Nat) : ∀ j u, (hdr n)[j]? = some u → (w.alloc (.cells #[.int .u8 ((n : Int) / 65536), .int .u8 ((n : Int) / 256 % 256), .int .u8 ((n : Int) % 256)] 5)).cell? ((⟨w.heap.size, 0, none⟩ : Addr).add j) = some u := by
  intro j u hu
  rw [Go.WideShapes.add_plain, Nat.zero_add, World.cell?_alloc_mark]
  match j, hu with
  | 0, hu => exact hu
  | 1, hu => exact hu
  | 2, hu => exact hu
  | j + 3, hu => simp [hdr] at hu

theorem hdr_one (n : Nat) : ∀ u ∈ hdr n, u.oneCell' = true := by
  intro u hu
  simp [hdr] at hu
  rcases hu with rfl | rfl | rfl <;> rfl

def AppPost (w : World) (N : Nat) (G : Nat → Int) (e : Ending) : Prop := ∃ A c, e = .returned (.slice A N c) ∧ Cur .u8 w (.slice A N c) N G

set_option maxHeartbeats 1000000 in
theorem app_any (ab A : Option Addr) (nb n c : Nat) (fb d : Nat → Int) (w : World) (hnb : nb + n ≤ 1048576) (hb : Cur .u8 w (.slice ab nb nb) nb fb) (hd : Cur .u8 w (.slice A n c) n d) :
    Calls Try.prog 21 #[.slice ab nb nb, .slice A n c] w fun e w' => AppPost w' (nb + 3 + n) (enc24 fb nb n d) e ∧ Below w.heap.size w w' := by
  obtain ⟨i0, hi, hz0, hz1, hz2⟩ := info_parts Try.info5
  obtain ⟨W0, hW0⟩ : ∃ W0, W0 = w.alloc (.cells #[.int .u8 ((n : Int) / 65536), .int .u8 ((n : Int) / 256 % 256), .int .u8 ((n : Int) % 256)] 5) := ⟨_, rfl⟩
  have hbel0 : Below w.heap.size w W0 := by rw [hW0]; exact (Below.refl _ _).alloc (Nat.le_refl _) _
  have hs0 : W0.heap.size = w.heap.size + 1 := by rw [hW0]; simp
  have hb0 := hb.below hbel0 (Nat.le_refl _)
  have HNONE : Hid (ab = none → nb = 0 ∧ nb = 0) := by
    intro e
    obtain ⟨A', c', e', hm, ⟨_, hc⟩ | ⟨b, o, hA, _⟩⟩ := hb
    · omega
    · simp at e'; rw [e] at e'; rw [hA] at e'; simp at e'
  have HOLDS : Hid (∀ b, ab = some b → ∀ j u, (cellsOf fb nb)[j]? = some u → W0.cell? (b.add j) = some u) := by
    intro b0 eb
    obtain ⟨A', c', e', hm, ⟨hA, _⟩ | ⟨b, o, hA, hcell⟩⟩ := hb0
    · simp at e'; rw [eb, hA] at e'; simp at e'
    · simp at e'
      rw [eb, hA] at e'
      simp at e'
      rw [e'.1]
      exact cells_at hcell
  have HHDR : Hid (∀ j u, (hdr n)[j]? = some u → W0.cell? ((⟨w.heap.size, 0, none⟩ : Addr).add j) = some u) := by rw [hW0]; exact hdr_at w n
  have HD : Hid (Cur .u8 w (.slice A n c) n d) := hd
  have HBEL0 : Hid (Below w.heap.size w W0) := hbel0
  have HW0 : Hid (W0 = w.alloc (.cells #[.int .u8 ((n : Int) / 65536), .int .u8 ((n : Int) / 256 % 256), .int .u8 ((n : Int) % 256)] 5)) := hW0
  clear hd hb hb0 hbel0 hW0
  go_enter Try.func21, Try.ntmps21
  go_wp2_with (at_builtin; rw [← HW0.out]; refine wpList_append_grows _ rfl (.tmp 8) (.tmp 17) 22 rfl 5 i0 (.int .u8 0) 1 1 Try.underlying22 hi hz0 hz1 hz2 rfl (by decide) ab nb nb (cellsOf fb nb) rfl HNONE.out (by rw [cellsOf_length, Nat.mul_one]) HOLDS.out ⟨w.heap.size, 0, none⟩ 3 3 (hdr n) rfl rfl HHDR.out (hdr_one n) (by omega) (by unfold maxLen; omega) (by omega) ?_)
  intro v1 w1 hown hgrow
  have hb1 : Below w.heap.size w w1 := HBEL0.out.grown hgrow (by omega) (fun k hk => by cases hk)
  have hd1 := HD.out.below hb1 (Nat.le_refl _)
  have hs1 : w.heap.size + 1 ≤ w1.heap.size := by have := hgrow.size; omega
  have HOWN : Hid (w1.ownsRow (w.heap.size + 1) 5 1 v1 (nb + 3) (cellsOf fb nb ++ hdr n)) := hown
  have HB1 : Hid (Below w.heap.size w w1) := hb1
  have hblk : Hid (∀ k, v1.ownBlock = some k → w.heap.size ≤ k) := fun k hk => by have := hown.lt k hk; omega
  clear hown hgrow hb1 HHDR HOLDS HNONE HBEL0 HW0 hs0
  obtain ⟨A', c', e', hm, ⟨hA, hc0⟩ | ⟨b, o, hA, hcell⟩⟩ := hd1
  · simp at e'
    obtain ⟨rfl, rfl⟩ := e'
    subst hA hc0
    obtain rfl : n = 0 := by omega
    go_wp2_with (at_builtin; refine wpList_append_own_none rfl (.tmp 19) (.tmp 20) 22 rfl (w.heap.size + 1) 5 i0 1 Try.underlying22 hi v1 (nb + 3) _ rfl HOWN.out rfl ?_)
    obtain ⟨A2, c2, rfl, h2⟩ := own_cur (G := enc24 fb nb 0 d) HOWN.out (by omega) (fun i hi => by have := enc_get fb nb 0 d i (by omega); rw [show cellsOf d 0 = [] from rfl, List.append_nil] at this; exact this)
    go_ret
    exact ⟨⟨A2, c2, rfl, h2⟩, HB1.out⟩
  · simp at e'
    obtain ⟨rfl, rfl⟩ := e'
    subst hA
    have HCELL : Hid (∀ j u, (cellsOf d n)[j]? = some u → w1.cell? ((⟨b, o, none⟩ : Addr).add j) = some u) := cells_at hcell
    clear hcell
    go_wp2_with (at_builtin; refine wpList_append_own _ rfl (.tmp 19) (.tmp 20) 22 rfl (w.heap.size + 1) 5 i0 (.int .u8 0) 1 1 Try.underlying22 hi hz0 hz1 hz2 rfl (by decide) v1 (nb + 3) _ rfl HOWN.out ⟨b, o, none⟩ n _ (cellsOf d n) rfl (by rw [cellsOf_length, Nat.mul_one]) HCELL.out (cellsOf_one d n) (by unfold maxLen; omega) (by omega) hs1 ?_)
    intro v2 w2 hown2 hgrow2 _
    obtain ⟨A2, c2, rfl, h2⟩ := own_cur (G := enc24 fb nb n d) hown2 (by omega) (fun i hi => by rw [← List.append_assoc]; exact enc_get fb nb n d i (by omega))
    have HB2 : Hid (Below w.heap.size w w2) := HB1.out.grown hgrow2 (by omega) hblk.out
    have H2 : Hid (Cur .u8 w2 (.slice A2 (nb + 3 + n) c2) (nb + 3 + n) (enc24 fb nb n d)) := h2
    clear hown2 hgrow2 h2
    go_wp2_with fail
    go_ret
    exact ⟨⟨A2, c2, rfl, H2.out⟩, HB2.out⟩

theorem zzapp_any (ab A : Option Addr) (nb n c : Nat) (fb d : Nat → Int) (w : World) (hnb : nb + n ≤ 1048576) (hb : Cur .u8 w (.slice ab nb nb) nb fb) (hd : Cur .u8 w (.slice A n c) n d) :
    Calls Try.prog 17 #[.slice ab nb nb, .slice A n c] w fun e w' => AppPost w' (nb + 3 + n) (enc24 fb nb n d) e ∧ Below w.heap.size w w' := by
  go_enter Try.func17, Try.ntmps17
  go_wp2_with fail
  refine (app_any ab A nb n c fb d _ hnb hb hd).mono ?_
  rintro e w1 ⟨⟨A2, c2, rfl, h2⟩, hb1⟩
  have H2 : Hid (Cur .u8 w1 (.slice A2 (nb + 3 + n) c2) (nb + 3 + n) (enc24 fb nb n d)) := h2
  clear h2 hb hd
  go_wp2_with fail
  go_ret
  exact ⟨⟨A2, c2, rfl, H2.out⟩, hb1⟩

end Go.Proofs.Qxb6601789a
