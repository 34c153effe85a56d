import Derived.Test.Qxb6601789aIntW
namespace Go.Proofs.Qxb6601789a
open Go.RowKit
set_option linter.unusedVariables false

theorem bytes18 (a a2 : Option Addr) (n c L c2 : Nat) (w : World) (h : n + L ≤ 1048576) :
    Calls Try.prog 18 #[.slice a n c, .slice a2 L c2] w fun e w' => e = .returned (.bool true) ∧ w' = w := by
  go_enter Try.func18, Try.ntmps18
  go_wp2
  go_ret
  exact ⟨rfl, rfl⟩

theorem bytes18_no (a a2 : Option Addr) (n c L c2 : Nat) (w : World) (h : 1048576 < n + L) (hn : n ≤ 9223372036854775807) (hL : L ≤ 9223372036854775807) :
    Calls Try.prog 18 #[.slice a n c, .slice a2 L c2] w fun e w' => e = .returned (.bool false) ∧ w' = w := by
  by_cases h1 : 1048576 < n
  · go_enter Try.func18, Try.ntmps18
    go_wp2
    go_ret
    exact ⟨rfl, rfl⟩
  · by_cases h2 : 1048576 < L
    · go_enter Try.func18, Try.ntmps18
      go_wp2
      go_ret
      exact ⟨rfl, rfl⟩
    · go_enter Try.func18, Try.ntmps18
      go_wp2
      go_ret
      exact ⟨rfl, rfl⟩

theorem enc_byte {fb d : Nat → Int} {nb n : Nat} (hn : n ≤ 1048576) (hb : ∀ i, 0 ≤ fb i ∧ fb i ≤ 255) (hd : ∀ i, 0 ≤ d i ∧ d i ≤ 255) (i : Nat) : 0 ≤ enc24 fb nb n d i ∧ enc24 fb nb n d i ≤ 255 := by
  unfold enc24
  by_cases h1 : i < nb
  · rw [if_pos h1]; exact hb i
  · rw [if_neg h1]
    by_cases h2 : i = nb
    · rw [if_pos h2]; omega
    · rw [if_neg h2]
      by_cases h3 : i = nb + 1
      · rw [if_pos h3]; omega
      · rw [if_neg h3]
        by_cases h4 : i = nb + 2
        · rw [if_pos h4]; omega
        · rw [if_neg h4]; exact hd _

theorem enc_head {fb d : Nat → Int} {nb n : Nat} (i : Nat) (h : i < nb) : enc24 fb nb n d i = fb i := by
  unfold enc24; rw [if_pos h]
theorem enc_tail {fb d : Nat → Int} {nb n : Nat} (i : Nat) : enc24 fb nb n d (nb + (3 + i)) = d i := by
  unfold enc24
  rw [if_neg (by omega), if_neg (by omega), if_neg (by omega), if_neg (by omega), show nb + (3 + i) - (nb + 3) = i by omega]
theorem enc_len {fb d : Nat → Int} {nb n : Nat} (hn : n ≤ 1048576) : be (fun i => enc24 fb nb n d (nb + i)) 3 = n := by
  have e0 : enc24 fb nb n d (nb + 0) = (n : Int) / 65536 := by unfold enc24; rw [if_neg (by omega), if_pos (by omega)]
  have e1 : enc24 fb nb n d (nb + 1) = (n : Int) / 256 % 256 := by unfold enc24; rw [if_neg (by omega), if_neg (by omega), if_pos (by omega)]
  have e2 : enc24 fb nb n d (nb + 2) = (n : Int) % 256 := by unfold enc24; rw [if_neg (by omega), if_neg (by omega), if_neg (by omega), if_pos (by omega)]
  simp only [be, e0, e1, e2]
  omega

/-- ZZTake at n of n + r bytes -/
def TakeAt (w : World) (n r : Nat) (g : Nat → Int) (e : Ending) : Prop :=
  ∃ A1 A2 c1 c2, e = .returned (.tuple #[.slice A1 n c1, .slice A2 r c2, .bool false]) ∧ Cur .u8 w (.slice A1 n c1) n g ∧ Cur .u8 w (.slice A2 r c2) r (fun i => g (n + i))

theorem zztake_at (A : Option Addr) (n r cc : Nat) (g : Nat → Int) (w : World) (hv : Cur .u8 w (.slice A (n + r) cc) (n + r) g) :
    Calls Try.prog 11 #[.slice A (n + r) cc, .bool false, .int .i64 n] w fun e w' => TakeAt w' n r g e ∧ Below w.heap.size w w' := by
  refine (zztake_ok A (n + r) cc n g w (by omega) hv).mono ?_
  rintro e w' ⟨h, hb⟩
  unfold TakePost at h
  rw [show n + r - n = r by omega] at h
  exact ⟨h, hb⟩

theorem zztake_all (A : Option Addr) (n cc : Nat) (g : Nat → Int) (w : World) (hv : Cur .u8 w (.slice A n cc) n g) :
    Calls Try.prog 11 #[.slice A n cc, .bool false, .int .i64 n] w fun e w' => TakeAt w' n 0 g e ∧ Below w.heap.size w w' := zztake_at A n 0 cc g w hv

def IntAt (w : World) (r : Nat) (g : Nat → Int) (e : Ending) : Prop :=
  ∃ A c, e = .returned (.tuple #[.int .u64 (be g 3), .slice A r c, .bool false]) ∧ Cur .u8 w (.slice A r c) r (fun i => g (3 + i))

theorem zzint_three (A : Option Addr) (r cc : Nat) (g : Nat → Int) (w : World) (hr : r ≤ 1048576) (hg : ∀ i, 0 ≤ g i ∧ g i ≤ 255) (hv : Cur .u8 w (.slice A (r + 3) cc) (r + 3) g) :
    Calls Try.prog 13 #[.slice A (r + 3) cc, .bool false, .int .i64 3] w fun e w' => IntAt w' r g e ∧ Below w.heap.size w w' := by
  refine (zzint_ok A (r + 3) cc 3 g w (by omega) (by omega) hg hv).mono ?_
  rintro e w' ⟨h, hb⟩
  unfold IntPost at h
  rw [show r + 3 - 3 = r by omega] at h
  exact ⟨h, hb⟩

set_option maxHeartbeats 2000000 in
theorem back_main (a0 a1 : Option Addr) (nb c0 n c1 : Nat) (fb d : Nat → Int) (w : World) (hnn : nb + n ≤ 1048576) (hb : In .u8 w a0 nb c0 fb) (hd : In .u8 w a1 n c1 d) (hfb : ∀ i, 0 ≤ fb i ∧ fb i ≤ 255) (hdb : ∀ i, 0 ≤ d i ∧ d i ≤ 255) :
    Calls Try.prog 7 #[.slice a0 nb c0, .slice a1 n c1] w fun e w' => e = .returned (.bool true) ∧ Below w.heap.size w w' := by
  have HB : Hid (In .u8 w a0 nb c0 fb) := hb
  have HD : Hid (In .u8 w a1 n c1 d) := hd
  have HG : Hid (∀ i, 0 ≤ enc24 fb nb n d i ∧ enc24 fb nb n d i ≤ 255) := enc_byte (by omega) hfb hdb
  have hd1 : decide ((1048576 : Int) < (nb : Int)) = false := by simp; omega
  have hd2 : decide ((1048576 : Int) < (n : Int)) = false := by simp; omega
  clear hb hd hfb hdb
  go_enter Try.func7, Try.ntmps7
  go_wp2_with fail
  refine (bytes18 _ _ _ _ _ _ _ hnn).mono ?_
  rintro e w' ⟨rfl, hw⟩
  obtain rfl := hw.symm
  clear hw
  go_wp2_with fail
  refine (clone_any a0 nb c0 fb _ (by omega) HB.out).mono ?_
  rintro e w1 ⟨⟨v, rfl, hcl⟩, hb1⟩
  obtain ⟨AB, rfl, hA⟩ := hcl.form
  have HA : Hid (Cur .u8 w1 (.slice AB nb nb) nb fb) := hA
  have HD1 : Hid (In .u8 w1 a1 n c1 d) := HD.out.below hb1
  have HB1 : Hid (Below w.heap.size w w1) := hb1
  clear hcl hA HB HD hb1
  go_wp2_with fail
  refine (clone_any a1 n c1 d _ (by omega) HD1.out).mono ?_
  rintro e w2 ⟨⟨v, rfl, hcl⟩, hb2⟩
  obtain ⟨A, rfl, hA'⟩ := hcl.form
  have HT2 : Hid (Cur .u8 w2 (.slice A n n) n d) := hA'
  have HA2 : Hid (Cur .u8 w2 (.slice AB nb nb) nb fb) := HA.out.below hb2 (Nat.le_refl _)
  have HB2 : Hid (Below w.heap.size w w2) := HB1.out.trans (hb2.mono HB1.out.size)
  clear hcl hA' HA HD1 HB1 hb2
  go_wp2_with fail
  refine (zzapp_any AB A nb n n fb d _ hnn HA2.out HT2.out).mono ?_
  rintro e w3 ⟨happ, hb3⟩
  unfold AppPost at happ
  rw [show nb + 3 + n = nb + (n + 3) by omega] at happ
  obtain ⟨E, ce, rfl, hE⟩ := happ
  have HE : Hid (Cur .u8 w3 (.slice E (nb + (n + 3)) ce) (nb + (n + 3)) (enc24 fb nb n d)) := hE
  have HA3 : Hid (Cur .u8 w3 (.slice AB nb nb) nb fb) := HA2.out.below hb3 (Nat.le_refl _)
  have HT3 : Hid (Cur .u8 w3 (.slice A n n) n d) := HT2.out.below hb3 (Nat.le_refl _)
  have HB3 : Hid (Below w.heap.size w w3) := HB2.out.trans (hb3.mono HB2.out.size)
  clear hE HA2 HT2 HB2 hb3
  go_wp2_with fail
  refine (zztake_at E nb (n + 3) ce _ _ HE.out).mono ?_
  rintro e w4 ⟨⟨A1, A2, c1', c2', rfl, hg1, hr1⟩, hb4⟩
  have HG1 : Hid (Cur .u8 w4 (.slice A1 nb c1') nb (enc24 fb nb n d)) := hg1
  have HR1 : Hid (Cur .u8 w4 (.slice A2 (n + 3) c2') (n + 3) (fun i => enc24 fb nb n d (nb + i))) := hr1
  have HA4 : Hid (Cur .u8 w4 (.slice AB nb nb) nb fb) := HA3.out.below hb4 (Nat.le_refl _)
  have HT4 : Hid (Cur .u8 w4 (.slice A n n) n d) := HT3.out.below hb4 (Nat.le_refl _)
  have HB4 : Hid (Below w.heap.size w w4) := HB3.out.trans (hb4.mono HB3.out.size)
  clear hg1 hr1 HE HA3 HT3 HB3 hb4
  go_wp2_with fail
  refine (equal_any A1 AB nb nb c1' nb _ fb _ (by omega) HG1.out HA4.out).mono ?_
  rintro e w5 ⟨⟨r, rfl, hr⟩, nd, rfl⟩
  obtain rfl : r = true := hr.2 ⟨rfl, fun i hi => enc_head i hi⟩
  clear hr
  go_wp2_with fail
  refine (zzint_three A2 n c2' _ _ (by omega) (fun i => HG.out (nb + i)) (HR1.out.drewN _)).mono ?_
  rintro e w6 ⟨⟨A3, c3, rfl, hr2⟩, hb6⟩
  rw [enc_len (by omega)]
  have HR2 : Hid (Cur .u8 w6 (.slice A3 n c3) n (fun i => enc24 fb nb n d (nb + (3 + i)))) := hr2
  have HT6 : Hid (Cur .u8 w6 (.slice A n n) n d) := (HT4.out.drewN nd).below hb6 (Nat.le_refl _)
  have HB6 : Hid (Below w.heap.size w w6) := (below_drewN HB4.out nd).trans (hb6.mono HB4.out.size)
  clear hr2 HR1 HA4 HT4 HB4 hb6 HG1
  go_wp2_with fail
  refine (zztake_all A3 n c3 _ _ HR2.out).mono ?_
  rintro e w7 ⟨⟨A4, A5, c4, c5, rfl, hg4, hr4⟩, hb7⟩
  have HG4 : Hid (Cur .u8 w7 (.slice A4 n c4) n (fun i => enc24 fb nb n d (nb + (3 + i)))) := hg4
  have HT7 : Hid (Cur .u8 w7 (.slice A n n) n d) := HT6.out.below hb7 (Nat.le_refl _)
  have HB7 : Hid (Below w.heap.size w w7) := HB6.out.trans (hb7.mono HB6.out.size)
  clear hg4 hr4 HR2 HT6 HB6 hb7
  go_wp2_with fail
  refine (equal_any A4 A n n c4 n _ d _ (by omega) HG4.out HT7.out).mono ?_
  rintro e w8 ⟨⟨r, rfl, hr⟩, nd2, rfl⟩
  obtain rfl : r = true := hr.2 ⟨rfl, fun i hi => enc_tail i⟩
  clear hr
  go_wp2_with fail
  go_ret
  exact ⟨rfl, below_drewN HB7.out _⟩

end Go.Proofs.Qxb6601789a
