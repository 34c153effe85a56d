import Derived.Test.Qxb6601789aApp
namespace Go.Proofs.Qxb6601789a
open Go.RowKit
set_option linter.unusedVariables false

def Same (m m' : Nat) (g g' : Nat → Int) : Prop := m = m' ∧ ∀ i, i < m → g i = g' i
def EqPost (m m' : Nat) (g g' : Nat → Int) (e : Ending) : Prop := ∃ r : Bool, e = .returned (.bool r) ∧ (r = true ↔ Same m m' g g')

set_option maxHeartbeats 400000 in
theorem equal_any (A A' : Option Addr) (m m' c c' : Nat) (g g' : Nat → Int) (w : World) (hm : m ≤ 2097152) (hg : Cur .u8 w (.slice A m c) m g) (hg' : Cur .u8 w (.slice A' m' c') m' g') :
    Calls Try.prog 14 #[.slice A m c, .slice A' m' c'] w fun e w' => EqPost m m' g g' e ∧ ∃ nd, w' = w.drewN nd := by
  have HG : Hid (Cur .u8 w (.slice A m c) m g) := hg
  have HG' : Hid (Cur .u8 w (.slice A' m' c') m' g') := hg'
  clear hg hg'
  by_cases hmm : m = m'
  · subst hmm
    have hz : ((m : Int) != (m : Int)) = false := by simp
    go_enter Try.func14, Try.ntmps14
    go_wp2_with fail
    go_loopw [5] (fun t wr => ∃ j nd : Nat, j ≤ m ∧ t = .int .i64 j ∧ wr = w.drewN nd ∧ ∀ i, i < j → g i = g' i) (fun t _ => m - (intOf t).toNat)
    case atStart => exact ⟨0, 0, by omega, rfl, rfl, fun i h => by omega⟩
    case round =>
      obtain ⟨j, nd, hj, rfl, rfl, hp⟩ := hrel
      have HP : Hid (∀ i, i < j → g i = g' i) := hp
      clear hp
      by_cases hlt : j < m
      · obtain ⟨b, o, rfl, hc⟩ := HG.out.spot (by omega)
        obtain ⟨b', o', rfl, hc'⟩ := HG'.out.spot (by omega)
        have e1 := hc j hlt
        have e2 := hc' j hlt
        have hi : (j : Int) < (m : Int) := by omega
        clear hc hc'
        by_cases he : g j = g' j
        · have t1 : (g j != g' j) = false := by simpa using he
          have HE : Hid (g j = g' j) := he
          clear he
          go_wp2_with fail
          go_quiet (fail)
          go_wp2_with fail
          go_roundw
          case rel =>
            refine ⟨j + 1, _, by omega, by go_num, rfl, fun i hi => ?_⟩
            by_cases e : i = j
            · rw [e]; exact HE.out
            · exact HP.out i (by omega)
          case measure => simp [intOf]; omega
        · have t1 : (g j != g' j) = true := by simpa using he
          have HE : Hid (g j ≠ g' j) := he
          clear he
          go_wp2_with fail
          go_quiet (fail)
          go_wp2_with fail
          go_ret
          exact ⟨⟨false, rfl, ⟨fun h => (by cases h), fun h => absurd (h.2 j hlt) HE.out⟩⟩, nd + nq, by rw [World.drewN_drewN]⟩
      · go_wp2_with fail
        go_ret
        exact ⟨⟨true, rfl, ⟨fun _ => ⟨rfl, fun i hi => HP.out i (by omega)⟩, fun _ => rfl⟩⟩, _, rfl⟩
  · have hz : ((m : Int) != (m' : Int)) = true := by simp; omega
    go_enter Try.func14, Try.ntmps14
    go_wp2_with fail
    go_ret
    exact ⟨⟨false, rfl, ⟨fun h => (by cases h), fun h => absurd h.1 hmm⟩⟩, 0, rfl⟩

theorem bytes16 (a a2 : Option Addr) (n c L c2 : Nat) (w : World) (h : n + L ≤ 1048576) :
    Calls Try.prog 16 #[.slice a n c, .slice a2 L c2] w fun e w' => e = .returned (.bool true) ∧ w' = w := by
  go_enter Try.func16, Try.ntmps16
  go_wp2
  go_ret
  exact ⟨rfl, rfl⟩

theorem bytes16_no (a a2 : Option Addr) (n c L c2 : Nat) (w : World) (h : 1048576 < n + L) (hn : n ≤ 9223372036854775807) (hL : L ≤ 9223372036854775807) :
    Calls Try.prog 16 #[.slice a n c, .slice a2 L c2] w fun e w' => e = .returned (.bool false) ∧ w' = w := by
  by_cases h1 : 1048576 < n
  · go_enter Try.func16, Try.ntmps16
    go_wp2
    go_ret
    exact ⟨rfl, rfl⟩
  · by_cases h2 : 1048576 < L
    · go_enter Try.func16, Try.ntmps16
      go_wp2
      go_ret
      exact ⟨rfl, rfl⟩
    · go_enter Try.func16, Try.ntmps16
      go_wp2
      go_ret
      exact ⟨rfl, rfl⟩

/-- the encoding of a text of n bytes, on its own -/
def enc0 (n : Nat) (d : Nat → Int) : Nat → Int := enc24 (fun _ => 0) 0 n d

theorem zzapp_nil (A : Option Addr) (n c : Nat) (d : Nat → Int) (w : World) (hn : n ≤ 1048576) (hd : Cur .u8 w (.slice A n c) n d) :
    Calls Try.prog 17 #[.slice none 0 0, .slice A n c] w fun e w' => AppPost w' (n + 3) (enc0 n d) e ∧ Below w.heap.size w w' := by
  refine (zzapp_any none A 0 n c (fun _ => 0) d w (by omega) (Cur.nil _ _ _) hd).mono ?_
  rintro e w1 ⟨h, hb⟩
  rw [show 0 + 3 + n = n + 3 by omega] at h
  exact ⟨h, hb⟩

theorem enc_same {n n' : Nat} {d d' : Nat → Int} (hn : n ≤ 1048576) (hn' : n' ≤ 1048576) (h : ∀ i, i < n + 3 → enc0 n d i = enc0 n' d' i) : Same n n' d d' := by
  have h0 := h 0 (by omega)
  have h1 := h 1 (by omega)
  have h2 := h 2 (by omega)
  simp [enc0, enc24] at h0 h1 h2
  have e : n = n' := by omega
  refine ⟨e, fun i hi => ?_⟩
  have h3 := h (i + 3) (by omega)
  unfold enc0 enc24 at h3
  rw [if_neg (by omega), if_neg (by omega), if_neg (by omega), if_neg (by omega), if_neg (by omega), if_neg (by omega), if_neg (by omega), if_neg (by omega)] at h3
  rw [show i + 3 - (0 + 3) = i by omega] at h3
  exact h3

theorem same_enc {n n' : Nat} {d d' : Nat → Int} (h : Same n n' d d') : Same (n + 3) (n + 3) (enc0 n d) (enc0 n' d') := by
  obtain ⟨rfl, h⟩ := h
  refine ⟨rfl, fun i hi => ?_⟩
  unfold enc0 enc24
  by_cases h0 : i < 3
  · have : i = 0 ∨ i = 1 ∨ i = 2 := by omega
    rcases this with rfl | rfl | rfl <;> rfl
  · rw [if_neg (by omega), if_neg (by omega), if_neg (by omega), if_neg (by omega), if_neg (by omega), if_neg (by omega), if_neg (by omega), if_neg (by omega)]
    exact h _ (by omega)

theorem Cur.take {k : IntKind} {w : World} {b o m m' cc : Nat} {g : Nat → Int} (h : Cur k w (.slice (some ⟨b, o, none⟩) m cc) m g) (hm : m' ≤ m) : Cur k w (.slice (some ⟨b, o, none⟩) m' cc) m' g := by
  obtain ⟨A', c', e, hc, ⟨hA, _⟩ | ⟨b', o', hA, hcell⟩⟩ := h
  · simp at e; rw [hA] at e; simp at e
  · simp at e
    rw [hA] at e
    simp at e
    obtain ⟨⟨rfl, rfl⟩, rfl⟩ := e
    exact ⟨_, _, rfl, by omega, .inr ⟨b, o, rfl, fun i hi => hcell i (by omega)⟩⟩

set_option maxHeartbeats 1000000 in
theorem prefix_main (a0 a1 : Option Addr) (n c0 n' c1 : Nat) (d d' : Nat → Int) (w : World) (hnn : n + n' ≤ 1048576) (hd : In .u8 w a0 n c0 d) (hd' : In .u8 w a1 n' c1 d') :
    Calls Try.prog 6 #[.slice a0 n c0, .slice a1 n' c1] w fun e w' => e = .returned (.bool true) ∧ Below w.heap.size w w' := by
  have HD : Hid (In .u8 w a0 n c0 d) := hd
  have HD' : Hid (In .u8 w a1 n' c1 d') := hd'
  have hd1 : decide ((1048576 : Int) < (n : Int)) = false := by simp; omega
  have hd2 : decide ((1048576 : Int) < (n' : Int)) = false := by simp; omega
  clear hd hd'
  go_enter Try.func6, Try.ntmps6
  go_wp2_with fail
  refine (bytes16 _ _ _ _ _ _ _ hnn).mono ?_
  rintro e w' ⟨rfl, hw⟩
  obtain rfl := hw.symm
  clear hw
  go_wp2_with fail
  refine (clone_any a0 n c0 d _ (by omega) HD.out).mono ?_
  rintro e w1 ⟨⟨v, rfl, hcl⟩, hb1⟩
  obtain ⟨A, rfl, hA⟩ := hcl.form
  have HA : Hid (Cur .u8 w1 (.slice A n n) n d) := hA
  have HD1 : Hid (In .u8 w1 a1 n' c1 d') := HD'.out.below hb1
  have HB1 : Hid (Below w.heap.size w w1) := hb1
  clear hcl hA HD' HD hb1
  go_wp2_with fail
  refine (clone_any a1 n' c1 d' _ (by omega) HD1.out).mono ?_
  rintro e w2 ⟨⟨v, rfl, hcl⟩, hb2⟩
  obtain ⟨A', rfl, hA'⟩ := hcl.form
  have HA' : Hid (Cur .u8 w2 (.slice A' n' n') n' d') := hA'
  have HA2 : Hid (Cur .u8 w2 (.slice A n n) n d) := HA.out.below hb2 (Nat.le_refl _)
  have HB2 : Hid (Below w.heap.size w w2) := HB1.out.trans (hb2.mono HB1.out.size)
  clear hcl hA' HA HD1 HB1 hb2
  go_wp2_with fail
  refine (zzapp_nil A n n d _ (by omega) HA2.out).mono ?_
  rintro e w3 ⟨⟨E, ce, rfl, hE⟩, hb3⟩
  have HE : Hid (Cur .u8 w3 (.slice E (n + 3) ce) (n + 3) (enc0 n d)) := hE
  have HA3 : Hid (Cur .u8 w3 (.slice A n n) n d) := HA2.out.below hb3 (Nat.le_refl _)
  have HA3' : Hid (Cur .u8 w3 (.slice A' n' n') n' d') := HA'.out.below hb3 (Nat.le_refl _)
  have HB3 : Hid (Below w.heap.size w w3) := HB2.out.trans (hb3.mono HB2.out.size)
  clear hE HA2 HA' HB2 hb3
  go_wp2_with fail
  refine (zzapp_nil A' n' n' d' _ (by omega) HA3'.out).mono ?_
  rintro e w4 ⟨⟨E', ce', rfl, hE'⟩, hb4⟩
  have HE' : Hid (Cur .u8 w4 (.slice E' (n' + 3) ce') (n' + 3) (enc0 n' d')) := hE'
  have HE4 : Hid (Cur .u8 w4 (.slice E (n + 3) ce) (n + 3) (enc0 n d)) := HE.out.below hb4 (Nat.le_refl _)
  have HA4 : Hid (Cur .u8 w4 (.slice A n n) n d) := HA3.out.below hb4 (Nat.le_refl _)
  have HA4' : Hid (Cur .u8 w4 (.slice A' n' n') n' d') := HA3'.out.below hb4 (Nat.le_refl _)
  have HB4 : Hid (Below w.heap.size w w4) := HB3.out.trans (hb4.mono HB3.out.size)
  clear hE' HE HA3 HA3' HB3 hb4
  by_cases hle : n ≤ n'
  · have hd3 : decide ((n : Int) + 3 ≤ (n' : Int) + 3) = true := by simp; omega
    obtain ⟨bE, oE, rfl, _⟩ := HE'.out.spot (by omega)
    have hce : n' + 3 ≤ ce' := by
      obtain ⟨_, _, e, hc, _⟩ := HE'.out
      simp at e; omega
    have hce0 : ¬ ce' = 0 := by omega
    go_wp2_with fail
    refine (equal_any E (some ⟨bE, oE, none⟩) (n + 3) (n + 3) ce ce' (enc0 n d) (enc0 n' d') _ (by omega) HE4.out (HE'.out.take (by omega))).mono ?_
    rintro e w5 ⟨⟨r1, rfl, hr1⟩, nd, rfl⟩
    have HR1 : Hid (r1 = true ↔ Same (n + 3) (n + 3) (enc0 n d) (enc0 n' d')) := hr1
    clear hr1
    go_wp2_with fail
    refine (equal_any A A' n n' n n' d d' _ (by omega) (HA4.out.drewN _) (HA4'.out.drewN _)).mono ?_
    rintro e w6 ⟨⟨r2, rfl, hr2⟩, nd2, rfl⟩
    have hrr : r1 = r2 := by
      have h1 := HR1.out
      cases r1 <;> cases r2
      · rfl
      · have := h1.2 (same_enc (hr2.1 rfl)); cases this
      · have hs := h1.1 rfl
        have := hr2.2 (enc_same (by omega) (by omega) hs.2); cases this
      · rfl
    subst hrr
    clear hr2 HR1
    cases r1
    all_goals
      go_wp2_with fail
      go_ret
      exact ⟨rfl, below_drewN HB4.out _⟩
  · have hd3 : decide ((n : Int) + 3 ≤ (n' : Int) + 3) = false := by simp; omega
    go_wp2_with fail
    refine (equal_any A A' n n' n n' d d' _ (by omega) HA4.out HA4'.out).mono ?_
    rintro e w6 ⟨⟨r2, rfl, hr2⟩, nd2, rfl⟩
    have hrr : r2 = false := by
      cases r2
      · rfl
      · have := (hr2.1 rfl).1; omega
    subst hrr
    clear hr2
    go_wp2_with fail
    go_ret
    exact ⟨rfl, below_drewN HB4.out _⟩

end Go.Proofs.Qxb6601789a
