import Derived.Test.Qxb6601789aTake
namespace Go.Proofs.Qxb6601789a
open Go.RowKit
set_option linter.unusedVariables false

theorem Cur.spot {k : IntKind} {w : World} {A : Option Addr} {m cc : Nat} {g : Nat → Int} (h : Cur k w (.slice A m cc) m g) (h0 : 0 < m) :
    ∃ b o, A = some ⟨b, o, none⟩ ∧ ∀ i, i < m → w.cell? ⟨b, o + i, none⟩ = some (.int k (g i)) := by
  obtain ⟨A', c', e, hm, ⟨hA, hc⟩ | ⟨b, o, hA, hc⟩⟩ := h
  · omega
  · simp at e
    exact ⟨b, o, by rw [e.1, hA], hc⟩

theorem Cl.form {k : IntKind} {t : TypeId} {w w' : World} {v : Value} {n : Nat} {g : Nat → Int} (h : Cl k t w w' v n g) : ∃ A, v = .slice A n n ∧ Cur k w' (.slice A n n) n g := by
  have hc := h.cur
  rcases h with ⟨rfl, rfl, _⟩ | ⟨rfl, _, _⟩
  · exact ⟨none, rfl, hc⟩
  · exact ⟨_, rfl, hc⟩

theorem In.spot {k : IntKind} {w : World} {a : Option Addr} {n c : Nat} {f : Nat → Int} (h : In k w a n c f) (h0 : 0 < n) :
    ∃ b o, a = some ⟨b, o, none⟩ ∧ ∀ i, i < n → w.cell? ⟨b, o + i, none⟩ = some (.int k (f i)) := by
  rcases h with ⟨_, rfl, _⟩ | ⟨⟨b, o, sp⟩, rfl, hc⟩
  · omega
  · have hsp : sp = none := by simpa [Addr.add] using World.cell?_spot (hc 0 h0)
    subst hsp
    exact ⟨b, o, rfl, fun i hi => by rw [← Go.WideShapes.add_plain]; exact hc i hi⟩

theorem bytes8 (a a2 : Option Addr) (n c L c2 : Nat) (fl : Bool) (w : World) (h : n + L ≤ 1048576) :
    Calls Try.prog 8 #[.slice a n c, .bool fl, .slice a2 L c2] w fun e w' => e = .returned (.bool true) ∧ w' = w := by
  go_enter Try.func8, Try.ntmps8
  go_wp2
  go_ret
  exact ⟨rfl, rfl⟩

theorem bytes8_no (a a2 : Option Addr) (n c L c2 : Nat) (fl : Bool) (w : World) (h : 1048576 < n + L) (hn : n ≤ 9223372036854775807) (hL : L ≤ 9223372036854775807) :
    Calls Try.prog 8 #[.slice a n c, .bool fl, .slice a2 L c2] w fun e w' => e = .returned (.bool false) ∧ w' = w := by
  by_cases h1 : 1048576 < n
  · go_enter Try.func8, Try.ntmps8
    go_wp2
    go_ret
    exact ⟨rfl, rfl⟩
  · by_cases h2 : 1048576 < L
    · go_enter Try.func8, Try.ntmps8
      go_wp2
      go_ret
      exact ⟨rfl, rfl⟩
    · go_enter Try.func8, Try.ntmps8
      go_wp2
      go_ret
      exact ⟨rfl, rfl⟩

set_option maxRecDepth 4000 in
set_option maxHeartbeats 4000000 in
theorem script_main (a0 a2 : Option Addr) (n c0 L c2 : Nat) (fl : Bool) (d s : Nat → Int) (w : World) (hnL : n + L ≤ 1048576) (hL : L ≤ 131072) (hd : In .u8 w a0 n c0 d) (hs : In .i64 w a2 L c2 s)
    (hsb : ∀ i, i < L → s i ≤ 9223372036854775807) :
    Calls Try.prog 3 #[.slice a0 n c0, .bool fl, .slice a2 L c2] w fun e w' => e = .returned (.bool true) ∧ Below w.heap.size w w' := by
  have HD : Hid (In .u8 w a0 n c0 d) := hd
  have HS : Hid (In .i64 w a2 L c2 s) := hs
  have HSB : Hid (∀ i, i < L → s i ≤ 9223372036854775807) := hsb
  have hd1 : decide ((1048576 : Int) < (n : Int)) = false := by simp; omega
  have hd2 : decide ((131072 : Int) < (L : Int)) = false := by simp; omega
  clear hd hs hsb
  go_enter Try.func3, Try.ntmps3
  go_wp2_with fail
  refine (bytes8 _ _ _ _ _ _ _ _ hnL).mono ?_
  rintro e w' ⟨rfl, hw⟩
  obtain rfl := hw.symm
  clear hw
  go_wp2_with fail
  go_loop [7] (fun t => ∃ k : Nat, k ≤ L ∧ t = .int .i64 k ∧ ∀ i, i < k → 0 ≤ s i) (fun t => L - (intOf t).toNat)
  case atStart => exact ⟨0, by omega, rfl, fun i h => by omega⟩
  case round =>
    obtain ⟨k, hk, rfl, hp⟩ := hrel
    have HP : Hid (∀ i, i < k → 0 ≤ s i) := hp
    clear hp
    by_cases hlt : k < L
    · obtain ⟨b, o, rfl, hc⟩ := HS.out.spot (by omega)
      have ck := hc k hlt
      clear hc
      by_cases hneg : s k < 0
      · go_wp2_with fail
        go_ret
        exact ⟨rfl, Below.refl _ _⟩
      · go_wp2_with fail
        go_round
        case rel =>
          refine ⟨k + 1, by omega, by go_num, fun i hi => ?_⟩
          by_cases e : i = k
          · rw [e]; omega
          · exact HP.out i (by omega)
        case measure => simp [intOf]; omega
    · obtain rfl : L = k := by omega
      go_wp2_with fail
      refine (clone_any a0 n c0 d _ (by omega) HD.out).mono ?_
      rintro e w1 ⟨⟨v, rfl, hcl⟩, hb1⟩
      obtain ⟨A, rfl, hA⟩ := hcl.form
      have HA : Hid (Cur .u8 w1 (.slice A n n) n d) := hA
      have HS1 : Hid (In .i64 w1 a2 L c2 s) := HS.out.below hb1
      clear hcl hA
      go_wp2_with fail
      refine (cloneInts_any a2 L c2 s _ (by omega) HS1.out).mono ?_
      rintro e w2 ⟨⟨v, rfl, hcl⟩, hb2⟩
      obtain ⟨AN, rfl, hN⟩ := hcl.form
      have HN : Hid (Cur .i64 w2 (.slice AN L L) L s) := hN
      have HA2 : Hid (Cur .u8 w2 (.slice A n n) n d) := HA.out.below hb2 (Nat.le_refl _)
      have hb : Below w.heap.size w w2 := hb1.trans (hb2.mono hb1.size)
      clear hcl hN hb1 hb2 HA HS1
      go_wp2_with fail
      have HP0 : Hid (∀ i, i < L → 0 ≤ s i) := HP.out
      have HBB : Hid (Below w.heap.size w w2) := hb
      clear hb HP HD HS
      go_loopw [8, 9, 10, 11, 12] (fun c f p mf i wr => ∃ (k q m : Nat) (r : Bool) (Ac : Option Addr) (cc : Nat), k ≤ L ∧ q + m ≤ n ∧ n ≤ q + m ∧ i = .int .i64 k ∧ p = .int .i64 q ∧ f = .bool r ∧ mf = .bool r ∧ c = .slice Ac m cc ∧
          Cur .u8 wr (.slice Ac m cc) m (fun i => d (q + i)) ∧ Cur .u8 wr (.slice A n n) n d ∧ Cur .i64 wr (.slice AN L L) L s ∧ Below w.heap.size w wr) (fun _ _ _ _ i _ => L - (intOf i).toNat)
      case atStart => exact ⟨0, 0, n, fl, A, n, by omega, by omega, by omega, rfl, rfl, rfl, rfl, rfl, HA2.out.congr (fun i _ => by rw [Nat.zero_add]), HA2.out, HN.out, HBB.out⟩
      case round =>
        clear HA2 HN HBB hlt hk
        obtain ⟨k, q, m, r, Ac, cc, hk, hq1, hq2, rfl, rfl, rfl, rfl, rfl, hcur, hdat, hns, hb⟩ := hrel
        have HC : Hid (Cur .u8 wr (.slice Ac m cc) m (fun i => d (q + i))) := hcur
        have HT : Hid (Cur .u8 wr (.slice A n n) n d) := hdat
        have HN : Hid (Cur .i64 wr (.slice AN L L) L s) := hns
        have HB : Hid (Below w.heap.size w wr) := hb
        clear hcur hdat hns hb
        by_cases hlt : k < L
        · obtain ⟨bN, oN, rfl, hcN⟩ := HN.out.spot (by omega)
          have ck := hcN k hlt
          have sk := HP0.out k hlt
          have sb := HSB.out k hlt
          clear hcN
          obtain ⟨t, ht⟩ : ∃ t : Nat, s k = (t : Int) := ⟨(s k).toNat, by omega⟩
          rw [ht] at ck sk sb
          clear ht
          by_cases hno : r = true ∨ m < t
          · have hnil := fun (w : World) (a : Option Addr) (n c n' c' : Nat) => run_neq_slice_nil_any (P := Try.prog) w 22 5 a n c n' c' Try.underlying22
            have hcase : r = true ∨ (r = false ∧ m < t ∧ decide ((t : Int) ≤ (n : Int) - (q : Int)) = false) := by
              cases r
              · simp at hno
                refine .inr ⟨rfl, hno, ?_⟩
                simp
                omega
              · exact .inl rfl
            clear hno
            rcases hcase with rfl | ⟨rfl, hmt, hd3⟩
            all_goals
              go_wp2_with fail
              refine (zztake_no Ac m cc t _ _ _ (by first | exact .inl rfl | exact .inr (by omega)) HC.out).mono ?_
              rintro e w3 ⟨rfl, hb3⟩
              have HT3 : Hid (Cur .u8 w3 (.slice A n n) n d) := HT.out.below hb3 (Nat.le_refl _)
              have HN3 : Hid (Cur .i64 w3 (.slice (some ⟨bN, oN, none⟩) L L) L s) := HN.out.below hb3 (Nat.le_refl _)
              have HB3 : Hid (Below w.heap.size w w3) := HB.out.trans (hb3.mono HB.out.size)
              have HC3 : Hid (Cur .u8 w3 (.slice Ac m cc) m (fun i => d (q + i))) := HC.out.below hb3 (Nat.le_refl _)
              clear hb3 HT HN HB HC ck
              go_wp2_with fail
              go_roundw
              case rel => exact ⟨k + 1, q, m, true, Ac, cc, by omega, by omega, by omega, by go_num, rfl, rfl, rfl, rfl, HC3.out, HT3.out, HN3.out, HB3.out⟩
              case measure => simp [intOf]; omega
          · have hr : r = false := by cases r <;> simp_all
            subst hr
            have htm : t ≤ m := by omega
            clear hno
            go_wp2_with fail
            refine (zztake_ok Ac m cc t _ _ htm HC.out).mono ?_
            rintro e w3 ⟨⟨A1, A2, c1, c2', rfl, h1, h2⟩, hb3⟩
            have HT3 : Hid (Cur .u8 w3 (.slice A n n) n d) := HT.out.below hb3 (Nat.le_refl _)
            have HN3 : Hid (Cur .i64 w3 (.slice (some ⟨bN, oN, none⟩) L L) L s) := HN.out.below hb3 (Nat.le_refl _)
            have HB3 : Hid (Below w.heap.size w w3) := HB.out.trans (hb3.mono HB.out.size)
            have H1 : Hid (Cur .u8 w3 (.slice A1 t c1) t (fun i => d (q + i))) := h1
            have H2 : Hid (Cur .u8 w3 (.slice A2 (m - t) c2') (m - t) (fun i => d (q + (t + i)))) := h2
            clear h1 h2 hb3 HT HN HB HC ck
            have hd3 : decide ((t : Int) ≤ (n : Int) - (q : Int)) = true := by simp; omega
            go_wp2_with fail
            go_loopg [17] t (fun g j wr => ∃ (j' nd : Nat), g = t - j' ∧ j' ≤ t ∧ j = .int .i64 j' ∧ w3.drewN nd = wr)
            case atStart => exact ⟨0, 0, rfl, by omega, rfl, rfl⟩
            case round =>
              obtain ⟨j', nd, rfl, hj, rfl, rfl⟩ := hrel
              by_cases hjt : j' < t
              · obtain ⟨b1, o1, rfl, hc1⟩ := H1.out.spot (by omega)
                obtain ⟨bA, oA, rfl, hcA⟩ := HT3.out.spot (by omega)
                have e1 := hc1 j' hjt
                have eA := hcA (q + j') (by omega)
                have i1 : (j' : Int) < (t : Int) := by omega
                have iA : (q : Int) + (j' : Int) < (n : Int) := by omega
                clear hc1 hcA
                go_wp2_with fail
                go_quiet (fail)
                go_wp2_with fail
                go_roundg (t - (j' + 1))
                case measure => omega
                case rel => exact ⟨j' + 1, nd + nq, rfl, by omega, by go_num, rfl⟩
              · go_wp2_with fail
                go_roundw
                case rel =>
                  refine ⟨k + 1, q + t, m - t, false, A2, c2', by omega, by omega, by omega, by go_num, by go_num, rfl, rfl, rfl, ?_, HT3.out.drewN _, HN3.out.drewN _, below_drewN HB3.out _⟩
                  exact (H2.out.drewN _).congr (fun i _ => by rw [Nat.add_assoc])
                case measure => simp [intOf]; omega
        · have hd4 : ((m : Int) != (n : Int) - (q : Int)) = false := by simp; omega
          cases r
          all_goals
            go_wp2_with fail
            go_loopg [18] m (fun g j wr' => ∃ (j' nd : Nat), g = m - j' ∧ j' ≤ m ∧ j = .int .i64 j' ∧ wr.drewN nd = wr')
            case atStart => exact ⟨0, 0, rfl, by omega, rfl, rfl⟩
            case round =>
              obtain ⟨j', nd, rfl, hj, rfl, rfl⟩ := hrel
              by_cases hjt : j' < m
              · obtain ⟨b1, o1, rfl, hc1⟩ := HC.out.spot (by omega)
                obtain ⟨bA, oA, rfl, hcA⟩ := HT.out.spot (by omega)
                have e1 := hc1 j' hjt
                have eA := hcA (q + j') (by omega)
                have i1 : (j' : Int) < (m : Int) := by omega
                have iA : (q : Int) + (j' : Int) < (n : Int) := by omega
                clear hc1 hcA
                go_wp2_with fail
                go_quiet (fail)
                go_wp2_with fail
                go_roundg (m - (j' + 1))
                case measure => omega
                case rel => exact ⟨j' + 1, nd + nq, rfl, by omega, by go_num, rfl⟩
              · go_wp2_with fail
                go_ret
                exact ⟨rfl, below_drewN HB.out _⟩

end Go.Proofs.Qxb6601789a
