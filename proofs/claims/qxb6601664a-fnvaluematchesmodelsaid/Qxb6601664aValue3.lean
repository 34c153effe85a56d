import Derived.Test.Qxb6601664aValue2
namespace Go.Proofs.Qxb6601664a
open Go.RowKit
set_option linter.unusedVariables false

set_option maxHeartbeats 2000000 in
theorem value_con (B : Nat) (w0 : World) (bd b n : Nat) (f : Nat → Int) (p k e0 : Nat) (hn : n ≤ 1048576) (hp : p ≤ n) (hF : First f n p k)
    (t34 : (f k == 34) = false) (to : (f k == 123) = true ∨ ((f k == 123) = false ∧ (f k == 91) = true)) (hd : DxE f n k 0 e0)
    (w : World) (h : Jt B w0 w bd b n f p) :
    Calls Try.prog 31 #[.pointer (some ⟨bd, 0, none⟩)] w fun e w' => e = .returned (.slice (some ⟨b, k, none⟩) (e0 - k) (n - k)) ∧ Jt B w0 w' bd b n f e0 := by
  have HF : Hid (First f n p k) := hF
  have hkn : (k : Int) < (n : Int) := by have := hF.2.1; omega
  have hbd : k < e0 ∧ e0 ≤ n := by obtain ⟨g, hg⟩ := hd; have := hg.bound; omega
  have HD : Hid (DxE f n k 0 e0) := hd
  clear hF hd
  have hke : (k : Int) ≤ (e0 : Int) := by omega
  have hen : (e0 : Int) ≤ (n : Int) := by omega
  have hne : ¬ n = k := by omega
  rcases to with t1 | ⟨t1, t2⟩
  all_goals
    go_enter Try.func31, Try.ntmps31
    go_wp2_with fail
    refine (skip_any B w0 bd b n f p hn hp _ h).mono ?_
    rintro e w1 ⟨rfl, q, q1, q2, q3, q4, hj⟩
    obtain rfl := first_eq HF.out q1 q2 q3 q4
    clear q3 q4 h
    have c0 := hj.c0
    have c1 := hj.c1
    have fz := hj.fz
    have cc := hj.cell (i := k) (by omega)
    have HJ : Hid (Jt B w0 w1 bd b n f k) := hj
    clear hj
    go_wp2_with fail
    go_quiet (fail)
    go_wp2_with fail
    obtain ⟨g0, hg0⟩ := HD.out
    have HG : Hid (Dx f n g0 k 0 e0) := hg0
    clear hg0
    go_loopg [4] g0 (fun g t wr => ∃ j d : Nat, d ≤ j ∧ t = .int .i64 d ∧ Dx f n g j d e0 ∧ Jt B w0 wr bd b n f j)
    case atStart => exact ⟨k, 0, by omega, rfl, HG.out, HJ.out.drewN _⟩
    case round =>
      clear c0 c1 fz cc HJ HG
      obtain ⟨j, d, hdj, rfl, hg, hj⟩ := hrel
      have hbj := hg.bound
      have hlt : j < n := hbj.2.2
      have hi : (j : Int) < (n : Int) := by omega
      have c0 := hj.c0
      have c1 := hj.c1
      have fz := hj.fz
      have cc := hj.cell hlt
      have HJ : Hid (Jt B w0 wr bd b n f j) := hj
      clear hj
      match gk, hg with
      | 0, hg => exact hg.elim
      | g + 1, hg =>
        obtain ⟨_, ⟨h34, hd0, q, hs, hg2⟩ | ⟨ho, hg2⟩ | ⟨hc, ⟨hd1, he⟩ | ⟨hd2, hg2⟩⟩ | ⟨n1, n2, n3, n4, n5, hd0, hg2⟩⟩ := hg
        · have u34 : (f j == 34) = true := by simpa using h34
          have hq : q ≤ n ∧ j < q := by obtain ⟨g, hg⟩ := hs; have := hg.bound; omega
          have HS : Hid (SxE f n (j + 1) q) := hs
          have HG : Hid (Dx f n g q d e0) := hg2
          clear hs hg2 h34
          go_wp2_with fail
          go_quiet (fail)
          go_wp2_with fail
          refine (stringEnd_any B w0 bd b n f j j q hn _ (HJ.out.drewN _) HS.out).mono ?_
          rintro e w2 ⟨rfl, rfl⟩
          go_wp2_with fail
          go_roundg g
          case measure => omega
          case rel => exact ⟨q, d, by omega, rfl, HG.out, (HJ.out.drewN _).set q⟩
        · have u34 : (f j == 34) = false := by rcases ho with e | e <;> rw [e] <;> decide
          have uo : (f j == 123) = true ∨ ((f j == 123) = false ∧ (f j == 91) = true) := by
            rcases ho with e | e
            · exact .inl (by simpa using e)
            · exact .inr ⟨by rw [e]; decide, by simpa using e⟩
          have HG : Hid (Dx f n g (j + 1) (d + 1) e0) := hg2
          have hz : ((d : Int) + 1 == 0) = false := by simp; omega
          clear hg2 ho
          rcases uo with u1 | ⟨u1, u2⟩
          all_goals
            go_wp2_with fail
            go_quiet (fail)
            go_wp2_with fail
            go_roundg g
            case measure => omega
            case rel => exact ⟨j + 1, d + 1, by omega, by go_num, HG.out, (HJ.out.drewN _).set (j + 1)⟩
        · have u34 : (f j == 34) = false := by rcases hc with e | e <;> rw [e] <;> decide
          have u1 : (f j == 123) = false := by rcases hc with e | e <;> rw [e] <;> decide
          have u2 : (f j == 91) = false := by rcases hc with e | e <;> rw [e] <;> decide
          have uc : (f j == 125) = true ∨ ((f j == 125) = false ∧ (f j == 93) = true) := by
            rcases hc with e | e
            · exact .inl (by simpa using e)
            · exact .inr ⟨by rw [e]; decide, by simpa using e⟩
          subst hd1
          obtain rfl := he
          clear hc
          rcases uc with u3 | ⟨u3, u4⟩
          all_goals
            go_wp2_with fail
            go_quiet (fail)
            go_wp2_with fail
            have hke2 : (k : Int) ≤ (j : Int) + 1 := by omega
            have hen2 : (j : Int) + 1 ≤ (n : Int) := by omega
            go_quiet (fail)
            go_wp2_with fail
            go_ret
            refine ⟨rfl, ?_⟩
            exact ((HJ.out.drewN _).set (j + 1)).drewN _
        · have u34 : (f j == 34) = false := by rcases hc with e | e <;> rw [e] <;> decide
          have u1 : (f j == 123) = false := by rcases hc with e | e <;> rw [e] <;> decide
          have u2 : (f j == 91) = false := by rcases hc with e | e <;> rw [e] <;> decide
          have uc : (f j == 125) = true ∨ ((f j == 125) = false ∧ (f j == 93) = true) := by
            rcases hc with e | e
            · exact .inl (by simpa using e)
            · exact .inr ⟨by rw [e]; decide, by simpa using e⟩
          have HG : Hid (Dx f n g (j + 1) (d - 1) e0) := hg2
          have hz : ((d : Int) - 1 == 0) = false := by simp; omega
          clear hc hg2
          rcases uc with u3 | ⟨u3, u4⟩
          all_goals
            go_wp2_with fail
            go_quiet (fail)
            go_wp2_with fail
            go_roundg g
            case measure => omega
            case rel => exact ⟨j + 1, d - 1, by omega, by go_num, HG.out, (HJ.out.drewN _).set (j + 1)⟩
        · have u34 : (f j == 34) = false := by simpa using n1
          have u1 : (f j == 123) = false := by simpa using n2
          have u2 : (f j == 91) = false := by simpa using n3
          have u3 : (f j == 125) = false := by simpa using n4
          have u4 : (f j == 93) = false := by simpa using n5
          have HG : Hid (Dx f n g (j + 1) d e0) := hg2
          have hz : ((d : Int) == 0) = false := by simpa using hd0
          clear hg2 n1 n2 n3 n4 n5
          go_wp2_with fail
          go_quiet (fail)
          go_wp2_with fail
          go_roundg g
          case measure => omega
          case rel => exact ⟨j + 1, d, by omega, by go_num, HG.out, (HJ.out.drewN _).set (j + 1)⟩

end Go.Proofs.Qxb6601664a
