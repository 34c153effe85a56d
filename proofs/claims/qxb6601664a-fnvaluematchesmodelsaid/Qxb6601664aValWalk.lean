import Derived.Test.Qxb6601664aValue3
import Derived.Test.Qxb6601664aMoreWalk
namespace Go.Proofs.Qxb6601664a
open Go.RowKit
set_option linter.unusedVariables false

theorem value_any (B : Nat) (w0 : World) (bd b n : Nat) (f : Nat → Int) (p k e0 : Nat) (hn : n ≤ 1048576) (hp : p ≤ n) (hF : First f n p k) (hV : Vx f n k e0) (w : World) (h : Jt B w0 w bd b n f p) :
    Calls Try.prog 31 #[.pointer (some ⟨bd, 0, none⟩)] w fun e w' => e = .returned (.slice (some ⟨b, k, none⟩) (e0 - k) (n - k)) ∧ Jt B w0 w' bd b n f e0 := by
  rcases hV with ⟨h34, hs⟩ | ⟨ho, hd⟩ | ⟨n1, n2, n3, h1, h2, h3, h4⟩
  · exact value_str B w0 bd b n f p k e0 hn hp hF h34 hs w h
  · refine value_con B w0 bd b n f p k e0 hn hp hF ?_ ?_ hd w h
    · rcases ho with e | e <;> rw [e] <;> decide
    · rcases ho with e | e
      · exact .inl (by simpa using e)
      · exact .inr ⟨by rw [e]; decide, by simpa using e⟩
  · exact value_lit B w0 bd b n f p k e0 hn hp hF (by simpa using n1) (by simpa using n2) (by simpa using n3) h1 h2 h3 h4 w h

set_option maxHeartbeats 400000 in
theorem jsonValue_any (B : Nat) (w0 : World) (b n : Nat) (f : Nat → Int) (p k e0 : Nat) (hn : n ≤ 1048576) (hp : p ≤ n) (hF : First f n p k) (hV : Vx f n k e0) (w : World) (hb : Below B w0 w) (hB : B ≤ w.heap.size)
    (hr : w.rowIs b 5 n (fun i => .int .u8 (f i))) :
    Calls Try.prog 23 #[.slice (some ⟨b, 0, none⟩) n n, .int .i64 p] w fun e w' => e = .returned (.tuple #[.slice (some ⟨b, k, none⟩) (e0 - k) (n - k), .int .i64 e0]) ∧ Below B w0 w' ∧ w'.rowIs b 5 n (fun i => .int .u8 (f i)) := by
  go_enter Try.func23, Try.ntmps23
  go_wp2_with fail
  refine (value_any B w0 w.heap.size b n f p k e0 hn hp hF hV _ (jt_new hb hB hr)).mono ?_
  rintro e w1 ⟨rfl, hj⟩
  have c1 := hj.c1
  have HJ : Hid (Jt B w0 w1 w.heap.size b n f e0) := hj
  clear hj hF hV hb hr
  go_wp2_with fail
  go_quiet (fail)
  go_wp2_with fail
  go_ret2
  exact ⟨rfl, (HJ.out.drewN _).bel, HJ.out.row⟩

set_option maxHeartbeats 400000 in
theorem equal_same (b k m c1 c2 : Nat) (f : Nat → Int) (hm : m ≤ 1048576) (w : World) (hc : ∀ i, i < m → w.cell? ⟨b, k + i, none⟩ = some (.int .u8 (f i))) :
    Calls Try.prog 24 #[.slice (some ⟨b, k, none⟩) m c1, .slice (some ⟨b, k, none⟩) m c2] w fun e w' => e = .returned (.bool true) ∧ ∃ nd, w' = w.drewN nd := by
  go_enter Try.func24, Try.ntmps24
  go_wp2_with fail
  go_loopw [5] (fun t wr => ∃ j nd : Nat, j ≤ m ∧ t = .int .i64 j ∧ wr = w.drewN nd) (fun t _ => m - (intOf t).toNat)
  case atStart => exact ⟨0, 0, by omega, rfl, rfl⟩
  case round =>
    obtain ⟨j, nd, hj, rfl, rfl⟩ := hrel
    by_cases hlt : j < m
    · have cc := hc j hlt
      have hi : (j : Int) < (m : Int) := by omega
      clear hc
      go_wp2_with fail
      go_quiet (fail)
      go_wp2_with fail
      go_roundw
      case rel => exact ⟨j + 1, _, by omega, by go_num, rfl⟩
      case measure => simp [intOf]; omega
    · clear hc
      go_wp2_with fail
      go_ret
      exact ⟨rfl, _, rfl⟩

theorem bytes21 (a : Option Addr) (n c : Nat) (p : Int) (w : World) (h : n ≤ 1048576) :
    Calls Try.prog 21 #[.slice a n c, .int .i64 p] w fun e w' => e = .returned (.bool true) ∧ w' = w := by
  go_enter Try.func21, Try.ntmps21
  go_wp2
  go_ret
  exact ⟨rfl, rfl⟩

theorem bytes21_no (a : Option Addr) (n c : Nat) (p : Int) (w : World) (h : 1048576 < n) :
    Calls Try.prog 21 #[.slice a n c, .int .i64 p] w fun e w' => e = .returned (.bool false) ∧ w' = w := by
  go_enter Try.func21, Try.ntmps21
  go_wp2
  go_ret
  exact ⟨rfl, rfl⟩

theorem model_nil (w : World) : Calls Try.prog 22 #[.slice none 0 0, .int .i64 0] w fun e w' => e = .returned (.tuple #[.int .i64 0, .int .i64 0, .bool false]) ∧ w' = w := by
  go_enter Try.func22, Try.ntmps22
  go_wp2
  refine wp_loop_rounds 1 ?_
  rw [rounds_succ]
  go_wp2
  go_ret3
  exact ⟨rfl, rfl⟩

set_option maxHeartbeats 1000000 in
theorem value_main (x : Addr) (n cap : Nat) (f : Nat → Int) (p : Nat) (w : World) (hn : n ≤ 1048576) (hp : p ≤ n) (hc : ∀ i, i < n → w.cell? (x.add i) = some (.int .u8 (f i))) :
    Calls Try.prog 7 #[.slice (some x) n cap, .int .i64 p] w fun e w' => e = .returned (.bool true) ∧ Below w.heap.size w w' := by
  go_enter Try.func7, Try.ntmps7
  go_wp2_with fail
  refine (bytes21 _ _ _ _ _ hn).mono ?_
  rintro e w' ⟨rfl, rfl⟩
  go_wp2_with fail
  refine (clone_any x n cap f _ hn hc).mono ?_
  rintro e w1 ⟨rfl, hb1, hs1, hr1⟩
  clear hc
  go_wp2_with fail
  refine (model_any w'.heap.size n f p hn hp _ hr1).mono ?_
  rintro e w2 ⟨⟨x, y, rfl⟩ | ⟨k, q, rfl, hF, hV⟩, rfl⟩
  · go_wp2_with fail
    go_ret
    exact ⟨rfl, hb1⟩
  · have hbd := hV.bound
    have hkn : k < n := hF.2.1
    have HF : Hid (First f n p k) := hF
    have HV : Hid (Vx f n k q) := hV
    clear hF hV
    go_wp2_with fail
    refine (jsonValue_any w'.heap.size w' w'.heap.size n f p k q hn hp HF.out HV.out _ hb1 (by omega) hr1).mono ?_
    rintro e w3 ⟨rfl, hb3, hr3⟩
    have hke : (k : Int) ≤ (q : Int) := by omega
    have hen : (q : Int) ≤ (n : Int) := by omega
    have hne : ¬ n = k := by omega
    have HR : Hid (w3.rowIs w'.heap.size 5 n (fun i => .int .u8 (f i))) := hr3
    clear hr1 hr3 hb1 hs1
    go_wp2_with fail
    refine (equal_same _ k (q - k) _ _ (fun i => f (k + i)) (by omega) _ (fun i hi => HR.out.cell (i := k + i) (by omega))).mono ?_
    rintro e w4 ⟨rfl, nd, rfl⟩
    go_wp2_with fail
    go_ret
    exact ⟨rfl, hb3.os, hb3.tape, hb3.output, hb3.size, hb3.block⟩

end Go.Proofs.Qxb6601664a
