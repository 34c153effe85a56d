import Derived.Test.Qxb6601745aDec
namespace Go.Proofs.Qxb6601745a
open Go.RowKit
set_option linter.unusedVariables false

theorem make20 (w : World) : (Instr.makeSlice 22 (.int .i64 20) (.int .i64 20)).run Try.prog w = .ok (.slice (some ⟨w.heap.size, 0, none⟩) 20 20) (w.alloc (.cells (madeCells #[.int .u8 0] 20) 5)) :=
  run_make_row' (P := Try.prog) 22 5 (.int .u8 0) 1 Try.underlying22 Try.info5 rfl .i64 .i64 20 (by omega) (by omega) w

theorem Dr.le {i u : Nat} {h : Nat → Int} {N : Nat} (d : Dr i u h N) : u ≤ N := by
  have := d.sum
  have hp : 0 < 10 ^ (20 - i) := Nat.pow_pos (by omega)
  have := Nat.le_mul_of_pos_right u hp
  omega

theorem row_set {w : World} {B : Nat} {h : Nat → Int} (hr : w.rowIs B 5 20 (fun j => .int .u8 (h j))) (i : Nat) (x : Int) :
    (w.setCell ⟨B, i, none⟩ (.int .u8 x)).rowIs B 5 20 (fun j => .int .u8 (if j = i then x else h j)) :=
  (hr.set i (.int .u8 x)).congr (fun j hj => by by_cases e : j = i <;> simp [e])

set_option maxHeartbeats 1000000 in
theorem dec_pos (N : Nat) (h0 : 0 < N) (hN : N ≤ 9223372036854775807) (w : World) :
    Calls Try.prog 9 #[.int .i64 (N : Int)] w fun e w' => DPost w.heap.size (N : Int) w' e ∧ Below w.heap.size w w' := by
  have hmk := make20
  have hz : ((N : Int) == 0) = false := by simp; omega
  have hneg : decide ((N : Int) < 0) = false := by simp
  go_enter Try.func9, Try.ntmps9
  go_wp2_with fail
  go_loopw [4, 6] (fun a c wr => ∃ (i u : Nat) (h : Nat → Int), a = .int .i64 i ∧ c = .int .u64 u ∧ Dr i u h N ∧ wr.rowIs w.heap.size 5 20 (fun j => .int .u8 (h j)) ∧ Below w.heap.size w wr) (fun _ c _ => (intOf c).toNat)
  case atStart =>
    refine ⟨20, N, fun _ => 0, rfl, rfl, Dr.start N (by omega) (by omega) _, ?_, ?_⟩
    · exact World.rowIs_made w (.int .u8 0) 20 5
    · exact (Below.refl _ _).alloc (Nat.le_refl _) _
  case round =>
    clear hmk
    obtain ⟨i, u, h, rfl, rfl, hd, hr, hb⟩ := hrel
    have i1 := hd.lo
    have i2 := hd.hi
    have ub : u ≤ 9223372036854775808 := by have := hd.le; omega
    have HD : Hid (Dr i u h N) := hd
    have HR : Hid (wr.rowIs w.heap.size 5 20 (fun j => .int .u8 (h j))) := hr
    by_cases hu : 0 < u
    · have i3 := hd.two hu
      have ci := hr.cell (i := i - 1) (by omega)
      have fi := hr.frozen (i - 1)
      clear hd hr
      go_wp2_with fail
      go_roundw
      case rel =>
        exact ⟨i - 1, u / 10, _, by go_num, by go_num, HD.out.step hu, row_set HR.out (i - 1) _, hb.setCell (by simp) _⟩
      case measure => simp [intOf]; omega
    · obtain rfl : u = 0 := by omega
      have i4 := hd.some1 rfl
      have ci := hr.cell (i := i - 1) (by omega)
      have fi := hr.frozen (i - 1)
      clear hd hr
      have h20 : ¬ 20 = i := by omega
      have h20' : ¬ 20 = i - 1 := by omega
      go_wp2_with fail
      go_ret
      exact ⟨dpost_pos HD.out HR.out hN, hb⟩

set_option maxHeartbeats 1000000 in
theorem dec_neg (N : Nat) (h0 : 0 < N) (hN : N ≤ 9223372036854775808) (w : World) :
    Calls Try.prog 9 #[.int .i64 (-(N : Int))] w fun e w' => DPost w.heap.size (-(N : Int)) w' e ∧ Below w.heap.size w w' := by
  have hmk := make20
  have hneg : decide (-(N : Int) < 0) = true := by simp; omega
  go_enter Try.func9, Try.ntmps9
  go_wp2_with fail
  go_loopw [4, 6] (fun a c wr => ∃ (i u : Nat) (h : Nat → Int), a = .int .i64 i ∧ c = .int .u64 u ∧ Dr i u h N ∧ wr.rowIs w.heap.size 5 20 (fun j => .int .u8 (h j)) ∧ Below w.heap.size w wr) (fun _ c _ => (intOf c).toNat)
  case atStart =>
    refine ⟨20, N, fun _ => 0, rfl, by go_num, Dr.start N (by omega) (by omega) _, ?_, ?_⟩
    · exact World.rowIs_made w (.int .u8 0) 20 5
    · exact (Below.refl _ _).alloc (Nat.le_refl _) _
  case round =>
    clear hmk
    obtain ⟨i, u, h, rfl, rfl, hd, hr, hb⟩ := hrel
    have i1 := hd.lo
    have i2 := hd.hi
    have ub : u ≤ 9223372036854775808 := by have := hd.le; omega
    have HD : Hid (Dr i u h N) := hd
    have HR : Hid (wr.rowIs w.heap.size 5 20 (fun j => .int .u8 (h j))) := hr
    by_cases hu : 0 < u
    · have i3 := hd.two hu
      have ci := hr.cell (i := i - 1) (by omega)
      have fi := hr.frozen (i - 1)
      clear hd hr
      go_wp2_with fail
      go_roundw
      case rel =>
        exact ⟨i - 1, u / 10, _, by go_num, by go_num, HD.out.step hu, row_set HR.out (i - 1) _, hb.setCell (by simp) _⟩
      case measure => simp [intOf]; omega
    · obtain rfl : u = 0 := by omega
      have i4 := hd.some1 rfl
      have ci := hr.cell (i := i - 1) (by omega)
      have fi := hr.frozen (i - 1)
      clear hd hr
      have h20 : ¬ 20 = i := by omega
      have h20' : ¬ 20 = i - 1 := by omega
      go_wp2_with fail
      go_ret
      exact ⟨dpost_neg HD.out (row_set HR.out (i - 1) 45) hN _ rfl, hb.setCell (by simp) _⟩

theorem made_row (w : World) : (w.alloc (.cells ((madeCells #[.int .u8 0] 20).setIfInBounds 19 (.int .u8 48)) 5)).rowIs w.heap.size 5 20 (fun j => .int .u8 (if j = 19 then 48 else 0)) := by
  have h := row_set (World.rowIs_made w (.int .u8 0) 20 5) (h := fun _ => 0) 19 48
  rw [World.setCell_alloc_at _ _ _ _ _ rfl] at h
  exact h

set_option maxHeartbeats 400000 in
theorem dec_zero (w : World) :
    Calls Try.prog 9 #[.int .i64 0] w fun e w' => DPost w.heap.size 0 w' e ∧ Below w.heap.size w w' := by
  have hmk := make20
  have h19 : (madeCells #[Value.int .u8 0] 20)[19]? = some (.int .u8 0) := by simp [madeCells]
  go_enter Try.func9, Try.ntmps9
  go_wp2_with fail
  refine wp_loop_rounds 1 ?_
  rw [rounds_succ]
  go_wp2_with fail
  go_ret
  exact ⟨dpost_pos (N := 0) (Dr.zero (fun j => if j = 19 then 48 else 0) rfl) (made_row w) (Nat.zero_le _), (Below.refl _ _).alloc (Nat.le_refl _) _⟩

theorem dec_any (x : Int) (h1 : -9223372036854775808 ≤ x) (h2 : x ≤ 9223372036854775807) (w : World) :
    Calls Try.prog 9 #[.int .i64 x] w fun e w' => DPost w.heap.size x w' e ∧ Below w.heap.size w w' := by
  rcases Int.lt_trichotomy x 0 with h | h | h
  · obtain ⟨N, rfl⟩ : ∃ N : Nat, x = -(N : Int) := ⟨(-x).toNat, by omega⟩
    exact dec_neg N (by omega) (by omega) w
  · subst h; exact dec_zero w
  · obtain ⟨N, rfl⟩ : ∃ N : Nat, x = (N : Int) := ⟨x.toNat, by omega⟩
    exact dec_pos N (by omega) (by omega) w

theorem zzparse_any (a : Option Addr) (n c : Nat) (f : Nat → Int) (w : World) (hn : n ≤ 1048576) (hnc : n ≤ c) (hl : Lies w a n f) :
    Calls Try.prog 7 #[.slice a n c] w fun e w' => ParsePost f n e ∧ Below w.heap.size w w' := by
  go_enter Try.func7, Try.ntmps7
  go_wp2_with fail
  refine (parse_any a n c f _ hn hnc hl).mono ?_
  rintro e w1 ⟨⟨s, neg, hc, hp⟩, hb⟩
  have HC : Hid (Cuts f n s neg) := hc
  rcases hp with ⟨h1, h2, rfl⟩ | ⟨h1, rfl⟩
  · have H1 : Hid (Digs f s n ∧ val f s (n - s) ≤ lim neg) := ⟨h1, h2⟩
    clear h1 h2 hc hl
    obtain ⟨y, hy⟩ : ∃ y, y = (if neg then -((val f s (n - s) : Nat) : Int) else ((val f s (n - s) : Nat) : Int)) := ⟨_, rfl⟩
    have HY : Hid (y = (if neg then -((val f s (n - s) : Nat) : Int) else ((val f s (n - s) : Nat) : Int))) := hy
    rw [← hy]
    clear hy
    go_wp2_with fail
    go_ret2
    refine ⟨⟨s, neg, HC.out, .inl ⟨H1.out.1, H1.out.2, ?_⟩⟩, hb⟩
    rw [← HY.out]
    rfl
  · have H1 : Hid (¬ (Digs f s n ∧ val f s (n - s) ≤ lim neg)) := h1
    clear h1 hc hl
    go_wp2_with fail
    go_ret2
    exact ⟨⟨s, neg, HC.out, .inr ⟨H1.out, rfl⟩⟩, hb⟩

set_option maxHeartbeats 400000 in
theorem inverts_any (x : Int) (h1 : -9223372036854775808 ≤ x) (h2 : x ≤ 9223372036854775807) (w : World) :
    Calls Try.prog 4 #[.int .i64 x] w fun e w' => e = .returned (.bool true) ∧ Below w.heap.size w w' := by
  go_enter Try.func4, Try.ntmps4
  go_wp2_with fail
  refine (dec_any x h1 h2 _).mono ?_
  rintro e w1 ⟨⟨i, f, s, neg, hi, rfl, hl, hc, hd, hv, hx⟩, hb⟩
  have HC : Hid (Cuts f (20 - i) s neg) := hc
  have HD : Hid (Digs f s (20 - i)) := hd
  have HV : Hid (val f s (20 - i - s) ≤ lim neg) := hv
  have HX : Hid ((if neg then -((val f s (20 - i - s) : Nat) : Int) else ((val f s (20 - i - s) : Nat) : Int)) = x) := hx
  have HL : Hid (Lies w1 (some ⟨w.heap.size, i, none⟩) (20 - i) f) := hl
  clear hc hd hv hx hl
  go_wp2_with fail
  refine (zzparse_any _ (20 - i) _ f _ (by omega) (by omega) HL.out).mono ?_
  rintro e w2 ⟨⟨s', neg', hc', hp⟩, hb2⟩
  obtain ⟨rfl, rfl⟩ := Cuts.same HC.out hc'
  rcases hp with ⟨_, _, rfl⟩ | ⟨hno, rfl⟩
  · rw [HX.out]
    clear hc'
    go_wp2_with fail
    go_ret
    refine ⟨?_, hb.trans (hb2.mono hb.size)⟩
    simp
  · exact absurd ⟨HD.out, HV.out⟩ hno

end Go.Proofs.Qxb6601745a
