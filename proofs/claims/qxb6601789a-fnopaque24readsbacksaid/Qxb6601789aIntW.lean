import Derived.Test.Qxb6601789aInt
namespace Go.Proofs.Qxb6601789a
open Go.RowKit
set_option linter.unusedVariables false

def RestOf (v : Value) (m n : Nat) (rest : Value) : Prop := ∀ (w : World) (g : Nat → Int), Cur .u8 w v m g → Cur .u8 w rest (m - n) (fun i => g (n + i))

set_option maxHeartbeats 400000 in
theorem integer_ok (bd : Nat) (v : Value) (m n : Nat) (g : Nat → Int) (w0 w : World) (hm : m ≤ 2097152) (hn : n ≤ m) (hg : ∀ i, 0 ≤ g i ∧ g i ≤ 255) (hbd : w0.heap.size ≤ bd) (hb0 : Below bd w0 w) (hv : Cur .u8 w0 v m g) (h : Rd w bd v false) :
    Calls Try.prog 20 #[.pointer (some ⟨bd, 0, none⟩), .int .i64 n] w fun e w' => e = .returned (.int .u64 (be g n)) ∧ ∃ rest, RestOf v m n rest ∧ Rd w' bd rest false ∧ Below bd w w' := by
  have HG : Hid (∀ i, 0 ≤ g i ∧ g i ≤ 255) := hg
  have HB0 : Hid (Below bd w0 w) := hb0
  have HV : Hid (Cur .u8 w0 v m g) := hv
  have HH : Hid (Rd w bd v false) := h
  clear hg hb0 hv h
  go_enter Try.func20, Try.ntmps20
  go_wp2_with fail
  refine (take_ok bd v m n g _ hn (HV.out.below HB0.out hbd) HH.out).mono ?_
  rintro e w1 ⟨got, rest, rfl, hsub, hrd, hb⟩
  have hs := hsub _ _ (HV.out.below (HB0.out.trans hb) hbd)
  obtain ⟨A1, c1, rfl⟩ := hs.1.shape
  have H1 : Hid (Cur .u8 w1 (.slice A1 n c1) n g) := hs.1
  have HEND : Hid (∃ rest, RestOf v m n rest ∧ Rd w1 bd rest false ∧ Below bd w w1) := ⟨rest, fun w2 g2 h2 => (hsub w2 g2 h2).2, hrd, hb⟩
  clear hsub hs hrd hb HH HV HB0
  go_wp2_with fail
  go_loop [5, 12] (fun v t => ∃ k u : Nat, k ≤ n ∧ t = .int .i64 k ∧ v = .int .u64 u ∧ u < 18446744073709551616 ∧ u = be g k) (fun _ t => n - (intOf t).toNat)
  case atStart => exact ⟨0, 0, by omega, rfl, rfl, by omega, rfl⟩
  case round =>
    obtain ⟨k, u, hk, rfl, rfl, hu, hbe⟩ := hrel
    have HBE : Hid (u = be g k) := hbe
    clear hbe
    by_cases hlt : k < n
    · obtain ⟨b1, o1, rfl, hc1⟩ := H1.out.spot (by omega)
      have e1 := hc1 k hlt
      have eg := HG.out k
      clear hc1
      go_wp2_with fail
      go_round
      case rel =>
        refine ⟨k + 1, u * 256 % 18446744073709551616 + (g k).toNat, by omega, by go_num, ?_, by omega, ?_⟩
        · rw [or256 u (g k) eg.1 eg.2]
        · show _ = be g k * 256 % 18446744073709551616 + (g k).toNat
          rw [HBE.out]
      case measure => simp [intOf]; omega
    · have ek : k = n := by omega
      have HK : Hid (k = n) := ek
      clear ek
      go_wp2_with fail
      go_ret
      refine ⟨?_, HEND.out⟩
      rw [← HK.out, ← HBE.out]
      rfl

set_option maxHeartbeats 400000 in
theorem integer_no (bd : Nat) (v : Value) (m : Nat) (n : Int) (fl : Bool) (g : Nat → Int) (w : World) (hn : fl = true ∨ (m : Int) < n) (hv : Cur .u8 w v m g) (h : Rd w bd v fl) :
    Calls Try.prog 20 #[.pointer (some ⟨bd, 0, none⟩), .int .i64 n] w fun e w' => e = .returned (.int .u64 0) ∧ Rd w' bd v true ∧ Below bd w w' := by
  have HN : Hid (fl = true ∨ (m : Int) < n) := hn
  have HV : Hid (Cur .u8 w v m g) := hv
  have HH : Hid (Rd w bd v fl) := h
  clear hn hv h
  go_enter Try.func20, Try.ntmps20
  go_wp2_with fail
  refine (take_no bd v m n fl g _ HN.out HV.out HH.out).mono ?_
  rintro e w1 ⟨rfl, hrd, hb⟩
  have HR : Hid (Rd w1 bd v true) := hrd
  clear hrd HH HV HN
  go_wp2_with fail
  refine wp_loop_rounds 1 ?_
  rw [rounds_succ]
  go_wp2_with fail
  go_ret
  exact ⟨rfl, HR.out, hb⟩

def IntPost (w : World) (m n : Nat) (g : Nat → Int) (e : Ending) : Prop :=
  ∃ A c, e = .returned (.tuple #[.int .u64 (be g n), .slice A (m - n) c, .bool false]) ∧ Cur .u8 w (.slice A (m - n) c) (m - n) (fun i => g (n + i))

set_option maxHeartbeats 400000 in
theorem zzint_ok (A : Option Addr) (m cc n : Nat) (g : Nat → Int) (w : World) (hm : m ≤ 2097152) (hn : n ≤ m) (hg : ∀ i, 0 ≤ g i ∧ g i ≤ 255) (hv : Cur .u8 w (.slice A m cc) m g) :
    Calls Try.prog 13 #[.slice A m cc, .bool false, .int .i64 n] w fun e w' => IntPost w' m n g e ∧ Below w.heap.size w w' := by
  have HG : Hid (∀ i, 0 ≤ g i ∧ g i ≤ 255) := hg
  have HV : Hid (Cur .u8 w (.slice A m cc) m g) := hv
  have HB0 : Hid (Below w.heap.size w (w.alloc (.cells #[.slice A m cc, .bool false] 39))) := (Below.refl _ _).alloc (Nat.le_refl _) _
  clear hv hg
  go_enter Try.func13, Try.ntmps13
  go_wp2_with fail
  refine (integer_ok w.heap.size _ m n g w _ hm hn HG.out (Nat.le_refl _) HB0.out HV.out (rd_new w _ _)).mono ?_
  rintro e w1 ⟨rfl, rest, hrest, hrd, hb⟩
  have hb1 := HB0.out.trans hb
  have hs := hrest _ _ (HV.out.below hb1 (Nat.le_refl _))
  obtain ⟨A2, c2, rfl⟩ := hs.shape
  have r0 := hrd.c0
  have r1 := hrd.c1
  have HS : Hid (Cur .u8 w1 (.slice A2 (m - n) c2) (m - n) (fun i => g (n + i))) := hs
  have HB1 : Hid (Below w.heap.size w w1) := hb1
  obtain ⟨x, hx⟩ : ∃ x : Nat, x = be g n := ⟨_, rfl⟩
  have HX : Hid (x = be g n) := hx
  rw [← hx]
  clear hs hrest hrd hb hb1 HB0 HV hx
  go_wp2_with fail
  go_quiet (fail)
  go_wp2_with fail
  go_ret3
  refine ⟨⟨A2, c2, ?_, HS.out.drewN _⟩, below_drewN HB1.out _⟩
  rw [← HX.out]
  rfl

set_option maxHeartbeats 400000 in
theorem zzint_no (A : Option Addr) (m cc : Nat) (n : Int) (fl : Bool) (g : Nat → Int) (w : World) (hn : fl = true ∨ (m : Int) < n) (hv : Cur .u8 w (.slice A m cc) m g) :
    Calls Try.prog 13 #[.slice A m cc, .bool fl, .int .i64 n] w fun e w' => e = .returned (.tuple #[.int .u64 0, .slice A m cc, .bool true]) ∧ Below w.heap.size w w' := by
  have HV : Hid (Cur .u8 w (.slice A m cc) m g) := hv
  have hb0 : Below w.heap.size w (w.alloc (.cells #[.slice A m cc, .bool fl] 39)) := (Below.refl _ _).alloc (Nat.le_refl _) _
  have hv0 := HV.out.below hb0 (Nat.le_refl _)
  have HB0 : Hid (Below w.heap.size w (w.alloc (.cells #[.slice A m cc, .bool fl] 39))) := hb0
  have HV0 : Hid (Cur .u8 (w.alloc (.cells #[.slice A m cc, .bool fl] 39)) (.slice A m cc) m g) := hv0
  have HN : Hid (fl = true ∨ (m : Int) < n) := hn
  clear hv hb0 hv0 hn
  go_enter Try.func13, Try.ntmps13
  go_wp2_with fail
  refine (integer_no w.heap.size _ m n fl g _ HN.out HV0.out (rd_new w _ _)).mono ?_
  rintro e w1 ⟨rfl, hrd, hb⟩
  have r0 := hrd.c0
  have r1 := hrd.c1
  have HB1 : Hid (Below w.heap.size w w1) := HB0.out.trans hb
  clear hrd hb HB0 HV0
  go_wp2_with fail
  go_quiet (fail)
  go_wp2_with fail
  go_ret3
  exact ⟨rfl, below_drewN HB1.out _⟩

end Go.Proofs.Qxb6601789a
