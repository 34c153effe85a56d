import Derived.Test.Qxb6601789aBase
namespace Go.Proofs.Qxb6601789a
open Go.RowKit
set_option linter.unusedVariables false

/-- THE READER IN MEMORY: block bd holds the slice value v and the flag. -/
def Rd (w : World) (bd : Nat) (v : Value) (fl : Bool) : Prop := w.heap[bd]? = some (.cells #[v, .bool fl] 39 (0, 0))

theorem Rd.c0 {w : World} {bd : Nat} {v : Value} {fl : Bool} (h : Rd w bd v fl) : w.cell? ⟨bd, 0, none⟩ = some v := by
  unfold Rd at h; simp [World.cell?, h]
theorem Rd.c1 {w : World} {bd : Nat} {v : Value} {fl : Bool} (h : Rd w bd v fl) : w.cell? ⟨bd, 1, none⟩ = some (.bool fl) := by
  unfold Rd at h; simp [World.cell?, h]
theorem Rd.fz {w : World} {bd : Nat} {v : Value} {fl : Bool} (h : Rd w bd v fl) (i : Nat) : w.frozen? ⟨bd, i, none⟩ = false := by
  unfold Rd at h; simp [World.frozen?, h]
theorem Rd.set0 {w : World} {bd : Nat} {v : Value} {fl : Bool} (h : Rd w bd v fl) (u : Value) : Rd (w.setCell ⟨bd, 0, none⟩ u) bd u fl := by
  unfold Rd at *; simp [World.setCell, Array.getElem?_modify, h]
theorem Rd.set1 {w : World} {bd : Nat} {v : Value} {fl : Bool} (h : Rd w bd v fl) (r : Bool) : Rd (w.setCell ⟨bd, 1, none⟩ (.bool r)) bd v r := by
  unfold Rd at *; simp [World.setCell, Array.getElem?_modify, h]
theorem Rd.drewN {w : World} {bd : Nat} {v : Value} {fl : Bool} (h : Rd w bd v fl) (n : Nat) : Rd (w.drewN n) bd v fl := h
theorem rd_new (w : World) (v : Value) (fl : Bool) : Rd (w.alloc (.cells #[v, .bool fl] 39)) w.heap.size v fl := Go.Deep.blk_alloc_new _ _

theorem below_set (w : World) (bd i : Nat) (u : Value) : Below bd w (w.setCell ⟨bd, i, none⟩ u) := (Below.refl bd w).setCell (p := ⟨bd, i, none⟩) (Nat.le_refl bd) u

set_option maxHeartbeats 400000 in
theorem take_failed (bd : Nat) (A : Option Addr) (m cc : Nat) (n : Int) (w : World) (h : Rd w bd (.slice A m cc) true) :
    Calls Try.prog 19 #[.pointer (some ⟨bd, 0, none⟩), .int .i64 n] w fun e w' => e = .returned (.slice none 0 0) ∧ Rd w' bd (.slice A m cc) true ∧ Below bd w w' := by
  have c0 := h.c0
  have c1 := h.c1
  have f1 := h.fz 1
  have HH : Hid (Rd w bd (.slice A m cc) true) := h
  clear h
  go_enter Try.func19, Try.ntmps19
  go_wp2_with fail
  go_ret
  exact ⟨rfl, HH.out.set1 true, below_set _ _ _ _⟩

set_option maxHeartbeats 400000 in
theorem take_short (bd : Nat) (A : Option Addr) (m cc : Nat) (n : Int) (w : World) (hn : (m : Int) < n) (h : Rd w bd (.slice A m cc) false) :
    Calls Try.prog 19 #[.pointer (some ⟨bd, 0, none⟩), .int .i64 n] w fun e w' => e = .returned (.slice none 0 0) ∧ Rd w' bd (.slice A m cc) true ∧ Below bd w w' := by
  have c0 := h.c0
  have c1 := h.c1
  have f1 := h.fz 1
  have HH : Hid (Rd w bd (.slice A m cc) false) := h
  clear h
  go_enter Try.func19, Try.ntmps19
  go_wp2_with fail
  go_ret
  exact ⟨rfl, HH.out.set1 true, below_set _ _ _ _⟩

set_option maxHeartbeats 400000 in
theorem take_nil (bd : Nat) (w : World) (h : Rd w bd (.slice none 0 0) false) :
    Calls Try.prog 19 #[.pointer (some ⟨bd, 0, none⟩), .int .i64 0] w fun e w' => e = .returned (.slice none 0 0) ∧ Rd w' bd (.slice none 0 0) false ∧ Below bd w w' := by
  have c0 := h.c0
  have c1 := h.c1
  have f0 := h.fz 0
  have HH : Hid (Rd w bd (.slice none 0 0) false) := h
  clear h
  go_enter Try.func19, Try.ntmps19
  go_wp2_with fail
  go_ret
  exact ⟨rfl, HH.out.set0 _, below_set _ _ _ _⟩

set_option maxHeartbeats 400000 in
theorem take_some (bd b o m cc n : Nat) (w : World) (hm : m ≤ cc) (hn : n ≤ m) (h : Rd w bd (.slice (some ⟨b, o, none⟩) m cc) false) :
    Calls Try.prog 19 #[.pointer (some ⟨bd, 0, none⟩), .int .i64 n] w fun e w' => e = .returned (.slice (some ⟨b, o, none⟩) n n) ∧
      Rd w' bd (.slice (some (if cc = n then ⟨b, o, none⟩ else ⟨b, o + n, none⟩)) (m - n) (cc - n)) false ∧ Below bd w w' := by
  have c0 := h.c0
  have c1 := h.c1
  have f0 := h.fz 0
  have HH : Hid (Rd w bd (.slice (some ⟨b, o, none⟩) m cc) false) := h
  clear h
  by_cases hcn : cc = n
  · subst hcn
    by_cases h0 : cc = 0
    · subst h0
      go_enter Try.func19, Try.ntmps19
      go_wp2_with fail
      go_ret
      exact ⟨rfl, HH.out.set0 _, below_set _ _ _ _⟩
    · go_enter Try.func19, Try.ntmps19
      go_wp2_with fail
      go_ret
      exact ⟨rfl, HH.out.set0 _, below_set _ _ _ _⟩
  · by_cases h0 : n = 0
    · subst h0
      go_enter Try.func19, Try.ntmps19
      go_wp2_with fail
      go_ret
      exact ⟨rfl, HH.out.set0 _, below_set _ _ _ _⟩
    · go_enter Try.func19, Try.ntmps19
      go_wp2_with fail
      go_ret
      exact ⟨rfl, HH.out.set0 _, below_set _ _ _ _⟩

/-- got and rest are the first n elements of v, and what is behind them: in whatever world -/
def Sub (v : Value) (m n : Nat) (got rest : Value) : Prop := ∀ (w : World) (g : Nat → Int), Cur .u8 w v m g → Cur .u8 w got n g ∧ Cur .u8 w rest (m - n) (fun i => g (n + i))

/-- take, whatever the slice, where it fits -/
theorem take_ok (bd : Nat) (v : Value) (m n : Nat) (g : Nat → Int) (w : World) (hn : n ≤ m) (hv : Cur .u8 w v m g) (h : Rd w bd v false) :
    Calls Try.prog 19 #[.pointer (some ⟨bd, 0, none⟩), .int .i64 n] w fun e w' => ∃ got rest, e = .returned got ∧ Sub v m n got rest ∧ Rd w' bd rest false ∧ Below bd w w' := by
  obtain ⟨A, cc, rfl, hm, ⟨rfl, rfl⟩ | ⟨b, o, rfl, hc⟩⟩ := hv
  · obtain rfl : m = 0 := by omega
    obtain rfl : n = 0 := by omega
    refine (take_nil bd w h).mono ?_
    rintro e w' ⟨rfl, hr, hb⟩
    exact ⟨_, _, rfl, fun _ _ _ => ⟨Cur.nil _ _ _, Cur.nil _ _ _⟩, hr, hb⟩
  · refine (take_some bd b o m cc n w hm hn h).mono ?_
    rintro e w' ⟨rfl, hr, hb⟩
    refine ⟨_, _, rfl, fun w2 g2 h2 => ?_, hr, hb⟩
    obtain ⟨A', c', hv2, _, ⟨hA, _⟩ | ⟨b', o', hA, hc2⟩⟩ := h2
    · simp at hv2; rw [← hv2.1] at hA; simp at hA
    · simp at hv2
      rw [← hv2.1] at hA
      simp at hA
      obtain ⟨rfl, rfl⟩ := hA
      refine ⟨⟨_, n, rfl, Nat.le_refl _, .inr ⟨b, o, rfl, fun i hi => hc2 i (by omega)⟩⟩, ?_⟩
      by_cases e : cc = n
      · rw [if_pos e]
        exact ⟨_, _, rfl, by omega, .inr ⟨b, o, rfl, fun i hi => by omega⟩⟩
      · rw [if_neg e]
        refine ⟨_, _, rfl, by omega, .inr ⟨b, o + n, rfl, fun i hi => ?_⟩⟩
        have := hc2 (n + i) (by omega)
        rw [show o + n + i = o + (n + i) by omega]
        exact this

/-- take, whatever the slice, where it has failed or does not fit -/
theorem take_no (bd : Nat) (v : Value) (m : Nat) (n : Int) (fl : Bool) (g : Nat → Int) (w : World) (hn : fl = true ∨ (m : Int) < n) (hv : Cur .u8 w v m g) (h : Rd w bd v fl) :
    Calls Try.prog 19 #[.pointer (some ⟨bd, 0, none⟩), .int .i64 n] w fun e w' => e = .returned (.slice none 0 0) ∧ Rd w' bd v true ∧ Below bd w w' := by
  obtain ⟨A, cc, rfl, hm, _⟩ := hv
  cases fl
  · exact take_short bd A m cc n w (by simpa using hn) h
  · exact take_failed bd A m cc n w h

def TakePost (w : World) (m : Nat) (g : Nat → Int) (n : Nat) (e : Ending) : Prop :=
  ∃ A1 A2 c1 c2, e = .returned (.tuple #[.slice A1 n c1, .slice A2 (m - n) c2, .bool false]) ∧ Cur .u8 w (.slice A1 n c1) n g ∧ Cur .u8 w (.slice A2 (m - n) c2) (m - n) (fun i => g (n + i))

theorem Cur.shape {k : IntKind} {w : World} {v : Value} {m : Nat} {g : Nat → Int} (h : Cur k w v m g) : ∃ A c, v = .slice A m c := by
  obtain ⟨A, c, e, _⟩ := h
  exact ⟨A, c, e⟩

set_option maxHeartbeats 400000 in
theorem zztake_ok (A : Option Addr) (m cc n : Nat) (g : Nat → Int) (w : World) (hn : n ≤ m) (hv : Cur .u8 w (.slice A m cc) m g) :
    Calls Try.prog 11 #[.slice A m cc, .bool false, .int .i64 n] w fun e w' => TakePost w' m g n e ∧ Below w.heap.size w w' := by
  have HV : Hid (Cur .u8 w (.slice A m cc) m g) := hv
  have hb0 : Below w.heap.size w (w.alloc (.cells #[.slice A m cc, .bool false] 39)) := (Below.refl _ _).alloc (Nat.le_refl _) _
  have hv0 := HV.out.below hb0 (Nat.le_refl _)
  have HB0 : Hid (Below w.heap.size w (w.alloc (.cells #[.slice A m cc, .bool false] 39))) := hb0
  have HV0 : Hid (Cur .u8 (w.alloc (.cells #[.slice A m cc, .bool false] 39)) (.slice A m cc) m g) := hv0
  clear hv hb0 hv0
  go_enter Try.func11, Try.ntmps11
  go_wp2_with fail
  refine (take_ok w.heap.size _ m n g _ hn HV0.out (rd_new w _ _)).mono ?_
  rintro e w1 ⟨got, rest, rfl, hsub, hrd, hb⟩
  have hb1 := HB0.out.trans hb
  have hs := hsub _ _ (HV.out.below hb1 (Nat.le_refl _))
  obtain ⟨A1, c1, rfl⟩ := hs.1.shape
  obtain ⟨A2, c2, rfl⟩ := hs.2.shape
  have r0 := hrd.c0
  have r1 := hrd.c1
  have HS : Hid (Cur .u8 w1 (.slice A1 n c1) n g ∧ Cur .u8 w1 (.slice A2 (m - n) c2) (m - n) (fun i => g (n + i))) := hs
  have HB1 : Hid (Below w.heap.size w w1) := hb1
  clear hs hsub hrd hb hb1 HB0 HV0
  go_wp2_with fail
  go_quiet (fail)
  go_wp2_with fail
  go_ret3
  exact ⟨⟨A1, A2, c1, c2, rfl, HS.out.1.drewN _, HS.out.2.drewN _⟩, below_drewN HB1.out _⟩

set_option maxHeartbeats 400000 in
theorem zztake_no (A : Option Addr) (m cc : Nat) (n : Int) (fl : Bool) (g : Nat → Int) (w : World) (hn : fl = true ∨ (m : Int) < n) (hv : Cur .u8 w (.slice A m cc) m g) :
    Calls Try.prog 11 #[.slice A m cc, .bool fl, .int .i64 n] w fun e w' => e = .returned (.tuple #[.slice none 0 0, .slice A m cc, .bool true]) ∧ Below w.heap.size w w' := by
  have HV : Hid (Cur .u8 w (.slice A m cc) m g) := hv
  have hb0 : Below w.heap.size w (w.alloc (.cells #[.slice A m cc, .bool fl] 39)) := (Below.refl _ _).alloc (Nat.le_refl _) _
  have hv0 := HV.out.below hb0 (Nat.le_refl _)
  have HB0 : Hid (Below w.heap.size w (w.alloc (.cells #[.slice A m cc, .bool fl] 39))) := hb0
  have HV0 : Hid (Cur .u8 (w.alloc (.cells #[.slice A m cc, .bool fl] 39)) (.slice A m cc) m g) := hv0
  have HN : Hid (fl = true ∨ (m : Int) < n) := hn
  clear hv hb0 hv0 hn
  go_enter Try.func11, Try.ntmps11
  go_wp2_with fail
  refine (take_no w.heap.size _ m n fl g _ HN.out HV0.out (rd_new w _ _)).mono ?_
  rintro e w1 ⟨rfl, hrd, hb⟩
  have r0 := hrd.c0
  have r1 := hrd.c1
  have HB1 : Hid (Below w.heap.size w w1) := HB0.out.trans hb
  clear hrd hb HB0 HV0
  go_wp2_with fail
  go_quiet (fail)
  go_wp2_with fail
  go_ret3
  exact ⟨rfl, below_drewN HB1.out _⟩

end Go.Proofs.Qxb6601789a
