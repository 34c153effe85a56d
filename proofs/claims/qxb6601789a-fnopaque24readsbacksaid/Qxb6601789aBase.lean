import Derived.Test.Qxb6601789aProg
import Derived.WalkKit
import Derived.WalkSpells
import Derived.WalkLawsBesides
import Derived.Deep.OwnRows
import Derived.Deep.QuietTactic
import Derived.Deep.LoopGhost
import Derived.BigQuiet
import Derived.RegionTactic
namespace Go.Proofs.Qxb6601789a
open Go.RowKit
set_option linter.unusedVariables false

theorem Try.info5 : (Try.prog.info? 5).map (fun i => (i.zero, i.size, i.bytes)) = some (some (.int .u8 0), 1, 1) := by kernel_rfl
theorem Try.info3 : (Try.prog.info? 3).map (fun i => (i.zero, i.size, i.bytes)) = some (some (.int .i64 0), 1, 8) := by kernel_rfl

/-- A SLICE VALUE WHOSE m ELEMENTS ARE THE NUMBERS g: nil (then there is none), or over cells. -/
def Cur (k : IntKind) (w : World) (v : Value) (m : Nat) (g : Nat → Int) : Prop :=
  ∃ A cc, v = .slice A m cc ∧ m ≤ cc ∧ ((A = none ∧ cc = 0) ∨ ∃ b o, A = some ⟨b, o, none⟩ ∧ ∀ i, i < m → w.cell? ⟨b, o + i, none⟩ = some (.int k (g i)))

theorem Cur.below {k : IntKind} {B : Nat} {w w' : World} {v : Value} {m : Nat} {g : Nat → Int} (h : Cur k w v m g) (hb : Below B w w') (hB : w.heap.size ≤ B) : Cur k w' v m g := by
  obtain ⟨A, cc, rfl, hm, h | ⟨b, o, rfl, hc⟩⟩ := h
  · exact ⟨A, cc, rfl, hm, .inl h⟩
  · refine ⟨_, cc, rfl, hm, .inr ⟨b, o, rfl, fun i hi => ?_⟩⟩
    have h1 := hc i hi
    have hl : b < w.heap.size := block_lt_of_cell h1
    rw [hb.cell (show (⟨b, o + i, none⟩ : Addr).block < B by show b < B; omega)]
    exact h1

theorem Cur.drewN {k : IntKind} {w : World} {v : Value} {m : Nat} {g : Nat → Int} (h : Cur k w v m g) (n : Nat) : Cur k (w.drewN n) v m g := by
  obtain ⟨A, cc, rfl, hm, h | ⟨b, o, rfl, hc⟩⟩ := h
  · exact ⟨A, cc, rfl, hm, .inl h⟩
  · exact ⟨_, cc, rfl, hm, .inr ⟨b, o, rfl, hc⟩⟩

theorem Cur.congr {k : IntKind} {w : World} {v : Value} {m : Nat} {g g' : Nat → Int} (h : Cur k w v m g) (e : ∀ i, i < m → g i = g' i) : Cur k w v m g' := by
  obtain ⟨A, cc, rfl, hm, h | ⟨b, o, rfl, hc⟩⟩ := h
  · exact ⟨A, cc, rfl, hm, .inl h⟩
  · exact ⟨_, cc, rfl, hm, .inr ⟨b, o, rfl, fun i hi => by rw [hc i hi, e i hi]⟩⟩

theorem below_drewN {B : Nat} {w w' : World} (h : Below B w w') (n : Nat) : Below B w (w'.drewN n) := ⟨h.os, h.tape, h.output, h.size, h.block⟩

theorem Cur.row {w : World} {b n : Nat} {g : Nat → Int} {t : TypeId} {k : IntKind} (h : w.rowIs b t n (fun i => .int k (g i))) : Cur k w (.slice (some ⟨b, 0, none⟩) n n) n g :=
  ⟨_, n, rfl, Nat.le_refl _, .inr ⟨b, 0, rfl, fun i hi => by rw [Nat.zero_add]; exact h.cell hi⟩⟩

theorem Cur.nil (k : IntKind) (w : World) (g : Nat → Int) : Cur k w (.slice none 0 0) 0 g := ⟨none, 0, rfl, Nat.le_refl _, .inl ⟨rfl, rfl⟩⟩

/-- WHAT A CLONE IS: nil, or a new row. -/
def Cl (k : IntKind) (t : TypeId) (w w' : World) (v : Value) (n : Nat) (g : Nat → Int) : Prop :=
  (v = .slice none 0 0 ∧ n = 0 ∧ w' = w) ∨ (v = .slice (some ⟨w.heap.size, 0, none⟩) n n ∧ w'.heap.size = w.heap.size + 1 ∧ w'.rowIs w.heap.size t n (fun i => .int k (g i)))

theorem Cl.cur {k : IntKind} {t : TypeId} {w w' : World} {v : Value} {n : Nat} {g : Nat → Int} (h : Cl k t w w' v n g) : Cur k w' v n g := by
  rcases h with ⟨rfl, rfl, _⟩ | ⟨rfl, _, h⟩
  · exact Cur.nil _ _ _
  · exact Cur.row h

set_option maxHeartbeats 400000 in
theorem clone_some (x : Addr) (len cap : Nat) (f : Nat → Int) (w : World) (hl : len ≤ 1048576)
    (hc : ∀ i, i < len → w.cell? (x.add i) = some (.int .u8 (f i))) :
    Calls Try.prog 9 #[.slice (some x) len cap] w fun e w' => e = .returned (.slice (some ⟨w.heap.size, 0, none⟩) len len) ∧
      Below w.heap.size w w' ∧ w'.heap.size = w.heap.size + 1 ∧ w'.rowIs w.heap.size 5 len (fun i => .int .u8 (f i)) := by
  obtain ⟨b, off, spot⟩ := x
  have hnil := fun (w : World) (a : Option Addr) (n c n' c' : Nat) => Lib.run_eql_slice_nil (P := Try.prog) w 22 5 a n c n' c' Try.underlying22
  have hmk := run_make_row' (P := Try.prog) 22 5 (.int .u8 0) 1 Try.underlying22 Try.info5 rfl .i64 .i64 len (by omega) (by omega)
  go_enter Try.func9, Try.ntmps9
  go_wp2
  go_loopw [4] (fun i wr => ∃ k : Nat, k ≤ len ∧ i = .int .i64 k ∧ Below w.heap.size w wr ∧ wr.heap.size = w.heap.size + 1 ∧
      wr.rowIs w.heap.size 5 len (fun j => if j < k then .int .u8 (f j) else .int .u8 0)) (fun i _ => len - (intOf i).toNat)
  case atStart =>
    exact ⟨0, Nat.zero_le _, rfl, (Below.refl _ _).alloc (Nat.le_refl _) _, by simp, (World.rowIs_made w (.int .u8 0) len 5).congr (by intro i hi; simp)⟩
  case round =>
    obtain ⟨k, hk, rfl, hb, hs, hr⟩ := hrel
    clear hmk hnil
    by_cases hlt : k < len
    · have hsp : spot = none := by simpa [Addr.add] using World.cell?_spot (hc 0 (by omega))
      subst hsp
      have h1 := hc k hlt
      rw [Go.WideShapes.add_plain] at h1
      have hbl : b < w.heap.size := block_lt_of_cell h1
      have hcell : wr.cell? ⟨b, off + k, none⟩ = some (.int .u8 (f k)) := by
        rw [hb.cell (by exact hbl)]; exact h1
      have hold := hr.cell hlt
      simp only [Nat.lt_irrefl, if_false] at hold
      have hfz := hr.frozen k
      have hr2 := (hr.set k (.int .u8 (f k))).congr (g := fun j => if j < k + 1 then .int .u8 (f j) else .int .u8 0) (by
        intro j hj
        by_cases e1 : j = k
        · subst e1; simp
        · by_cases e2 : j < k
          · simp [e1, e2, Nat.lt_succ_of_lt e2]
          · have e3 : ¬ j < k + 1 := by omega
            simp [e1, e2, e3])
      have HR : Hid ((wr.setCell ⟨w.heap.size, k, none⟩ (.int .u8 (f k))).rowIs w.heap.size 5 len (fun j => if j < k + 1 then .int .u8 (f j) else .int .u8 0)) := hr2
      clear hc h1 hr2 hr
      go_wp2
      go_roundw
      case rel =>
        exact ⟨k + 1, by omega, by go_num, hb.setCell (by simp) _, by simpa using hs, HR.out⟩
      case measure => simp [intOf]; omega
    · have e : k = len := by omega
      go_wp2
      go_ret
      refine ⟨rfl, hb, hs, hr.congr ?_⟩
      intro i hi
      rw [if_pos (by omega)]

theorem clone_nil (w : World) : Calls Try.prog 9 #[.slice none 0 0] w fun e w' => e = .returned (.slice none 0 0) ∧ w' = w := by
  have hnil := fun (w : World) (a : Option Addr) (n c n' c' : Nat) => Lib.run_eql_slice_nil (P := Try.prog) w 22 5 a n c n' c' Try.underlying22
  go_enter Try.func9, Try.ntmps9
  go_wp2
  go_ret
  exact ⟨rfl, rfl⟩

set_option maxHeartbeats 400000 in
theorem cloneInts_some (x : Addr) (len cap : Nat) (f : Nat → Int) (w : World) (hl : len ≤ 1048576)
    (hc : ∀ i, i < len → w.cell? (x.add i) = some (.int .i64 (f i))) :
    Calls Try.prog 10 #[.slice (some x) len cap] w fun e w' => e = .returned (.slice (some ⟨w.heap.size, 0, none⟩) len len) ∧
      Below w.heap.size w w' ∧ w'.heap.size = w.heap.size + 1 ∧ w'.rowIs w.heap.size 3 len (fun i => .int .i64 (f i)) := by
  obtain ⟨b, off, spot⟩ := x
  have hnil := fun (w : World) (a : Option Addr) (n c n' c' : Nat) => Lib.run_eql_slice_nil (P := Try.prog) w 23 3 a n c n' c' Try.underlying23
  have hmk := run_make_row' (P := Try.prog) 23 3 (.int .i64 0) 8 Try.underlying23 Try.info3 rfl .i64 .i64 len (by omega) (by omega)
  go_enter Try.func10, Try.ntmps10
  go_wp2
  go_loopw [4] (fun i wr => ∃ k : Nat, k ≤ len ∧ i = .int .i64 k ∧ Below w.heap.size w wr ∧ wr.heap.size = w.heap.size + 1 ∧
      wr.rowIs w.heap.size 3 len (fun j => if j < k then .int .i64 (f j) else .int .i64 0)) (fun i _ => len - (intOf i).toNat)
  case atStart =>
    exact ⟨0, Nat.zero_le _, rfl, (Below.refl _ _).alloc (Nat.le_refl _) _, by simp, (World.rowIs_made w (.int .i64 0) len 3).congr (by intro i hi; simp)⟩
  case round =>
    obtain ⟨k, hk, rfl, hb, hs, hr⟩ := hrel
    clear hmk hnil
    by_cases hlt : k < len
    · have hsp : spot = none := by simpa [Addr.add] using World.cell?_spot (hc 0 (by omega))
      subst hsp
      have h1 := hc k hlt
      rw [Go.WideShapes.add_plain] at h1
      have hbl : b < w.heap.size := block_lt_of_cell h1
      have hcell : wr.cell? ⟨b, off + k, none⟩ = some (.int .i64 (f k)) := by
        rw [hb.cell (by exact hbl)]; exact h1
      have hold := hr.cell hlt
      simp only [Nat.lt_irrefl, if_false] at hold
      have hfz := hr.frozen k
      have hr2 := (hr.set k (.int .i64 (f k))).congr (g := fun j => if j < k + 1 then .int .i64 (f j) else .int .i64 0) (by
        intro j hj
        by_cases e1 : j = k
        · subst e1; simp
        · by_cases e2 : j < k
          · simp [e1, e2, Nat.lt_succ_of_lt e2]
          · have e3 : ¬ j < k + 1 := by omega
            simp [e1, e2, e3])
      have HR : Hid ((wr.setCell ⟨w.heap.size, k, none⟩ (.int .i64 (f k))).rowIs w.heap.size 3 len (fun j => if j < k + 1 then .int .i64 (f j) else .int .i64 0)) := hr2
      clear hc h1 hr2 hr
      go_wp2
      go_roundw
      case rel =>
        exact ⟨k + 1, by omega, by go_num, hb.setCell (by simp) _, by simpa using hs, HR.out⟩
      case measure => simp [intOf]; omega
    · have e : k = len := by omega
      go_wp2
      go_ret
      refine ⟨rfl, hb, hs, hr.congr ?_⟩
      intro i hi
      rw [if_pos (by omega)]

theorem cloneInts_nil (w : World) : Calls Try.prog 10 #[.slice none 0 0] w fun e w' => e = .returned (.slice none 0 0) ∧ w' = w := by
  have hnil := fun (w : World) (a : Option Addr) (n c n' c' : Nat) => Lib.run_eql_slice_nil (P := Try.prog) w 23 3 a n c n' c' Try.underlying23
  go_enter Try.func10, Try.ntmps10
  go_wp2
  go_ret
  exact ⟨rfl, rfl⟩

/-- A SLICE THAT CAME IN: nil, or at whatever address. -/
def In (k : IntKind) (w : World) (a : Option Addr) (n c : Nat) (f : Nat → Int) : Prop :=
  (a = none ∧ n = 0 ∧ c = 0) ∨ ∃ x, a = some x ∧ ∀ i, i < n → w.cell? (x.add i) = some (.int k (f i))

theorem In.below {k : IntKind} {w w' : World} {a : Option Addr} {n c : Nat} {f : Nat → Int} (h : In k w a n c f) (hb : Below w.heap.size w w') : In k w' a n c f := by
  rcases h with h | ⟨x, rfl, hc⟩
  · exact .inl h
  · refine .inr ⟨x, rfl, fun i hi => ?_⟩
    have h1 := hc i hi
    rw [hb.cell (block_lt_of_cell h1)]
    exact h1

theorem clone_any (a : Option Addr) (n c : Nat) (f : Nat → Int) (w : World) (hl : n ≤ 1048576) (h : In .u8 w a n c f) :
    Calls Try.prog 9 #[.slice a n c] w fun e w' => (∃ v, e = .returned v ∧ Cl .u8 5 w w' v n f) ∧ Below w.heap.size w w' := by
  rcases h with ⟨rfl, rfl, rfl⟩ | ⟨x, rfl, hc⟩
  · refine (clone_nil w).mono ?_
    rintro e w' ⟨rfl, rfl⟩
    exact ⟨⟨_, rfl, .inl ⟨rfl, rfl, rfl⟩⟩, Below.refl _ _⟩
  · refine (clone_some x n c f w hl hc).mono ?_
    rintro e w' ⟨rfl, hb, hs, hr⟩
    exact ⟨⟨_, rfl, .inr ⟨rfl, hs, hr⟩⟩, hb⟩

theorem cloneInts_any (a : Option Addr) (n c : Nat) (f : Nat → Int) (w : World) (hl : n ≤ 1048576) (h : In .i64 w a n c f) :
    Calls Try.prog 10 #[.slice a n c] w fun e w' => (∃ v, e = .returned v ∧ Cl .i64 3 w w' v n f) ∧ Below w.heap.size w w' := by
  rcases h with ⟨rfl, rfl, rfl⟩ | ⟨x, rfl, hc⟩
  · refine (cloneInts_nil w).mono ?_
    rintro e w' ⟨rfl, rfl⟩
    exact ⟨⟨_, rfl, .inl ⟨rfl, rfl, rfl⟩⟩, Below.refl _ _⟩
  · refine (cloneInts_some x n c f w hl hc).mono ?_
    rintro e w' ⟨rfl, hb, hs, hr⟩
    exact ⟨⟨_, rfl, .inr ⟨rfl, hs, hr⟩⟩, hb⟩

end Go.Proofs.Qxb6601789a
