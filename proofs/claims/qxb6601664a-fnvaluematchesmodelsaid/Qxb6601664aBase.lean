import Derived.Test.Qxb6601664aProg
import Derived.WalkKit
import Derived.WalkSpells
import Derived.WalkLawsBesides
import Derived.Deep.OwnRows
import Derived.Deep.QuietTactic
import Derived.BigQuiet
import Derived.RegionTactic
namespace Go.Proofs.Qxb6601664a
open Go.RowKit
set_option linter.unusedVariables false

/-- the four blanks -/
def blankB (c : Int) : Bool := decide (c = 32 ∨ c = 9 ∨ c = 13 ∨ c = 10)

theorem Try.info5 : (Try.prog.info? 5).map (fun i => (i.zero, i.size, i.bytes)) = some (some (.int .u8 0), 1, 1) := by kernel_rfl

theorem blank_any (c : Int) (w : World) :
    Calls Try.prog 19 #[.int .u8 c] w fun e w' => e = .returned (.bool (blankB c)) ∧ w' = w := by
  unfold blankB
  go_enter Try.func19, Try.ntmps19
  go_wp2
  all_goals
    go_ret
    refine ⟨?_, rfl⟩
    simp_all

theorem isBlank_any (c : Int) (w : World) :
    Calls Try.prog 38 #[.int .u8 c] w fun e w' => e = .returned (.bool (blankB c)) ∧ w' = w := by
  unfold blankB
  go_enter Try.func38, Try.ntmps38
  go_wp2
  all_goals
    go_ret
    refine ⟨?_, rfl⟩
    simp_all

set_option maxHeartbeats 400000 in
theorem clone_any (x : Addr) (len cap : Nat) (f : Nat → Int) (w : World) (hl : len ≤ 1048576)
    (hc : ∀ i, i < len → w.cell? (x.add i) = some (.int .u8 (f i))) :
    Calls Try.prog 16 #[.slice (some x) len cap] w fun e w' => e = .returned (.slice (some ⟨w.heap.size, 0, none⟩) len len) ∧
      Below w.heap.size w w' ∧ w'.heap.size = w.heap.size + 1 ∧ w'.rowIs w.heap.size 5 len (fun i => .int .u8 (f i)) := by
  obtain ⟨b, off, spot⟩ := x
  have hnil := fun (w : World) (a : Option Addr) (n c n' c' : Nat) => Lib.run_eql_slice_nil (P := Try.prog) w 30 5 a n c n' c' Try.underlying30
  have hmk := run_make_row' (P := Try.prog) 30 5 (.int .u8 0) 1 Try.underlying30 Try.info5 rfl .i64 .i64 len (by omega) (by omega)
  go_enter Try.func16, Try.ntmps16
  go_wp2
  go_loopw [4] (fun i wr => ∃ k : Nat, k ≤ len ∧ i = .int .i64 k ∧ Below w.heap.size w wr ∧ wr.heap.size = w.heap.size + 1 ∧
      wr.rowIs w.heap.size 5 len (fun j => if j < k then .int .u8 (f j) else .int .u8 0)) (fun i _ => len - (intOf i).toNat)
  case atStart =>
    exact ⟨0, Nat.zero_le _, rfl, (Below.refl _ _).alloc (Nat.le_refl _) _, by simp, (World.rowIs_made w (.int .u8 0) len 5).congr (by intro i hi; simp)⟩
  case round =>
    obtain ⟨k, hk, rfl, hb, hs, hr⟩ := hrel
    clear hmk hnil
    by_cases hlt : k < len
    · have hsp : spot = none := by simpa [Addr.add] using World.cell?_spot (hc 0 (by omega))
      subst hsp
      have h1 := hc k hlt
      rw [Go.WideShapes.add_plain] at h1
      have hbl : b < w.heap.size := block_lt_of_cell h1
      have hcell : wr.cell? ⟨b, off + k, none⟩ = some (.int .u8 (f k)) := by
        rw [hb.cell (by exact hbl)]; exact h1
      have hold := hr.cell hlt
      simp only [Nat.lt_irrefl, if_false] at hold
      have hfz := hr.frozen k
      have hr2 := (hr.set k (.int .u8 (f k))).congr (g := fun j => if j < k + 1 then .int .u8 (f j) else .int .u8 0) (by
        intro j hj
        by_cases e1 : j = k
        · subst e1; simp
        · by_cases e2 : j < k
          · simp [e1, e2, Nat.lt_succ_of_lt e2]
          · have e3 : ¬ j < k + 1 := by omega
            simp [e1, e2, e3])
      have HR : Hid ((wr.setCell ⟨w.heap.size, k, none⟩ (.int .u8 (f k))).rowIs w.heap.size 5 len (fun j => if j < k + 1 then .int .u8 (f j) else .int .u8 0)) := hr2
      clear hc h1 hr2 hr
      go_wp2
      go_roundw
      case rel =>
        exact ⟨k + 1, by omega, by go_num, hb.setCell (by simp) _, by simpa using hs, HR.out⟩
      case measure => simp [intOf]; omega
    · have e : k = len := by omega
      go_wp2
      go_ret
      refine ⟨rfl, hb, hs, hr.congr ?_⟩
      intro i hi
      rw [if_pos (by omega)]

end Go.Proofs.Qxb6601664a
