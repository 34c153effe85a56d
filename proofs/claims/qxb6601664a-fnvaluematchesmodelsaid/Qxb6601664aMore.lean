import Derived.Test.Qxb6601664aBase
import Derived.Deep.LoopGhost
namespace Go.Proofs.Qxb6601664a
open Go.RowKit
set_option linter.unusedVariables false

/-- THE READER IN MEMORY: block 'bd' holds the struct (the slice over block b, the position p); block b holds the n bytes f. -/
structure Jt (B : Nat) (w0 w : World) (bd b n : Nat) (f : Nat → Int) (p : Nat) : Prop where
  bel : Below B w0 w
  hB : B ≤ bd
  blk : w.heap[bd]? = some (.cells #[.slice (some ⟨b, 0, none⟩) n n, .int .i64 p] 44 (0, 0))
  row : w.rowIs b 5 n (fun i => .int .u8 (f i))

namespace Jt
variable {B : Nat} {w0 w : World} {bd b n : Nat} {f : Nat → Int} {p : Nat}
theorem c0 (h : Jt B w0 w bd b n f p) : w.cell? ⟨bd, 0, none⟩ = some (.slice (some ⟨b, 0, none⟩) n n) := by
  simp [World.cell?, h.blk]
theorem c1 (h : Jt B w0 w bd b n f p) : w.cell? ⟨bd, 1, none⟩ = some (.int .i64 p) := by
  simp [World.cell?, h.blk]
theorem fz (h : Jt B w0 w bd b n f p) : w.frozen? ⟨bd, 1, none⟩ = false := by
  simp [World.frozen?, h.blk]
theorem cell (h : Jt B w0 w bd b n f p) {i : Nat} (hi : i < n) : w.cell? ⟨b, i, none⟩ = some (.int .u8 (f i)) := h.row.cell hi
theorem ne (h : Jt B w0 w bd b n f p) : b ≠ bd := by
  intro e
  obtain ⟨c, hb, _, _⟩ := h.row
  rw [e, h.blk] at hb
  simp at hb
theorem drewN (h : Jt B w0 w bd b n f p) (m : Nat) : Jt B w0 (w.drewN m) bd b n f p :=
  ⟨⟨h.bel.os, h.bel.tape, h.bel.output, h.bel.size, h.bel.block⟩, h.hB, h.blk, h.row⟩
theorem set (h : Jt B w0 w bd b n f p) (q : Nat) : Jt B w0 (w.setCell ⟨bd, 1, none⟩ (.int .i64 q)) bd b n f q :=
  ⟨h.bel.setCell h.hB _, h.hB, by simp [World.setCell, Array.getElem?_modify, h.blk], h.row.setOther h.ne _⟩
end Jt

set_option maxHeartbeats 400000 in
theorem skip_any (B : Nat) (w0 : World) (bd b n : Nat) (f : Nat → Int) (p : Nat) (hn : n ≤ 1048576) (hp : p ≤ n) (w : World) (h : Jt B w0 w bd b n f p) :
    Calls Try.prog 35 #[.pointer (some ⟨bd, 0, none⟩)] w fun e w' => e = .returned (.tuple #[]) ∧
      ∃ q, p ≤ q ∧ q ≤ n ∧ (∀ i, p ≤ i → i < q → blankB (f i) = true) ∧ (q < n → blankB (f q) = false) ∧ Jt B w0 w' bd b n f q := by
  go_enter Try.func35, Try.ntmps35
  go_wp2
  go_loopg [] (n - p) (fun g wr => ∃ k, g = n - k ∧ p ≤ k ∧ k ≤ n ∧ (∀ i, p ≤ i → i < k → blankB (f i) = true) ∧ Jt B w0 wr bd b n f k)
  case atStart => exact ⟨p, rfl, Nat.le_refl _, hp, fun i h1 h2 => by omega, h⟩
  case round =>
    obtain ⟨k, rfl, hpk, hk, hbl, hj⟩ := hrel
    have c0 := hj.c0
    have c1 := hj.c1
    have fz := hj.fz
    have HA : Hid (∀ i, p ≤ i → i < k → blankB (f i) = true) := hbl
    have HJ : Hid (Jt B w0 wr bd b n f k) := hj
    by_cases hlt : k < n
    · have hi : (k : Int) < (n : Int) := by omega
      have cc := hj.cell hlt
      clear hbl hj
      cases hb : blankB (f k)
      · go_wp2_with fail
        go_quiet ((go_at_call 38; exact Calls.quiet_of_same (isBlank_any _ _)))
        go_wp2
        go_end0
        exact ⟨rfl, k, hpk, hk, HA.out, fun _ => hb, HJ.out.drewN _⟩
      · go_wp2_with fail
        go_quiet ((go_at_call 38; exact Calls.quiet_of_same (isBlank_any _ _)))
        go_wp2
        go_roundg (n - (k + 1))
        case measure => omega
        case rel =>
          refine ⟨k + 1, rfl, by omega, by omega, fun i h1 h2 => ?_, ?_⟩
          · by_cases e : i = k
            · rw [e]; exact hb
            · exact HA.out i h1 (by omega)
          · have := (HJ.out.set (k + 1)).drewN
            exact this _
    · have hi : decide ((k : Int) < (n : Int)) = false := by simpa using hlt
      clear hbl hj
      go_wp2_with fail
      go_quiet ((go_at_call 38; exact Calls.quiet_of_same (isBlank_any _ _)))
      go_wp2
      go_end0
      exact ⟨rfl, k, hpk, hk, HA.out, fun h => absurd h hlt, HJ.out.drewN _⟩

end Go.Proofs.Qxb6601664a
