import Derived.Test.Qxb6601745aProg
import Derived.Test.Qxb6601745aPlain
import Derived.WalkKit
import Derived.WalkSpells
import Derived.WalkLawsBesides
import Derived.Deep.OwnRows
import Derived.Deep.QuietTactic
import Derived.Deep.LoopGhost
import Derived.BigQuiet
import Derived.RegionTactic
import Derived.Lib.SlBytesConst
import Derived.Laws.BytesArg
namespace Go.Proofs.Qxb6601745a
open Go.RowKit
set_option linter.unusedVariables false

theorem one_cell {w : World} {b o : Nat} {c : Int} (h : w.cell? ⟨b, o, none⟩ = some (.int .u8 c)) : ∀ i, i < 1 → w.cell? ⟨b, o + i, none⟩ = some (.int .u8 ([c].getD i 0)) := by
  intro i hi
  obtain rfl : i = 0 := by omega
  simpa using h

theorem equal_yes (b o b2 o2 c1 c2 : Nat) (w : World) (h1 : w.cell? ⟨b, o, none⟩ = some (.int .u8 45)) (h2 : w.cell? ⟨b2, o2, none⟩ = some (.int .u8 45)) :
    Calls Try.prog 14 #[.slice (some ⟨b, o, none⟩) 1 c1, .slice (some ⟨b2, o2, none⟩) 1 c2] w fun e w' => e = .returned (.bool true) ∧ w' = w := by
  have k1 := run_convert_bytes_arg (P := Try.prog) w 22 5 Try.underlying22 Try.underlying5 b o 1 c1 [45] rfl (one_cell h1) 9 Try.underlying9
  have k2 := run_convert_bytes_arg (P := Try.prog) w 22 5 Try.underlying22 Try.underlying5 b2 o2 1 c2 [45] rfl (one_cell h2) 9 Try.underlying9
  go_enter Try.func14, Try.ntmps14
  go_wp2
  go_ret
  exact ⟨rfl, rfl⟩

theorem str_ne {c : Int} (hc : 0 ≤ c) (hc2 : c ≤ 255) (hne : c ≠ 45) : ((strOfNums [c]).toList == (strOfNums [45]).toList) = false := by
  rw [ByteArray.toList_eq, ByteArray.toList_eq, strOfNums_data, strOfNums_data]
  have h : UInt8.ofNat c.toNat ≠ UInt8.ofNat 45 := by
    intro e
    have e2 := congrArg UInt8.toNat e
    simp at e2
    omega
  simpa using h

theorem equal_no (b o b2 o2 c1 c2 : Nat) (c : Int) (w : World) (h1 : w.cell? ⟨b, o, none⟩ = some (.int .u8 c)) (h2 : w.cell? ⟨b2, o2, none⟩ = some (.int .u8 45)) (hc : 0 ≤ c) (hc2 : c ≤ 255) (hne : c ≠ 45) :
    Calls Try.prog 14 #[.slice (some ⟨b, o, none⟩) 1 c1, .slice (some ⟨b2, o2, none⟩) 1 c2] w fun e w' => e = .returned (.bool false) ∧ w' = w := by
  have k1 := run_convert_bytes_arg (P := Try.prog) w 22 5 Try.underlying22 Try.underlying5 b o 1 c1 [c] rfl (one_cell h1) 9 Try.underlying9
  have k2 := run_convert_bytes_arg (P := Try.prog) w 22 5 Try.underlying22 Try.underlying5 b2 o2 1 c2 [45] rfl (one_cell h2) 9 Try.underlying9
  have k3 := str_ne hc hc2 hne
  go_enter Try.func14, Try.ntmps14
  go_wp2
  go_ret
  exact ⟨rfl, rfl⟩

/-- HasPrefix where nothing is there -/
theorem has_none (a : Option Addr) (c b2 o2 c2 : Nat) (w : World) :
    Calls Try.prog 13 #[.slice a 0 c, .slice (some ⟨b2, o2, none⟩) 1 c2] w fun e w' => e = .returned (.bool false) ∧ w' = w := by
  go_enter Try.func13, Try.ntmps13
  go_wp2_with fail
  go_ret
  exact ⟨rfl, rfl⟩

theorem has_yes (b o n c b2 o2 c2 : Nat) (w : World) (hn : 1 ≤ n) (hnc : n ≤ c) (h1 : w.cell? ⟨b, o, none⟩ = some (.int .u8 45)) (h2 : w.cell? ⟨b2, o2, none⟩ = some (.int .u8 45)) :
    Calls Try.prog 13 #[.slice (some ⟨b, o, none⟩) n c, .slice (some ⟨b2, o2, none⟩) 1 c2] w fun e w' => e = .returned (.bool true) ∧ w' = w := by
  go_enter Try.func13, Try.ntmps13
  go_wp2_with fail
  refine (equal_yes b o b2 o2 _ _ _ h1 h2).mono ?_
  rintro e w' ⟨rfl, rfl⟩
  go_wp2_with fail
  go_ret
  exact ⟨rfl, rfl⟩

theorem has_no (b o n c b2 o2 c2 : Nat) (x : Int) (w : World) (hn : 1 ≤ n) (hnc : n ≤ c) (h1 : w.cell? ⟨b, o, none⟩ = some (.int .u8 x)) (h2 : w.cell? ⟨b2, o2, none⟩ = some (.int .u8 45)) (hx : 0 ≤ x) (hx2 : x ≤ 255) (hne : x ≠ 45) :
    Calls Try.prog 13 #[.slice (some ⟨b, o, none⟩) n c, .slice (some ⟨b2, o2, none⟩) 1 c2] w fun e w' => e = .returned (.bool false) ∧ w' = w := by
  go_enter Try.func13, Try.ntmps13
  go_wp2_with fail
  refine (equal_no b o b2 o2 _ _ x _ h1 h2 hx hx2 hne).mono ?_
  rintro e w' ⟨rfl, rfl⟩
  go_wp2_with fail
  go_ret
  exact ⟨rfl, rfl⟩

theorem cut_none (a : Option Addr) (c b2 o2 c2 : Nat) (w : World) :
    Calls Try.prog 12 #[.slice a 0 c, .slice (some ⟨b2, o2, none⟩) 1 c2] w fun e w' => e = .returned (.tuple #[.slice a 0 c, .bool false]) ∧ w' = w := by
  go_enter Try.func12, Try.ntmps12
  go_wp2_with fail
  refine (has_none a c b2 o2 c2 _).mono ?_
  rintro e w' ⟨rfl, rfl⟩
  go_wp2_with fail
  go_ret2
  exact ⟨rfl, rfl⟩

theorem cut_no (b o n c b2 o2 c2 : Nat) (x : Int) (w : World) (hn : 1 ≤ n) (hnc : n ≤ c) (h1 : w.cell? ⟨b, o, none⟩ = some (.int .u8 x)) (h2 : w.cell? ⟨b2, o2, none⟩ = some (.int .u8 45)) (hx : 0 ≤ x) (hx2 : x ≤ 255) (hne : x ≠ 45) :
    Calls Try.prog 12 #[.slice (some ⟨b, o, none⟩) n c, .slice (some ⟨b2, o2, none⟩) 1 c2] w fun e w' => e = .returned (.tuple #[.slice (some ⟨b, o, none⟩) n c, .bool false]) ∧ w' = w := by
  go_enter Try.func12, Try.ntmps12
  go_wp2_with fail
  refine (has_no b o n c b2 o2 c2 x _ hn hnc h1 h2 hx hx2 hne).mono ?_
  rintro e w' ⟨rfl, rfl⟩
  go_wp2_with fail
  go_ret2
  exact ⟨rfl, rfl⟩

theorem cut_yes (b o n c b2 o2 c2 : Nat) (w : World) (hn : 1 ≤ n) (hnc : n ≤ c) (h1 : w.cell? ⟨b, o, none⟩ = some (.int .u8 45)) (h2 : w.cell? ⟨b2, o2, none⟩ = some (.int .u8 45)) :
    Calls Try.prog 12 #[.slice (some ⟨b, o, none⟩) n c, .slice (some ⟨b2, o2, none⟩) 1 c2] w fun e w' =>
      e = .returned (.tuple #[.slice (if c = 1 then some ⟨b, o, none⟩ else some ⟨b, o + 1, none⟩) (n - 1) (c - 1), .bool true]) ∧ w' = w := by
  go_enter Try.func12, Try.ntmps12
  go_wp2_with fail
  refine (has_yes b o n c b2 o2 c2 _ hn hnc h1 h2).mono ?_
  rintro e w' ⟨rfl, rfl⟩
  by_cases e1 : c = 1
  · subst e1
    go_wp2_with fail
    go_ret2
    exact ⟨rfl, rfl⟩
  · have hc1 : ¬ c = 1 := e1
    go_wp2_with fail
    go_ret2
    exact ⟨rfl, rfl⟩

end Go.Proofs.Qxb6601745a
