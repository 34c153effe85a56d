import Derived.Test.Qxb6601745aModel
namespace Go.Proofs.Qxb6601745a
open Go.RowKit
set_option linter.unusedVariables false

theorem model_empty (b : Nat) (w : World) : Calls Try.prog 8 #[.slice (some ⟨b, 0, none⟩) 0 0] w fun e w' => e = .returned (.tuple #[.int .i64 0, .bool true]) ∧ w' = w := by
  go_enter Try.func8, Try.ntmps8
  go_wp2
  refine wp_loop_rounds 1 ?_
  rw [rounds_succ]
  go_wp2
  refine wp_loop_rounds 1 ?_
  rw [rounds_succ]
  go_wp2
  refine wp_loop_rounds 1 ?_
  rw [rounds_succ]
  go_wp2
  go_ret2
  exact ⟨rfl, rfl⟩

theorem post_empty (f : Nat → Int) : ParsePost f 0 (.returned (.tuple #[.int .i64 0, .bool true])) :=
  ⟨0, false, .inr ⟨rfl, rfl, fun h => by omega⟩, .inl ⟨fun i h1 h2 => by omega, Nat.zero_le _, rfl⟩⟩

theorem model_any (b n : Nat) (f : Nat → Int) (hn : n ≤ 1048576) (w : World) (hr : w.rowIs b 5 n (fun i => .int .u8 (f i))) (hb : ∀ i, i < n → 0 ≤ f i ∧ f i ≤ 255) :
    Calls Try.prog 8 #[.slice (some ⟨b, 0, none⟩) n n] w fun e w' => ParsePost f n e ∧ ∃ nd, w' = w.drewN nd := by
  by_cases h0 : 0 < n
  · by_cases h45 : f 0 = 45
    · exact (model_neg b n f hn w hr hb h0 h45).mono fun e w' ⟨h, hw⟩ => ⟨⟨1, true, .inl ⟨rfl, rfl, h0, h45⟩, h⟩, hw⟩
    · exact (model_pos b n f hn w hr hb h0 h45).mono fun e w' ⟨h, hw⟩ => ⟨⟨0, false, .inr ⟨rfl, rfl, fun _ => h45⟩, h⟩, hw⟩
  · obtain rfl : n = 0 := by omega
    exact (model_empty b w).mono fun e w' ⟨h, hw⟩ => ⟨by rw [h]; exact post_empty f, 0, hw⟩

theorem ParsePost.shape {f : Nat → Int} {n : Nat} {e : Ending} (h : ParsePost f n e) : ∃ (x : Int) (r : Bool), e = .returned (.tuple #[.int .i64 x, .bool r]) := by
  obtain ⟨s, neg, _, ⟨_, _, h⟩ | ⟨_, h⟩⟩ := h
  · exact ⟨_, _, h⟩
  · exact ⟨_, _, h⟩

theorem ParsePost.same {f : Nat → Int} {n : Nat} {x x' : Int} {r r' : Bool} (h : ParsePost f n (.returned (.tuple #[.int .i64 x, .bool r]))) (h' : ParsePost f n (.returned (.tuple #[.int .i64 x', .bool r']))) : x = x' ∧ r = r' := by
  obtain ⟨s, neg, hc, hp⟩ := h
  obtain ⟨s', neg', hc', hp'⟩ := h'
  obtain ⟨rfl, rfl⟩ := Cuts.same hc hc'
  obtain ⟨y, t, h1, h2⟩ := hp.det hp'
  simp at h1 h2
  exact ⟨by rw [h1.1, h2.1], by rw [h1.2, h2.2]⟩

theorem bytes6 (a : Option Addr) (n c : Nat) (w : World) (h : n ≤ 1048576) :
    Calls Try.prog 6 #[.slice a n c] w fun e w' => e = .returned (.bool true) ∧ w' = w := by
  go_enter Try.func6, Try.ntmps6
  go_wp2
  go_ret
  exact ⟨rfl, rfl⟩

theorem bytes6_no (a : Option Addr) (n c : Nat) (w : World) (h : 1048576 < n) :
    Calls Try.prog 6 #[.slice a n c] w fun e w' => e = .returned (.bool false) ∧ w' = w := by
  go_enter Try.func6, Try.ntmps6
  go_wp2
  go_ret
  exact ⟨rfl, rfl⟩

set_option maxHeartbeats 1000000 in
theorem match_nil (w : World) : Calls Try.prog 3 #[.slice none 0 0] w fun e w' => e = .returned (.bool true) ∧ Below w.heap.size w w' := by
  have hnil := fun (w : World) (a : Option Addr) (n c n' c' : Nat) => run_neq_slice_nil_any (P := Try.prog) w 22 5 a n c n' c' Try.underlying22
  go_enter Try.func3, Try.ntmps3
  go_wp2_with fail
  refine (bytes6 _ _ _ _ (by omega)).mono ?_
  rintro e w' ⟨rfl, rfl⟩
  go_wp2_with fail
  refine (zzparse_any none 0 0 (fun _ => 0) _ (by omega) (by omega) (fun h => by omega)).mono ?_
  rintro e w1 ⟨hp, hb⟩
  obtain ⟨x, r, rfl⟩ := hp.shape
  obtain ⟨rfl, rfl⟩ := hp.same (post_empty _)
  clear hp
  go_wp2_with fail
  refine (model_nil _).mono ?_
  rintro e w2 ⟨rfl, rfl⟩
  go_wp2_with fail
  go_ret
  exact ⟨rfl, hb⟩

set_option maxHeartbeats 1000000 in
theorem match_main (x : Addr) (len cap : Nat) (f : Nat → Int) (w : World) (hl : len ≤ 1048576) (hbf : ∀ i, i < len → 0 ≤ f i ∧ f i ≤ 255)
    (hc : ∀ i, i < len → w.cell? (x.add i) = some (.int .u8 (f i))) :
    Calls Try.prog 3 #[.slice (some x) len cap] w fun e w' => e = .returned (.bool true) ∧ Below w.heap.size w w' := by
  obtain ⟨b, off, spot⟩ := x
  have HF : Hid (∀ i, i < len → 0 ≤ f i ∧ f i ≤ 255) := hbf
  clear hbf
  have hnil := fun (w : World) (a : Option Addr) (n c n' c' : Nat) => run_neq_slice_nil_any (P := Try.prog) w 22 5 a n c n' c' Try.underlying22
  have hmk := run_make_row' (P := Try.prog) 22 5 (.int .u8 0) 1 Try.underlying22 Try.info5 rfl .i64 .i64 len (by omega) (by omega)
  go_enter Try.func3, Try.ntmps3
  go_wp2_with fail
  refine (bytes6 _ _ _ _ hl).mono ?_
  rintro e w' ⟨rfl, hw⟩
  obtain rfl := hw.symm
  clear hw
  go_wp2_with fail
  go_loopw [4] (fun i wr => ∃ k : Nat, k ≤ len ∧ i = .int .i64 k ∧ Below w.heap.size w wr ∧ wr.heap.size = w.heap.size + 1 ∧
      wr.rowIs w.heap.size 5 len (fun j => if j < k then .int .u8 (f j) else .int .u8 0)) (fun i _ => len - (intOf i).toNat)
  case atStart =>
    exact ⟨0, Nat.zero_le _, rfl, (Below.refl _ _).alloc (Nat.le_refl _) _, by simp, (World.rowIs_made w (.int .u8 0) len 5).congr (by intro i hi; simp)⟩
  case round =>
    obtain ⟨k, hk, rfl, hb, hs, hr⟩ := hrel
    clear hmk hnil
    by_cases hlt : k < len
    · have hsp : spot = none := by simpa [Addr.add] using World.cell?_spot (hc 0 (by omega))
      subst hsp
      have h1 := hc k hlt
      rw [Go.WideShapes.add_plain] at h1
      have hbl : b < w.heap.size := block_lt_of_cell h1
      have hcell : wr.cell? ⟨b, off + k, none⟩ = some (.int .u8 (f k)) := by
        rw [hb.cell (by exact hbl)]; exact h1
      have hold := hr.cell hlt
      simp only [Nat.lt_irrefl, if_false] at hold
      have hfz := hr.frozen k
      have hr2 := (hr.set k (.int .u8 (f k))).congr (g := fun j => if j < k + 1 then .int .u8 (f j) else .int .u8 0) (by
        intro j hj
        by_cases e1 : j = k
        · subst e1; simp
        · by_cases e2 : j < k
          · simp [e1, e2, Nat.lt_succ_of_lt e2]
          · have e3 : ¬ j < k + 1 := by omega
            simp [e1, e2, e3])
      have HR : Hid ((wr.setCell ⟨w.heap.size, k, none⟩ (.int .u8 (f k))).rowIs w.heap.size 5 len (fun j => if j < k + 1 then .int .u8 (f j) else .int .u8 0)) := hr2
      clear hc h1 hr2 hr
      go_wp2_with fail
      go_roundw
      case rel =>
        exact ⟨k + 1, by omega, by go_num, hb.setCell (by simp) _, by simpa using hs, HR.out⟩
      case measure => simp [intOf]; omega
    · obtain rfl : len = k := by omega
      have hr2 := hr.congr (g := fun i => .int .u8 (f i)) (by intro i hi; rw [if_pos (by omega)])
      have HR : Hid (wr.rowIs w.heap.size 5 len (fun i => .int .u8 (f i))) := hr2
      clear hr hr2 hc
      go_wp2_with fail
      refine (zzparse_any (some ⟨w.heap.size, 0, none⟩) len len f _ hl (Nat.le_refl _) (fun _ => ⟨w.heap.size, 0, rfl, fun i hi => ⟨by rw [Nat.zero_add]; exact HR.out.cell hi, HF.out i hi⟩⟩)).mono ?_
      rintro e w1 ⟨hp, hb1⟩
      obtain ⟨x1, r1, rfl⟩ := hp.shape
      have HP : Hid (ParsePost f len (.returned (.tuple #[.int .i64 x1, .bool r1]))) := hp
      clear hp
      go_wp2_with fail
      refine (model_any w.heap.size len f hl _ (HR.out.of_block (hb1.block _ (by omega))) HF.out).mono ?_
      rintro e w2 ⟨hp2, nd, rfl⟩
      obtain ⟨x2, r2, rfl⟩ := hp2.shape
      obtain ⟨rfl, rfl⟩ := HP.out.same hp2
      clear hp2
      have hbb : Hid (Below w.heap.size w w1) := hb.trans (hb1.mono (by omega))
      cases r1
      all_goals
        go_wp2_with fail
        go_ret
        exact ⟨by simp, hbb.out.os, hbb.out.tape, hbb.out.output, hbb.out.size, hbb.out.block⟩

end Go.Proofs.Qxb6601745a
