import Derived.Test.Qxb6601664aMore
namespace Go.Proofs.Qxb6601664a
open Go.RowKit
set_option linter.unusedVariables false

/-- the first byte from p on that is no blank stands at q, inside the text -/
def First (f : Nat → Int) (n p q : Nat) : Prop := p ≤ q ∧ q < n ∧ (∀ i, p ≤ i → i < q → blankB (f i) = true) ∧ blankB (f q) = false
/-- what zzMoreDomain asks -/
def Dom (f : Nat → Int) (n p : Nat) : Prop := ∃ q, First f n p q ∧ (f q = 44 → ∃ q2, q < q2 ∧ q2 < n ∧ blankB (f q2) = false)
/-- where 'more' stops -/
def Ans (f : Nat → Int) (n p s : Nat) : Prop := p ≤ s ∧ s < n ∧ blankB (f s) = false ∧
  ((f s ≠ 44 ∧ ∀ i, p ≤ i → i < s → blankB (f i) = true) ∨ ∃ q, p ≤ q ∧ q < s ∧ f q = 44 ∧ ∀ i, p ≤ i → i < s → i ≠ q → blankB (f i) = true)

theorem dom_at {f : Nat → Int} {n p q : Nat} (hd : Dom f n p) (h1 : p ≤ q) (h2 : q ≤ n) (h3 : ∀ i, p ≤ i → i < q → blankB (f i) = true) (h4 : q < n → blankB (f q) = false) :
    q < n ∧ blankB (f q) = false ∧ (f q = 44 → ∃ q2, q < q2 ∧ q2 < n ∧ blankB (f q2) = false) := by
  obtain ⟨r, ⟨r1, r2, r3, r4⟩, r5⟩ := hd
  have e : q = r := by
    rcases Nat.lt_trichotomy q r with h | h | h
    · have a := r3 q h1 h
      have c := h4 (by omega)
      rw [a] at c; exact absurd c (by decide)
    · exact h
    · have a := h3 r r1 h
      rw [a] at r4; exact absurd r4 (by decide)
  subst e
  exact ⟨r2, r4, r5⟩

theorem dom_next {f : Nat → Int} {n q s : Nat} (hd : ∃ q2, q < q2 ∧ q2 < n ∧ blankB (f q2) = false) (h1 : q + 1 ≤ s) (h2 : s ≤ n) (h3 : ∀ i, q + 1 ≤ i → i < s → blankB (f i) = true) (h4 : s < n → blankB (f s) = false) :
    s < n ∧ blankB (f s) = false := by
  obtain ⟨r, r1, r2, r3⟩ := hd
  have e : s ≤ r := by
    rcases Nat.lt_or_ge r s with h | h
    · have a := h3 r (by omega) h
      rw [a] at r3; exact absurd r3 (by decide)
    · exact h
  exact ⟨by omega, h4 (by omega)⟩

set_option maxHeartbeats 400000 in
theorem more_any (B : Nat) (w0 : World) (bd b n : Nat) (f : Nat → Int) (p : Nat) (en : Int) (hn : n ≤ 1048576) (hp : p ≤ n) (hd : Dom f n p) (w : World) (h : Jt B w0 w bd b n f p) :
    Calls Try.prog 27 #[.pointer (some ⟨bd, 0, none⟩), .int .u8 en] w fun e w' => ∃ s r, e = .returned (.bool r) ∧ Ans f n p s ∧
      ((r = true ∧ (f s == en) = false ∧ Jt B w0 w' bd b n f s) ∨ (r = false ∧ (f s == en) = true ∧ Jt B w0 w' bd b n f (s + 1))) := by
  go_enter Try.func27, Try.ntmps27
  go_wp2_with fail
  refine (skip_any B w0 bd b n f p hn hp _ h).mono ?_
  rintro e w1 ⟨rfl, q, q1, q2, q3, q4, hj⟩
  obtain ⟨a1, a2, a3⟩ := dom_at hd q1 q2 q3 q4
  have c0 := hj.c0
  have c1 := hj.c1
  have fz := hj.fz
  have cc := hj.cell a1
  have HA : Hid (∀ i, p ≤ i → i < q → blankB (f i) = true) := q3
  have HB : Hid (f q = 44 → ∃ q2, q < q2 ∧ q2 < n ∧ blankB (f q2) = false) := a3
  have HJ : Hid (Jt B w0 w1 bd b n f q) := hj
  have HN : Hid (blankB (f q) = false) := a2
  have hi : (q : Int) < (n : Int) := by omega
  clear q3 a3 hj q4 hd h a2
  cases hc : (f q == 44)
  · cases he : (f q == en)
    · go_wp2_with fail
      go_quiet (fail)
      go_wp2_with fail
      go_quiet (fail)
      go_wp2_with fail
      go_ret
      have h44 : f q ≠ 44 := by simpa using hc
      exact ⟨q, true, rfl, ⟨q1, a1, HN.out, .inl ⟨h44, HA.out⟩⟩, .inl ⟨rfl, he, (HJ.out.drewN _).drewN _⟩⟩
    · go_wp2_with fail
      go_quiet (fail)
      go_wp2_with fail
      go_quiet (fail)
      go_wp2_with fail
      go_ret
      have h44 : f q ≠ 44 := by simpa using hc
      exact ⟨q, false, rfl, ⟨q1, a1, HN.out, .inl ⟨h44, HA.out⟩⟩, .inr ⟨rfl, he, (HJ.out.drewN _).set (q + 1)⟩⟩
  · go_wp2_with fail
    go_quiet (fail)
    go_wp2_with fail
    refine (skip_any B w0 bd b n f (q + 1) hn (by omega) _ ((HJ.out.drewN _).set (q + 1))).mono ?_
    rintro e w2 ⟨rfl, s, s1, s2, s3, s4, hj2⟩
    have h44 : f q = 44 := by simpa using hc
    obtain ⟨t1, t2⟩ := dom_next (HB.out h44) s1 s2 s3 s4
    have c0' := hj2.c0
    have c1' := hj2.c1
    have fz' := hj2.fz
    have cc' := hj2.cell t1
    have hi' : (s : Int) < (n : Int) := by omega
    have HS : Hid (∀ i, q + 1 ≤ i → i < s → blankB (f i) = true) := s3
    have HJ2 : Hid (Jt B w0 w2 bd b n f s) := hj2
    have HT : Hid (blankB (f s) = false) := t2
    have H44 : Hid (f q = 44) := h44
    clear s3 hj2 s4 t2 h44
    have hans : Hid (Ans f n p s) := ⟨by omega, t1, HT.out, .inr ⟨q, q1, by omega, H44.out, fun i i1 i2 i3 => by
      rcases Nat.lt_or_ge i q with h | h
      · exact HA.out i i1 h
      · exact HS.out i (by omega) i2⟩⟩
    cases he : (f s == en)
    · go_wp2_with fail
      go_quiet (fail)
      go_wp2_with fail
      go_ret
      exact ⟨s, true, rfl, hans.out, .inl ⟨rfl, he, (HJ2.out.drewN _)⟩⟩
    · go_wp2_with fail
      go_quiet (fail)
      go_wp2_with fail
      go_ret
      exact ⟨s, false, rfl, hans.out, .inr ⟨rfl, he, ((HJ2.out.drewN _).set (s + 1))⟩⟩

theorem jt_new {B : Nat} {w0 w : World} {b n : Nat} {f : Nat → Int} {p : Nat} (hb : Below B w0 w) (hB : B ≤ w.heap.size) (hr : w.rowIs b 5 n (fun i => .int .u8 (f i))) :
    Jt B w0 (w.alloc (.cells #[.slice (some ⟨b, 0, none⟩) n n, .int .i64 p] 44)) w.heap.size b n f p :=
  ⟨hb.alloc hB _, hB, Go.Deep.blk_alloc_new _ _, hr.alloc _⟩

set_option maxHeartbeats 400000 in
theorem jsonMore_any (B : Nat) (w0 : World) (b n : Nat) (f : Nat → Int) (p : Nat) (en : Int) (hn : n ≤ 1048576) (hp : p ≤ n) (hd : Dom f n p) (w : World) (hb : Below B w0 w) (hB : B ≤ w.heap.size)
    (hr : w.rowIs b 5 n (fun i => .int .u8 (f i))) :
    Calls Try.prog 18 #[.slice (some ⟨b, 0, none⟩) n n, .int .i64 p, .int .u8 en] w fun e w' => ∃ (s : Nat) (r : Bool) (nx : Nat), e = .returned (.tuple #[.bool r, .int .i64 nx]) ∧ Ans f n p s ∧
      ((r = true ∧ (f s == en) = false ∧ nx = s) ∨ (r = false ∧ (f s == en) = true ∧ nx = s + 1)) ∧ Below B w0 w' ∧ w'.rowIs b 5 n (fun i => .int .u8 (f i)) := by
  go_enter Try.func18, Try.ntmps18
  go_wp2_with fail
  refine (more_any B w0 w.heap.size b n f p en hn hp hd _ (jt_new hb hB hr)).mono ?_
  rintro e w1 ⟨s, r, rfl, ha, ⟨rfl, he, hj⟩ | ⟨rfl, he, hj⟩⟩
  · have c1 := hj.c1
    have HA : Hid (Ans f n p s) := ha
    have HE : Hid ((f s == en) = false) := he
    have HJ : Hid (Jt B w0 w1 w.heap.size b n f s) := hj
    clear ha he hj hd hb hr
    go_wp2_with fail
    go_quiet (fail)
    go_wp2_with fail
    go_ret2
    exact ⟨s, true, s, rfl, HA.out, .inl ⟨rfl, HE.out, rfl⟩, (HJ.out.drewN _).bel, HJ.out.row⟩
  · have c1 := hj.c1
    have HA : Hid (Ans f n p s) := ha
    have HE : Hid ((f s == en) = true) := he
    have HJ : Hid (Jt B w0 w1 w.heap.size b n f (s + 1)) := hj
    clear ha he hj hd hb hr
    go_wp2_with fail
    go_quiet (fail)
    go_wp2_with fail
    go_ret2
    exact ⟨s, false, s + 1, rfl, HA.out, .inr ⟨rfl, HE.out, rfl⟩, (HJ.out.drewN _).bel, HJ.out.row⟩

end Go.Proofs.Qxb6601664a
