import Derived.Test.Qxb6601664aMore2
namespace Go.Proofs.Qxb6601664a
set_option linter.unusedVariables false

/-- A STRING's INSIDE, token by token: from position j on it closes just before e; g steps at most. -/
def Sx (f : Nat → Int) (n : Nat) : Nat → Nat → Nat → Prop
  | 0, _, _ => False
  | g + 1, j, e => j < n ∧ ((f j = 34 ∧ e = j + 1) ∨ (f j = 92 ∧ Sx f n g (j + 2) e) ∨ (f j ≠ 34 ∧ f j ≠ 92 ∧ Sx f n g (j + 1) e))

def SxE (f : Nat → Int) (n j e : Nat) : Prop := ∃ g, Sx f n g j e

theorem Sx.bound {f : Nat → Int} {n : Nat} : ∀ {g j e : Nat}, Sx f n g j e → j < e ∧ e ≤ n ∧ j < n
  | 0, _, _, h => h.elim
  | g + 1, j, e, h => by
    obtain ⟨h1, h2 | h2 | h2⟩ := h
    · exact ⟨by omega, by omega, h1⟩
    · have := Sx.bound h2.2; exact ⟨by omega, by omega, h1⟩
    · have := Sx.bound h2.2.2; exact ⟨by omega, by omega, h1⟩

/-- what zzQuoteEnd knows at position j behind 'run' backslashes -/
def Back (f : Nat → Int) (n i j run : Nat) : Prop := ∀ e, SxE f n (if run % 2 = 0 then j else j + 1) e → SxE f n (i + 1) e

theorem back_start (f : Nat → Int) (n i : Nat) : Back f n i (i + 1) 0 := fun e h => h

theorem back_hit {f : Nat → Int} {n i j run : Nat} (h : Back f n i j run) (hj : j < n) (e0 : run % 2 = 0) (hq : f j = 34) : SxE f n (i + 1) (j + 1) := by
  refine h _ ?_
  rw [if_pos e0]
  exact ⟨1, hj, .inl ⟨hq, rfl⟩⟩

theorem back_slash {f : Nat → Int} {n i j run : Nat} (h : Back f n i j run) (hj : j < n) (hq : f j = 92) : Back f n i (j + 1) (run + 1) := by
  intro e he
  refine h e ?_
  by_cases e0 : run % 2 = 0
  · rw [if_neg (by omega)] at he
    rw [if_pos e0]
    obtain ⟨g, hg⟩ := he
    exact ⟨g + 1, hj, .inr (.inl ⟨hq, hg⟩)⟩
  · rw [if_pos (by omega)] at he
    rw [if_neg e0]
    exact he

theorem back_plain {f : Nat → Int} {n i j run : Nat} (h : Back f n i j run) (hj : j < n) (h92 : f j ≠ 92) (h34 : ¬ (f j = 34 ∧ run % 2 = 0)) : Back f n i (j + 1) 0 := by
  intro e he
  refine h e ?_
  rw [if_pos (by omega)] at he
  by_cases e0 : run % 2 = 0
  · rw [if_pos e0]
    obtain ⟨g, hg⟩ := he
    exact ⟨g + 1, hj, .inr (.inr ⟨fun x => h34 ⟨x, e0⟩, h92, hg⟩)⟩
  · rw [if_neg e0]
    exact he

/-- INSIDE A CONTAINER AT DEPTH d, at position j: the closer that brings the depth to nought stands just before e. -/
def Dx (f : Nat → Int) (n : Nat) : Nat → Nat → Nat → Nat → Prop
  | 0, _, _, _ => False
  | g + 1, j, d, e => j < n ∧
    ((f j = 34 ∧ d ≠ 0 ∧ ∃ q, SxE f n (j + 1) q ∧ Dx f n g q d e) ∨
     ((f j = 123 ∨ f j = 91) ∧ Dx f n g (j + 1) (d + 1) e) ∨
     ((f j = 125 ∨ f j = 93) ∧ ((d = 1 ∧ e = j + 1) ∨ (2 ≤ d ∧ Dx f n g (j + 1) (d - 1) e))) ∨
     (f j ≠ 34 ∧ f j ≠ 123 ∧ f j ≠ 91 ∧ f j ≠ 125 ∧ f j ≠ 93 ∧ d ≠ 0 ∧ Dx f n g (j + 1) d e))

def DxE (f : Nat → Int) (n j d e : Nat) : Prop := ∃ g, Dx f n g j d e

theorem Dx.bound {f : Nat → Int} {n : Nat} : ∀ {g j d e : Nat}, Dx f n g j d e → j < e ∧ e ≤ n ∧ j < n
  | 0, _, _, _, h => h.elim
  | g + 1, j, d, e, h => by
    obtain ⟨h1, ⟨_, _, q, ⟨gs, hs⟩, h2⟩ | h2 | ⟨_, h2 | h2⟩ | h2⟩ := h
    · have a := hs.bound; have c := Dx.bound h2; exact ⟨by omega, by omega, h1⟩
    · have := Dx.bound h2.2; exact ⟨by omega, by omega, h1⟩
    · exact ⟨by omega, by omega, h1⟩
    · have := Dx.bound h2.2; exact ⟨by omega, by omega, h1⟩
    · have := Dx.bound h2.2.2.2.2.2.2; exact ⟨by omega, by omega, h1⟩

/-- what zzContainerEnd(i) = e means -/
def Cx (f : Nat → Int) (n i e : Nat) : Prop := DxE f n (i + 1) 1 e ∧ ∀ d e', DxE f n e (d + 1) e' → DxE f n (i + 1) (d + 2) e'
/-- what its loop knows at position j -/
def Cin (f : Nat → Int) (n i j : Nat) : Prop := ∀ d e, DxE f n j (d + 1) e → DxE f n (i + 1) (d + 1) e

theorem Cx.bound {f : Nat → Int} {n i e : Nat} (h : Cx f n i e) : i + 1 < e ∧ e ≤ n := by
  obtain ⟨⟨g, hg⟩, _⟩ := h
  have := hg.bound
  omega

theorem cin_start (f : Nat → Int) (n i : Nat) : Cin f n i (i + 1) := fun d e h => h

theorem cin_quote {f : Nat → Int} {n i j q : Nat} (h : Cin f n i j) (hj : j < n) (hf : f j = 34) (hs : SxE f n (j + 1) q) : Cin f n i q := by
  intro d e ⟨g, hg⟩
  exact h d e ⟨g + 1, hj, .inl ⟨hf, by omega, q, hs, hg⟩⟩

theorem cin_open {f : Nat → Int} {n i j q : Nat} (h : Cin f n i j) (hj : j < n) (hf : f j = 123 ∨ f j = 91) (hc : Cx f n j q) : Cin f n i q := by
  intro d e he
  obtain ⟨g, hg⟩ := hc.2 d e he
  exact h d e ⟨g + 1, hj, .inr (.inl ⟨hf, hg⟩)⟩

theorem cin_other {f : Nat → Int} {n i j : Nat} (h : Cin f n i j) (hj : j < n) (h1 : f j ≠ 34) (h2 : f j ≠ 123) (h3 : f j ≠ 91) (h4 : f j ≠ 125) (h5 : f j ≠ 93) : Cin f n i (j + 1) := by
  intro d e ⟨g, hg⟩
  exact h d e ⟨g + 1, hj, .inr (.inr (.inr ⟨h1, h2, h3, h4, h5, by omega, hg⟩))⟩

theorem cin_close {f : Nat → Int} {n i j : Nat} (h : Cin f n i j) (hj : j < n) (hf : f j = 125 ∨ f j = 93) : Cx f n i (j + 1) := by
  refine ⟨h 0 _ ⟨1, hj, .inr (.inr (.inl ⟨hf, .inl ⟨rfl, rfl⟩⟩))⟩, ?_⟩
  intro d e ⟨g, hg⟩
  exact h (d + 1) e ⟨g + 1, hj, .inr (.inr (.inl ⟨hf, .inr ⟨by omega, hg⟩⟩))⟩

/-- what ends a literal -/
def enderB (c : Int) : Bool := decide (c = 44 ∨ c = 125 ∨ c = 93 ∨ c = 32 ∨ c = 9 ∨ c = 13 ∨ c = 10)

/-- THE VALUE AT k (behind the blanks) ENDS AT e. -/
def Vx (f : Nat → Int) (n k e : Nat) : Prop :=
  (f k = 34 ∧ SxE f n (k + 1) e) ∨
  ((f k = 123 ∨ f k = 91) ∧ DxE f n k 0 e) ∨
  (f k ≠ 34 ∧ f k ≠ 123 ∧ f k ≠ 91 ∧ k ≤ e ∧ e ≤ n ∧ (∀ i, k ≤ i → i < e → enderB (f i) = false) ∧ (e < n → enderB (f e) = true))

theorem Vx.bound {f : Nat → Int} {n k e : Nat} (h : Vx f n k e) : k ≤ e ∧ e ≤ n := by
  rcases h with ⟨_, g, h⟩ | ⟨_, g, h⟩ | h
  · have := h.bound; omega
  · have := h.bound; omega
  · omega

theorem cx_value {f : Nat → Int} {n k e : Nat} (hk : k < n) (hf : f k = 123 ∨ f k = 91) (h : Cx f n k e) : Vx f n k e := by
  obtain ⟨⟨g, hg⟩, _⟩ := h
  exact .inr (.inl ⟨hf, g + 1, hk, .inr (.inl ⟨hf, hg⟩)⟩)

end Go.Proofs.Qxb6601664a
