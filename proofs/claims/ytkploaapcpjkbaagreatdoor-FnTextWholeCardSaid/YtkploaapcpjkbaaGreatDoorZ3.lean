/- Contract: appendTo6: first part: the plain mirror of its first loop. -/
import Derived.Test.YtkploaapcpjkbaaGreatDoorZ2
namespace Go.Proofs.YtkploaapcpjkbaaGreatDoor
open Go Go.RowKit Go.Sort
set_option linter.unusedVariables false
set_option linter.unusedSimpArgs false

/-- Where the zeros from n on end. -/
def zgo (G : Nat → Int) : Nat → Nat → Nat
  | 0, n => n
  | f + 1, n => if G n = 0 then zgo G f (n + 1) else n
def zend (G : Nat → Int) (n : Nat) : Nat := zgo G (8 - n) n
theorem zend_step (G : Nat → Int) (n : Nat) (h : n < 8) (h0 : G n = 0) : zend G n = zend G (n + 1) := by
  unfold zend
  rw [show 8 - n = (8 - (n + 1)) + 1 by omega, zgo, if_pos h0]
theorem zend_stop (G : Nat → Int) (n : Nat) (h : n < 8) (h0 : G n ≠ 0) : zend G n = n := by
  unfold zend
  rw [show 8 - n = (8 - (n + 1)) + 1 by omega, zgo, if_neg h0]
theorem zend_8 (G : Nat → Int) : zend G 8 = 8 := rfl
theorem zgo_bd (G : Nat → Int) : ∀ f n, n ≤ zgo G f n ∧ zgo G f n ≤ n + f
  | 0, n => ⟨Nat.le_refl _, Nat.le_refl _⟩
  | f + 1, n => by
    rw [zgo]
    split
    · have := zgo_bd G f (n + 1); omega
    · omega
theorem zend_bd (G : Nat → Int) (n : Nat) (h : n ≤ 8) : n ≤ zend G n ∧ zend G n ≤ 8 := by
  have := zgo_bd G (8 - n) n
  unfold zend; omega

/-- The first of the longest runs of two zeros or more, among those that begin below n; (255, 255) if there is none. -/
def best (G : Nat → Int) : Nat → Nat × Nat
  | 0 => (255, 255)
  | n + 1 => if 2 ≤ zend G n - n ∧ (best G n).2 - (best G n).1 < zend G n - n then (n, zend G n) else best G n
theorem best_bd (G : Nat → Int) (n : Nat) (h : n ≤ 8) : best G n = (255, 255) ∨ ((best G n).1 < (best G n).2 ∧ (best G n).2 ≤ 8 ∧ (best G n).1 < n) := by
  induction n with
  | zero => exact .inl rfl
  | succ n ih =>
    have hz := zend_bd G n (by omega)
    rw [best]
    split
    · rename_i c
      exact .inr ⟨by show n < zend G n; omega, hz.2, by show n < n + 1; omega⟩
    · rcases ih (by omega) with h | h
      · exact .inl h
      · exact .inr ⟨h.1, h.2.1, by omega⟩
end Go.Proofs.YtkploaapcpjkbaaGreatDoor
