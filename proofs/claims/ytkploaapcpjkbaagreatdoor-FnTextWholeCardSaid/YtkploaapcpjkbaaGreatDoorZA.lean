/- Contract: parseIPv4Fields. -/
import Derived.Test.YtkploaapcpjkbaaGreatDoorY0
import Derived.Test.YtkploaapcpjkbaaGreatDoorA3
namespace Go.Proofs.YtkploaapcpjkbaaGreatDoor
open Go Go.RowKit Go.Sort
set_option linter.unusedVariables false
set_option linter.unusedSimpArgs false
attribute [local go_sem] cell_gr

/-- What parseIPv4Fields makes of bytes: a number under way, the numbers before it, how many digits, whether nothing or a point stands ahead. -/
def run4 (v : Int) (fs : List Int) (d : Nat) (st : Bool) : List UInt8 → Option (List Int)
  | [] => if fs.length < 3 then none else some (fs ++ [v])
  | c :: r =>
    if 48 ≤ (c.toNat : Int) ∧ (c.toNat : Int) ≤ 57 then
      if d = 1 ∧ v = 0 then none else
      if 255 < v * 10 + c.toNat - 48 then none else run4 (v * 10 + c.toNat - 48) fs (d + 1) false r
    else if (c.toNat : Int) = 46 then
      if st = true ∨ r = [] then none else if fs.length = 3 then none else run4 0 (fs ++ [v]) 0 true r
    else none

/-- The state of the loop in world wr, of the buffer in block b. -/
structure St4 (l : List UInt8) (b o : Nat) (w : World) (j : Nat) (v : Int) (fs : List Int) (d : Nat) (st : Bool) (wr : World) : Prop where
  hj : j ≤ l.length
  v0 : 0 ≤ v
  v1 : v ≤ 255
  m3 : fs.length ≤ 3
  dj : d ≤ j
  st0 : j = 0 → st = true
  stp : ∀ (h : j - 1 < l.length), 0 < j → ((l[j - 1].toNat : Int) = 46 ↔ st = true)
  old : ∀ i x, fs[i]? = some x → wr.cell? ⟨b, o + i, none⟩ = some (.int .u8 x)
  there : ∀ i, i < 4 → ∃ x, wr.cell? ⟨b, o + i, none⟩ = some x
  free : ∀ i, i < 4 → wr.frozen? ⟨b, o + i, none⟩ = false
  below : Below b w wr
  other : ∀ i, (i < o ∨ o + 4 ≤ i) → wr.cell? ⟨b, i, none⟩ = w.cell? ⟨b, i, none⟩
  frz : ∀ i, wr.frozen? ⟨b, i, none⟩ = w.frozen? ⟨b, i, none⟩
  runs : run4 0 [] 0 true l = run4 v fs d st (l.drop j)

/-- How it ends. -/
def End4 (b o : Nat) (w : World) (R : Option (List Int)) (e : Ending) (w' : World) : Prop :=
  match R with
  | none => (∃ t x, e = .returned (.iface t x)) ∧ Below b w w'
  | some xs => e = .returned .nilIface ∧ Below b w w' ∧ xs.length = 4 ∧ (∀ i x, xs[i]? = some x → w'.cell? ⟨b, o + i, none⟩ = some (.int .u8 x)) ∧ (∀ i, (i < o ∨ o + 4 ≤ i) → w'.cell? ⟨b, i, none⟩ = w.cell? ⟨b, i, none⟩) ∧ (∀ i, w'.frozen? ⟨b, i, none⟩ = w.frozen? ⟨b, i, none⟩)

theorem drop_at (l : List UInt8) (j : Nat) (h : j < l.length) : l.drop j = l[j] :: l.drop (j + 1) := List.drop_eq_getElem_cons h

section
variable {l : List UInt8} {b o : Nat} {w wr : World} {j d : Nat} {v : Int} {fs : List Int} {st : Bool}
/-- A digit is taken. -/
theorem St4.digit (s : St4 l b o w j v fs d st wr) (h : j < l.length) (h1 : 48 ≤ (l[j].toNat : Int)) (h2 : (l[j].toNat : Int) ≤ 57) (h3 : ¬(d = 1 ∧ v = 0)) (h4 : ¬ 255 < v * 10 + l[j].toNat - 48) :
    St4 l b o w (j + 1) (v * 10 + l[j].toNat - 48) fs (d + 1) false wr :=
  ⟨h, by have := s.v0; omega, by omega, s.m3, by have := s.dj; omega, fun h => by omega, fun _ _ => by simp only [Nat.add_sub_cancel]; constructor <;> intro h <;> simp_all, s.old, s.there, s.free, s.below, s.other, s.frz, by
    rw [s.runs, drop_at l j h, run4, if_pos ⟨h1, h2⟩, if_neg h3, if_neg h4]⟩
/-- A point is taken. -/
theorem St4.point (s : St4 l b o w j v fs d st wr) (h : j < l.length) (h1 : (l[j].toNat : Int) = 46) (h2 : st = false) (h3 : j + 1 < l.length) (h4 : fs.length ≠ 3) :
    St4 l b o w (j + 1) 0 (fs ++ [v]) 0 true (wr.setCell ⟨b, o + fs.length, none⟩ (.int .u8 v)) := by
  have m3 := s.m3
  obtain ⟨x0, hx0⟩ := s.there fs.length (by omega)
  refine ⟨h, by omega, by omega, by first | (simp; done) | (simp; omega), by omega, fun h => by omega, fun _ _ => by simp only [Nat.add_sub_cancel]; simp [h1], fun i x hi => ?_, fun i hi => ?_, fun i hi => by rw [World.frozen?_setCell]; exact s.free i hi, s.below.setCell (Nat.le_refl _) _, fun i hi => ?_, fun i => by rw [World.frozen?_setCell]; exact s.frz i, ?_⟩
  · by_cases hil : i < fs.length
    · rw [List.getElem?_append_left hil] at hi
      rw [World.cell?_setCell_other _ _ _ _ (by intro e; simp at e; try omega)]
      exact s.old i x hi
    · rw [List.getElem?_append_right (by omega)] at hi
      have : i - fs.length = 0 := by
        rcases Nat.eq_zero_or_pos (i - fs.length) with h | h
        · exact h
        · rw [List.getElem?_eq_none (by first | (simp; done) | (simp; omega))] at hi; cases hi
      obtain rfl : i = fs.length := by omega
      rw [this] at hi
      obtain rfl : v = x := by simpa using hi
      exact World.cell?_setCell_same _ _ _ hx0
  · by_cases he : i = fs.length
    · subst he; exact ⟨_, World.cell?_setCell_same _ _ _ hx0⟩
    · obtain ⟨x, hx⟩ := s.there i hi
      exact ⟨x, by rw [World.cell?_setCell_other _ _ _ _ (by intro e; simp at e; try omega)]; exact hx⟩
  · rw [World.cell?_setCell_other _ _ _ _ (by intro e; simp at e; try omega)]; exact s.other i hi
  · rw [s.runs, drop_at l j h, run4, if_neg (by omega), if_pos h1, if_neg (by rw [h2]; simp; omega), if_neg h4]
/-- The ways that end in an error. -/
theorem St4.bad_digit (s : St4 l b o w j v fs d st wr) (h : j < l.length) (h1 : 48 ≤ (l[j].toNat : Int)) (h2 : (l[j].toNat : Int) ≤ 57) (h3 : (d = 1 ∧ v = 0) ∨ 255 < v * 10 + l[j].toNat - 48) : run4 0 [] 0 true l = none := by
  rw [s.runs, drop_at l j h, run4, if_pos ⟨h1, h2⟩]
  by_cases hd : d = 1 ∧ v = 0
  · rw [if_pos hd]
  · rw [if_neg hd, if_pos (h3.resolve_left hd)]
theorem St4.bad_point (s : St4 l b o w j v fs d st wr) (h : j < l.length) (h1 : (l[j].toNat : Int) = 46) (h2 : st = true ∨ j + 1 = l.length ∨ fs.length = 3) : run4 0 [] 0 true l = none := by
  rw [s.runs, drop_at l j h, run4, if_neg (by omega), if_pos h1]
  by_cases hs : st = true ∨ l.drop (j + 1) = []
  · rw [if_pos hs]
  · rw [if_neg hs]
    have : fs.length = 3 := by
      rcases h2 with h2 | h2 | h2
      · exact absurd (Or.inl h2) hs
      · exact absurd (Or.inr (List.drop_eq_nil_of_le (by omega))) hs
      · exact h2
    rw [if_pos this]
theorem St4.bad_byte (s : St4 l b o w j v fs d st wr) (h : j < l.length) (h1 : ¬(48 ≤ (l[j].toNat : Int) ∧ (l[j].toNat : Int) ≤ 57)) (h2 : (l[j].toNat : Int) ≠ 46) : run4 0 [] 0 true l = none := by
  rw [s.runs, drop_at l j h, run4, if_neg h1, if_neg h2]
theorem St4.short (s : St4 l b o w j v fs d st wr) (h : j = l.length) (h1 : fs.length < 3) : run4 0 [] 0 true l = none := by
  rw [s.runs, h, List.drop_length, run4, if_pos h1]
theorem St4.full (s : St4 l b o w j v fs d st wr) (h : j = l.length) (h1 : fs.length = 3) : End4 b o w (run4 0 [] 0 true l) (.returned .nilIface) (wr.setCell ⟨b, o + 3, none⟩ (.int .u8 v)) := by
  rw [s.runs, h, List.drop_length, run4, if_neg (by omega)]
  obtain ⟨x0, hx0⟩ := s.there 3 (by omega)
  refine ⟨rfl, s.below.setCell (Nat.le_refl _) _, by simp [h1], fun i x hi => ?_, fun i hi => by rw [World.cell?_setCell_other _ _ _ _ (by intro e; simp at e; try omega)]; exact s.other i hi, fun i => by rw [World.frozen?_setCell]; exact s.frz i⟩
  by_cases hil : i < fs.length
  · rw [List.getElem?_append_left hil] at hi
    rw [World.cell?_setCell_other _ _ _ _ (by intro e; simp at e; try omega)]
    exact s.old i x hi
  · rw [List.getElem?_append_right (by omega)] at hi
    have : i - fs.length = 0 := by
      rcases Nat.eq_zero_or_pos (i - fs.length) with h | h
      · exact h
      · rw [List.getElem?_eq_none (by first | (simp; done) | (simp; omega))] at hi; cases hi
    obtain rfl : i = 3 := by omega
    rw [this] at hi
    obtain rfl : v = x := by simpa using hi
    exact World.cell?_setCell_same _ _ _ hx0
end
end Go.Proofs.YtkploaapcpjkbaaGreatDoor
