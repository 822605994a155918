/- Plain: hexadecimal figures; the rest of a text of an address of 16 bytes. -/
import Derived.Test.YtkploaapcpjkbaaGreatDoorZA
namespace Go.Proofs.YtkploaapcpjkbaaGreatDoor
open Go Go.RowKit Go.Sort
set_option linter.unusedVariables false
set_option linter.unusedSimpArgs false

/-- What a figure is worth. -/
def dv (c : UInt8) : Nat := if c.toNat ≤ 57 then c.toNat - 48 else if 97 ≤ c.toNat then c.toNat - 87 else c.toNat - 55
def IsHx (c : UInt8) : Prop := (48 ≤ c.toNat ∧ c.toNat ≤ 57) ∨ (97 ≤ c.toNat ∧ c.toNat ≤ 102) ∨ (65 ≤ c.toNat ∧ c.toNat ≤ 70)
theorem dv_lt (c : UInt8) (h : IsHx c) : dv c < 16 := by
  unfold dv; rcases h with h | h | h <;> (split <;> (try split) <;> omega)
def hv (l : List UInt8) : Nat := l.foldl (fun a c => a * 16 + dv c) 0
theorem hv_snoc (l : List UInt8) (c : UInt8) : hv (l ++ [c]) = hv l * 16 + dv c := by simp [hv]
theorem hv_take (l : List UInt8) (j : Nat) (h : j < l.length) : hv (l.take (j + 1)) = hv (l.take j) * 16 + dv l[j] := by
  rw [List.take_succ_eq_append_getElem h, hv_snoc]
theorem hv_lt : ∀ (l : List UInt8), (∀ c ∈ l, IsHx c) → hv l < 16 ^ l.length := by
  intro l
  rcases List.eq_nil_or_concat l with rfl | ⟨l', c, rfl⟩
  · intro _; decide
  · intro h
    rw [List.concat_eq_append] at h ⊢
    have h1 := hv_lt l' (fun x hx => h x (by simp [hx]))
    have h2 := dv_lt c (h c (by simp))
    rw [hv_snoc, List.length_append, List.length_singleton, Nat.pow_succ]
    omega
termination_by l => l.length
decreasing_by simp_all

/-- A group as it is written. -/
structure Item (d : List UInt8) : Prop where
  l1 : 1 ≤ d.length
  l4 : d.length ≤ 4
  hx : ∀ c ∈ d, IsHx c
theorem hv_bd {d : List UInt8} (h : Item d) : hv d < 65536 := by
  have h1 := hv_lt d h.hx
  have h2 : 16 ^ d.length ≤ 16 ^ 4 := Nat.pow_le_pow_right (by decide) h.l4
  omega
theorem hv_take_lt {d : List UInt8} (h : Item d) (j : Nat) (hj : j ≤ 3) : hv (d.take j) < 4096 := by
  have h1 := hv_lt (d.take j) (fun c hc => h.hx c (List.mem_of_mem_take hc))
  have h3 : (d.take j).length ≤ 3 := by rw [List.length_take]; omega
  have h2 : 16 ^ (d.take j).length ≤ 16 ^ 3 := Nat.pow_le_pow_right (by decide) h3
  omega

inductive Rest where
  | one (d : List UInt8)
  | oneE (d : List UInt8)
  | quad (d : List UInt8)
  | next (d : List UInt8) (r : Rest)
  | gap (d : List UInt8) (r : Rest)
namespace Rest
def text : Rest → List UInt8
  | one d => d
  | oneE d => d ++ [58, 58]
  | quad d => d
  | next d r => d ++ 58 :: r.text
  | gap d r => d ++ 58 :: 58 :: r.text
def two (d : List UInt8) : List Int := [(hv d : Int) / 256, (hv d : Int) % 256]
def bytes : Rest → List Int
  | one d => two d
  | oneE d => two d
  | quad d => (run4 0 [] 0 true d).getD []
  | next d r => two d ++ r.bytes
  | gap d r => two d ++ r.bytes
def ell : Rest → Nat → Option Nat
  | one _, _ => none
  | oneE _, i => some (i + 2)
  | quad _, _ => none
  | next _ r, i => r.ell (i + 2)
  | gap _ _, i => some (i + 2)
def Ok : Rest → Bool → Nat → Prop
  | one d, _, _ => Item d
  | oneE d, seen, _ => Item d ∧ seen = false
  | quad d, seen, i => (∃ xs, run4 0 [] 0 true d = some xs ∧ xs.length = 4) ∧ (∃ x y, d = x ++ 46 :: y ∧ Item x) ∧ (seen = true ∨ i = 12)
  | next d r, seen, i => Item d ∧ r.Ok seen (i + 2)
  | gap d r, seen, i => Item d ∧ seen = false ∧ r.Ok true (i + 2)
theorem bytes_two {r : Rest} {s : Bool} {i : Nat} (h : r.Ok s i) : 2 ≤ r.bytes.length := by
  cases r with
  | one d => exact Nat.le_refl _
  | oneE d => exact Nat.le_refl _
  | quad d => obtain ⟨⟨xs, e, h4⟩, _⟩ := h; rw [bytes, e]; show 2 ≤ xs.length; omega
  | next d r => simp [bytes, two]
  | gap d r => simp [bytes, two]
/-- The first group, and what stands behind it. -/
theorem split {r : Rest} {s : Bool} {i : Nat} (h : r.Ok s i) : ∃ x y, r.text = x ++ y ∧ Item x ∧ (y = [] ∨ (∃ t, y = 58 :: t) ∨ (∃ t, y = 46 :: t)) := by
  cases r with
  | one d => exact ⟨d, [], by simp [text], h, .inl rfl⟩
  | oneE d => exact ⟨d, [58, 58], rfl, h.1, .inr (.inl ⟨_, rfl⟩)⟩
  | quad d => obtain ⟨_, ⟨x, y, e, hi⟩, _⟩ := h; exact ⟨x, 46 :: y, e, hi, .inr (.inr ⟨_, rfl⟩)⟩
  | next d r => exact ⟨d, 58 :: r.text, rfl, h.1, .inr (.inl ⟨_, rfl⟩)⟩
  | gap d r => exact ⟨d, 58 :: 58 :: r.text, rfl, h.1, .inr (.inl ⟨_, rfl⟩)⟩
theorem text_ne {r : Rest} {s : Bool} {i : Nat} (h : r.Ok s i) : r.text ≠ [] := by
  obtain ⟨x, y, e, hi, _⟩ := split h
  intro e2; rw [e2] at e
  have := hi.l1
  have h0 := congrArg List.length e
  simp at h0; omega
theorem text_head {r : Rest} {s : Bool} {i : Nat} (h : r.Ok s i) : ∃ c t, r.text = c :: t ∧ IsHx c := by
  obtain ⟨x, y, e, hi, _⟩ := split h
  match x, hi, e with
  | [], hi, _ => exact absurd hi.l1 (by simp)
  | c :: x, hi, e => exact ⟨c, x ++ y, by rw [e]; rfl, hi.hx c (by simp)⟩
end Rest

/-- Where the ellipsis stands, as the code keeps it. -/
def ev : Option Nat → Int
  | none => -1
  | some p => p
/-- The bytes with the run of zeros in its place. -/
def spread (F : List Int) (E : Option Nat) (j : Nat) : Int :=
  match E with
  | none => F.getD j 0
  | some p => if j < p then F.getD j 0 else if j < p + (16 - F.length) then 0 else F.getD (j - (16 - F.length)) 0

/-- How the outer loop of parseIPv6 stands. -/
structure P6 (L : List UInt8) (b : Nat) (w0 : World) (F : List Int) (E : Option Nat) (r : Rest) (i : Nat) (e : Option Nat) (fs : List Int) (wr : World) : Prop where
  ok : r.Ok e.isSome i
  len : fs.length = i
  all : F = fs ++ r.bytes
  most : F.length ≤ 16
  ell : E = e.or (r.ell i)
  suf : ∃ pr, L = pr ++ r.text
  small : ∀ p, e = some p → p ≤ i
  cells : ∀ j, j < 16 → wr.cell? ⟨b, j, none⟩ = some (.int .u8 (fs.getD j 0))
  free : ∀ j, wr.frozen? ⟨b, j, none⟩ = w0.frozen? ⟨b, j, none⟩
  below : Below b w0 wr
/-- How it leaves it. -/
structure Q6 (b : Nat) (w0 : World) (F : List Int) (wr : World) : Prop where
  cells : ∀ j, j < 16 → wr.cell? ⟨b, j, none⟩ = some (.int .u8 (F.getD j 0))
  free : ∀ j, wr.frozen? ⟨b, j, none⟩ = w0.frozen? ⟨b, j, none⟩
  below : Below b w0 wr
end Go.Proofs.YtkploaapcpjkbaaGreatDoor
