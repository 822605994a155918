/- Plain: bytes as lists; groups in hexadecimal with colons between; the text with a run left out. -/
import Derived.Test.YtkploaapcpjkbaaGreatDoorZ1
import Derived.Test.YtkploaapcpjkbaaGreatDoorZ3
import Derived.Test.YtkploaapcpjkbaaGreatDoorC2
import Derived.Lib.Join
import Derived.Lib.Strings
namespace Go.Proofs.YtkploaapcpjkbaaGreatDoor
open Go Go.RowKit Go.Sort
set_option linter.unusedVariables false
set_option linter.unusedSimpArgs false

/-- Bytes as a string. -/
def bs (l : List UInt8) : ByteArray := ⟨l.toArray⟩
theorem bs_append (a b : List UInt8) : bs a ++ bs b = bs (a ++ b) := by
  unfold bs
  apply ByteArray.ext
  simp [ByteArray.data_append]
theorem bs_size (l : List UInt8) : (bs l).size = l.length := by simp [bs, ByteArray.size]
theorem bs_any (l : List UInt8) : (⟨l.toArray⟩ : ByteArray) = bs l := rfl
theorem bs_at (l : List UInt8) (j : Nat) (h : j < (bs l).size) (h' : j < l.length) : (bs l)[j]'h = l[j] := by
  rfl
theorem bs_toList (l : List UInt8) : (bs l).data.toList = l := rfl
theorem bs_inj {a b : List UInt8} (h : bs a = bs b) : a = b := by
  have := congrArg (fun x => x.data.toList) h
  exact this

/-- Bytes as the machine's values. -/
def vals (l : List UInt8) : List Value := l.map fun c => .int .u8 (c.toNat : Int)
theorem vals_append (a b : List UInt8) : vals (a ++ b) = vals a ++ vals b := by simp [vals]
theorem vals_length (a : List UInt8) : (vals a).length = a.length := by simp [vals]

/-- A hexadecimal digit. -/
def hxU (d : Int) : UInt8 := (#[48, 49, 50, 51, 52, 53, 54, 55, 56, 57, 97, 98, 99, 100, 101, 102] : Array UInt8).getD d.toNat 0
theorem hx_eq (d : Int) : hx d = ((hxU d).toNat : Int) := rfl
def hexU (x : Int) : List UInt8 :=
  if 4096 ≤ x then [hxU (x / 4096), hxU (x / 256 % 16), hxU (x / 16 % 16), hxU (x % 16)] else if 256 ≤ x then [hxU (x / 256 % 16), hxU (x / 16 % 16), hxU (x % 16)] else if 16 ≤ x then [hxU (x / 16 % 16), hxU (x % 16)] else [hxU (x % 16)]
theorem hexV_eq (x : Int) : hexV x = vals (hexU x) := by
  unfold hexV hexU; split <;> (try split) <;> (try split) <;> rfl
theorem hexU_len (x : Int) : 1 ≤ (hexU x).length ∧ (hexU x).length ≤ 4 := by unfold hexU; split <;> (try split) <;> (try split) <;> simp
def decU (x : Int) : List UInt8 :=
  if 100 ≤ x then [hxU (x / 100), hxU (x / 10 % 10), hxU (x % 10)] else if 10 ≤ x then [hxU (x / 10 % 10), hxU (x % 10)] else [hxU (x % 10)]
theorem dec_vals (x : Int) : dec x = vals (decU x) := by
  unfold dec decU; split <;> (try split) <;> rfl
theorem decU_len (x : Int) : 1 ≤ (decU x).length ∧ (decU x).length ≤ 3 := by unfold decU; split <;> (try split) <;> simp
/-- Four bytes in decimal with points between. -/
def quadU (lo : Int) : List UInt8 := decU (byteAt lo 3) ++ ([46] ++ (decU (byteAt lo 2) ++ ([46] ++ (decU (byteAt lo 1) ++ ([46] ++ decU (byteAt lo 0))))))
theorem quad_vals (lo : Int) : quad lo = vals (quadU lo) := by
  simp only [quad, quadU, vals_append, dec_vals]; rfl

/-- Texts with colons between. -/
def jn (xs : List (List UInt8)) : List UInt8 := Lib.join xs [58]
theorem jn_nil : jn [] = [] := rfl
theorem jn_one (x : List UInt8) : jn [x] = x := Lib.join_one x [58]
theorem joinTail_append (sep : List UInt8) (a b : List (List UInt8)) : Lib.joinTail sep (a ++ b) = Lib.joinTail sep a ++ Lib.joinTail sep b := by simp [Lib.joinTail]
theorem jn_cons (x : List UInt8) (r : List (List UInt8)) : jn (x :: r) = x ++ Lib.joinTail [58] r := Lib.join_cons x r [58]
theorem jn_snoc (xs : List (List UInt8)) (y : List UInt8) (h : xs ≠ []) : jn (xs ++ [y]) = jn xs ++ ([58] ++ y) := by
  obtain ⟨x, r, rfl⟩ := List.exists_cons_of_ne_nil h
  rw [List.cons_append, jn_cons, jn_cons, joinTail_append, List.append_assoc]
  simp [Lib.joinTail]
theorem jn_cons2 (x : List UInt8) (r : List (List UInt8)) (h : r ≠ []) : jn (x :: r) = x ++ 58 :: jn r := by
  obtain ⟨y, r, rfl⟩ := List.exists_cons_of_ne_nil h
  rw [jn_cons, jn_cons]
  simp [Lib.joinTail]

/-- The groups from a up to b in hexadecimal. -/
def items (G : Nat → Int) (a b : Nat) : List (List UInt8) := (List.range' a (b - a)).map fun i => hexU (G i)
theorem items_nil (G : Nat → Int) (a b : Nat) (h : b ≤ a) : items G a b = [] := by unfold items; rw [show b - a = 0 by omega]; rfl
theorem items_snoc (G : Nat → Int) (a b : Nat) (h : a ≤ b) : items G a (b + 1) = items G a b ++ [hexU (G b)] := by
  unfold items
  rw [show b + 1 - a = (b - a) + 1 by omega, List.range'_concat, List.map_append, List.map_singleton]
  simp only [Nat.one_mul, show a + (b - a) = b by omega]
theorem items_length (G : Nat → Int) (a b : Nat) : (items G a b).length = b - a := by simp [items]
theorem items_ne (G : Nat → Int) (a b : Nat) (h : a < b) : items G a b ≠ [] := by
  intro e; have := items_length G a b; rw [e] at this; simp at this; omega

/-- What is written when the next group is the n-th: the run from zs up to ze is left out. -/
def pre (G : Nat → Int) (zs ze n : Nat) : List UInt8 :=
  if n ≤ zs then jn (items G 0 n) else jn (items G 0 zs) ++ ([58, 58] ++ jn (items G ze n))
theorem pre_0 (G : Nat → Int) (zs ze : Nat) : pre G zs ze 0 = [] := by rw [pre, if_pos (Nat.zero_le _)]; rfl
theorem pre_first (G : Nat → Int) (zs ze : Nat) (h : 0 < zs) : pre G zs ze 1 = hexU (G 0) := by
  rw [pre, if_pos (by omega), items_snoc G 0 0 (by omega)]
  exact jn_one _
theorem pre_next (G : Nat → Int) (zs ze n : Nat) (h : n ≠ zs) (h0 : 0 < n) (h1 : n < zs ∨ ze < n) : pre G zs ze (n + 1) = pre G zs ze n ++ ([58] ++ hexU (G n)) := by
  unfold pre
  by_cases c : n < zs
  · rw [if_pos (by omega), if_pos (by omega), items_snoc G 0 n (by omega), jn_snoc _ _ (items_ne G 0 n h0)]
  · rw [if_neg (by omega), if_neg (by omega), items_snoc G ze n (by omega), jn_snoc _ _ (items_ne G ze n (by omega))]
    simp
theorem pre_gap (G : Nat → Int) (zs ze : Nat) (h : zs < ze) : pre G zs ze (ze + 1) = pre G zs ze zs ++ ([58, 58] ++ hexU (G ze)) := by
  unfold pre
  rw [if_neg (by omega), if_pos (Nat.le_refl _), items_snoc G ze ze (by omega), items_nil G ze ze (Nat.le_refl _)]
  rw [List.nil_append, jn_one]
theorem pre_gap8 (G : Nat → Int) (zs : Nat) (h : zs < 8) : pre G zs 8 8 = pre G zs 8 zs ++ [58, 58] := by
  unfold pre
  rw [if_neg (by omega), if_pos (Nat.le_refl _), items_nil G 8 8 (Nat.le_refl _)]
  rfl
theorem joinTail_len (xs : List (List UInt8)) (h : ∀ x ∈ xs, x.length ≤ 4) : (Lib.joinTail [58] xs).length ≤ 5 * xs.length := by
  induction xs with
  | nil => simp [Lib.joinTail]
  | cons x r ih =>
    have h1 := h x (by simp)
    have h2 := ih (fun y hy => h y (by simp [hy]))
    simp only [Lib.joinTail, List.map_cons, List.flatten_cons, List.length_append, List.length_cons, List.length_nil] at h2 ⊢
    omega
theorem jn_len (xs : List (List UInt8)) (h : ∀ x ∈ xs, x.length ≤ 4) : (jn xs).length ≤ 5 * xs.length := by
  cases xs with
  | nil => simp [jn_nil]
  | cons x r =>
    have h1 := h x (by simp)
    have h2 := joinTail_len r (fun y hy => h y (by simp [hy]))
    rw [jn_cons]
    simp only [List.length_append, List.length_cons]
    omega
theorem items_mem (G : Nat → Int) (a b : Nat) : ∀ x ∈ items G a b, x.length ≤ 4 := by
  intro x hx
  simp only [items, List.mem_map] at hx
  obtain ⟨i, _, rfl⟩ := hx
  exact (hexU_len _).2
theorem pre_len (G : Nat → Int) (zs ze n : Nat) (h : n ≤ zs ∨ zs < ze) (hn : n ≤ 8) : (pre G zs ze n).length ≤ 42 := by
  unfold pre
  split
  · have := jn_len _ (items_mem G 0 n)
    rw [items_length] at this; omega
  · have h1 := jn_len _ (items_mem G 0 zs)
    have h2 := jn_len _ (items_mem G ze n)
    rw [items_length] at h1 h2
    simp only [List.length_append, List.length_cons, List.length_nil]
    omega
end Go.Proofs.YtkploaapcpjkbaaGreatDoor
