/- Plain law: a text of eight groups, a run of zeros left out or none, is read as its bytes. -/
import Derived.Test.YtkploaapcpjkbaaGreatDoorPL
namespace Go.Proofs.YtkploaapcpjkbaaGreatDoor
open Go Go.RowKit Go.Sort
set_option linter.unusedVariables false
set_option linter.unusedSimpArgs false

-- the rests of such texts
def rj (x : List UInt8) : List (List UInt8) → Rest
  | [] => .one x
  | y :: r => .next x (rj y r)
def rq (d : List UInt8) : List (List UInt8) → Rest
  | [] => .quad d
  | x :: r => .next x (rq d r)
def rg (x : List UInt8) (tail : Option Rest) : List (List UInt8) → Rest
  | [] => match tail with
    | none => .oneE x
    | some R => .gap x R
  | y :: r => .next x (rg y tail r)
def B2 (xs : List (List UInt8)) : List Int := (xs.map Rest.two).flatten
theorem B2_cons (x : List UInt8) (xs : List (List UInt8)) : B2 (x :: xs) = Rest.two x ++ B2 xs := by simp [B2]
theorem B2_snoc (xs : List (List UInt8)) (y : List UInt8) : B2 (xs ++ [y]) = B2 xs ++ Rest.two y := by simp [B2]
def tb (tail : Option Rest) : List Int := match tail with | none => [] | some R => R.bytes
def tt (tail : Option Rest) : List UInt8 := match tail with | none => [] | some R => R.text

theorem rj_text (r : List (List UInt8)) : ∀ x, (rj x r).text = jn (x :: r) := by
  induction r with
  | nil => intro x; exact (jn_one x).symm
  | cons y r ih => intro x; rw [rj, Rest.text, ih y, jn_cons2 x (y :: r) (by simp)]
theorem rq_text (d : List UInt8) (r : List (List UInt8)) : (rq d r).text = jn (r ++ [d]) := by
  induction r with
  | nil => exact (jn_one d).symm
  | cons x r ih => rw [rq, Rest.text, ih, List.cons_append, jn_cons2 x (r ++ [d]) (by simp)]
theorem rg_text (tail : Option Rest) (r : List (List UInt8)) : ∀ x, (rg x tail r).text = jn (x :: r) ++ [58, 58] ++ tt tail := by
  induction r with
  | nil => intro x; cases tail <;> simp [rg, Rest.text, jn_one, tt]
  | cons y r ih => intro x; rw [rg, Rest.text, ih y, jn_cons2 x (y :: r) (by simp)]; simp
theorem rj_bytes (r : List (List UInt8)) : ∀ x, (rj x r).bytes = B2 (x :: r) := by
  induction r with
  | nil => intro x; simp [rj, Rest.bytes, B2]
  | cons y r ih => intro x; rw [rj, Rest.bytes, ih y, B2_cons x]
theorem rq_bytes (d : List UInt8) (xs : List Int) (h : run4 0 [] 0 true d = some xs) (r : List (List UInt8)) : (rq d r).bytes = B2 r ++ xs := by
  induction r with
  | nil => simp [rq, Rest.bytes, B2, h]
  | cons x r ih => rw [rq, Rest.bytes, ih, B2_cons x]; simp
theorem rg_bytes (tail : Option Rest) (r : List (List UInt8)) : ∀ x, (rg x tail r).bytes = B2 (x :: r) ++ tb tail := by
  induction r with
  | nil => intro x; cases tail <;> simp [rg, Rest.bytes, B2, tb]
  | cons y r ih => intro x; rw [rg, Rest.bytes, ih y, B2_cons x]; simp
theorem rj_ell (r : List (List UInt8)) : ∀ x i, (rj x r).ell i = none := by
  induction r with
  | nil => intro x i; rfl
  | cons y r ih => intro x i; exact ih y _
theorem rq_ell (d : List UInt8) (r : List (List UInt8)) : ∀ i, (rq d r).ell i = none := by
  induction r with
  | nil => intro i; rfl
  | cons y r ih => intro i; exact ih _
theorem rg_ell (tail : Option Rest) (r : List (List UInt8)) : ∀ x i, (rg x tail r).ell i = some (i + 2 * (r.length + 1)) := by
  induction r with
  | nil => intro x i; cases tail <;> rfl
  | cons y r ih => intro x i; rw [rg, Rest.ell, ih y]; congr 1; simp only [List.length_cons]; omega
theorem rj_ok (r : List (List UInt8)) : ∀ x s i, (∀ d ∈ x :: r, Item d) → (rj x r).Ok s i := by
  induction r with
  | nil => intro x s i h; exact h x (by simp)
  | cons y r ih => intro x s i h; exact ⟨h x (by simp), ih y s _ (fun d hd => h d (by simp at hd ⊢; right; exact hd))⟩
theorem rq_ok (d : List UInt8) (hd : ∀ s i, (s = true ∨ i = 12) → (Rest.quad d).Ok s i) (r : List (List UInt8)) : ∀ s i, (∀ d ∈ r, Item d) → (s = true ∨ i + 2 * r.length = 12) → (rq d r).Ok s i := by
  induction r with
  | nil => intro s i _ h; exact hd s i (by simpa using h)
  | cons x r ih => intro s i h hs; exact ⟨h x (by simp), ih s _ (fun d hd => h d (by simp [hd])) (hs.imp id fun hs => by simp only [List.length_cons] at hs; omega)⟩
theorem rg_ok (tail : Option Rest) (r : List (List UInt8)) : ∀ x i, (∀ d ∈ x :: r, Item d) → (∀ R, tail = some R → ∀ i, R.Ok true i) → (rg x tail r).Ok false i := by
  induction r with
  | nil =>
    intro x i h ht
    cases tail with
    | none => exact ⟨h x (by simp), rfl⟩
    | some R => exact ⟨h x (by simp), rfl, ht R rfl _⟩
  | cons y r ih => intro x i h ht; exact ⟨h x (by simp), ih y _ (fun d hd => h d (by simp at hd ⊢; right; exact hd)) ht⟩
theorem quadU_ok (lo : Int) (s : Bool) (i : Nat) (h : s = true ∨ i = 12) : (Rest.quad (quadU lo)).Ok s i :=
  ⟨⟨_, run4_quadU lo, rfl⟩, ⟨decU (byteAt lo 3), _, by unfold quadU; rfl, decU_item _ (byteAt_bd lo 3).1 (byteAt_bd lo 3).2⟩, h⟩

/-- What stands behind the two colons. -/
def tailOf (K : List (List UInt8)) (q : Option Int) : Option Rest :=
  match q with
  | some lo => some (rq (quadU lo) K)
  | none => match K with
    | [] => none
    | y :: r => some (rj y r)
def ql (q : Option Int) : List (List UInt8) := match q with | some lo => [quadU lo] | none => []
def qb (q : Option Int) : List Int := match q with | some lo => [byteAt lo 3, byteAt lo 2, byteAt lo 1, byteAt lo 0] | none => []
theorem tailOf_text (K : List (List UInt8)) (q : Option Int) : tt (tailOf K q) = jn (K ++ ql q) := by
  cases q with
  | some lo => exact rq_text _ _
  | none =>
    cases K with
    | nil => rfl
    | cons y r => rw [tailOf, tt, rj_text]; simp [ql]
theorem tailOf_bytes (K : List (List UInt8)) (q : Option Int) : tb (tailOf K q) = B2 K ++ qb q := by
  cases q with
  | some lo => exact rq_bytes _ _ (run4_quadU lo) _
  | none =>
    cases K with
    | nil => rfl
    | cons y r => rw [tailOf, tb, rj_bytes]; simp [qb]
theorem tailOf_ok (K : List (List UInt8)) (q : Option Int) (h : ∀ d ∈ K, Item d) : ∀ R, tailOf K q = some R → ∀ i, R.Ok true i := by
  intro R hR i
  cases q with
  | some lo => cases hR; exact rq_ok _ (quadU_ok lo) K true i h (.inl rfl)
  | none =>
    cases K with
    | nil => cases hR
    | cons y r => cases hR; exact rj_ok r y true i h

-- bytes
def pb (hi lo : Int) (s n : Nat) : List Int := (List.range n).map fun j => pairF hi lo (s + j)
theorem pb_length (hi lo : Int) (s n : Nat) : (pb hi lo s n).length = n := by simp [pb]
theorem pb_succ (hi lo : Int) (s n : Nat) : pb hi lo s (n + 1) = pb hi lo s n ++ [pairF hi lo (s + n)] := by simp [pb, List.range_succ]
theorem pb_getD (hi lo : Int) (s n j : Nat) (h : j < n) : (pb hi lo s n).getD j 0 = pairF hi lo (s + j) := by
  simp [pb, List.getD_eq_getElem?_getD, h]
theorem two_pair (hi lo : Int) (i : Nat) (h : i < 8) (d : List UInt8) (hd : (hv d : Int) = grp hi lo i) : Rest.two d = [pairF hi lo (2 * i), pairF hi lo (2 * i + 1)] := by
  unfold Rest.two
  rw [hd]
  match i, h with
  | 0, _ | 1, _ | 2, _ | 3, _ | 4, _ | 5, _ | 6, _ | 7, _ =>
    simp only [grp, pairF, byteAt, Nat.reduceLT, Nat.reduceMul, Nat.reduceAdd, Nat.reduceSub, if_true, if_false, Int.reducePow]
    congr 1
    · omega
    · congr 1; omega
  | n + 8, h => exact absurd h (by omega)
theorem B2_texts (hi lo : Int) (t : Nat → List UInt8) (ht : ∀ i, i < 8 → (hv (t i) : Int) = grp hi lo i) (s n : Nat) (h : s + n ≤ 8) : B2 (texts (fun j => t (s + j)) n) = pb hi lo (2 * s) (2 * n) := by
  induction n with
  | zero => rfl
  | succ n ih =>
    rw [texts_succ, B2_snoc, ih (by omega), two_pair hi lo (s + n) (by omega) _ (ht _ (by omega)), show 2 * (n + 1) = 2 * n + 1 + 1 by omega, pb_succ, pb_succ, List.append_assoc]
    rw [show 2 * (s + n) = 2 * s + 2 * n by omega]; rfl
theorem pb_add (hi lo : Int) (s n m : Nat) : pb hi lo s n ++ pb hi lo (s + n) m = pb hi lo s (n + m) := by
  induction m with
  | zero => simp [pb]
  | succ m ih => rw [show n + (m + 1) = (n + m) + 1 by omega, pb_succ, pb_succ, ← List.append_assoc, ih, show s + n + m = s + (n + m) by omega]
theorem qb_pb (hi lo : Int) : qb (some lo) = pb hi lo 12 4 := by
  simp [qb, pb, List.range_succ, pairF]
/-- A zero group's bytes. -/
theorem pair_zero (hi lo : Int) (i : Nat) (h : i < 8) (hz : grp hi lo i = 0) : pairF hi lo (2 * i) = 0 ∧ pairF hi lo (2 * i + 1) = 0 := by
  match i, h, hz with
  | 0, _, hz | 1, _, hz | 2, _, hz | 3, _, hz | 4, _, hz | 5, _, hz | 6, _, hz | 7, _, hz =>
    simp only [grp, Nat.reduceLT, Nat.reduceMul, Nat.reduceAdd, Nat.reduceSub, if_true, if_false, Int.reducePow] at hz
    simp only [pairF, byteAt, Nat.reduceLT, Nat.reduceMul, Nat.reduceAdd, Nat.reduceSub, if_true, if_false, Int.reducePow]
    constructor <;> omega
  | n + 8, h, _ => exact absurd h (by omega)

theorem num_congr (f g : Nat → Int) (n : Nat) (h : ∀ i, i < n → f i = g i) : num f n = num g n := by
  induction n with
  | zero => rfl
  | succ n ih => rw [num, num, ih (fun i hi => h i (by omega)), h n (by omega)]
/-- The bytes, spread. -/
theorem spread_all (hi lo : Int) (j : Nat) (hj : j < 16) : spread (pb hi lo 0 16) none j = pairF hi lo j := by
  rw [spread, pb_getD _ _ _ _ _ hj, Nat.zero_add]
theorem spread_run (hi lo : Int) (a l : Nat) (h : a + l ≤ 8) (hz : ∀ i, a ≤ i → i < a + l → grp hi lo i = 0) (j : Nat) (hj : j < 16) :
    spread (pb hi lo 0 (2 * a) ++ pb hi lo (2 * (a + l)) (16 - 2 * (a + l))) (some (2 * a)) j = pairF hi lo j := by
  have hl : (pb hi lo 0 (2 * a) ++ pb hi lo (2 * (a + l)) (16 - 2 * (a + l))).length = 16 - 2 * l := by rw [List.length_append, pb_length, pb_length]; omega
  unfold spread
  simp only [hl]
  by_cases h1 : j < 2 * a
  · rw [if_pos h1, List.getD_eq_getElem?_getD, List.getElem?_append_left (by rw [pb_length]; exact h1), ← List.getD_eq_getElem?_getD, pb_getD _ _ _ _ _ h1, Nat.zero_add]
  · rw [if_neg h1]
    by_cases h2 : j < 2 * a + (16 - (16 - 2 * l))
    · rw [if_pos h2]
      obtain ⟨e1, e2⟩ := pair_zero hi lo (j / 2) (by omega) (hz (j / 2) (by omega) (by omega))
      rcases Nat.mod_two_eq_zero_or_one j with e | e
      · rw [show 2 * (j / 2) = j by omega] at e1; exact e1.symm
      · rw [show 2 * (j / 2) + 1 = j by omega] at e2; exact e2.symm
    · rw [if_neg h2, List.getD_eq_getElem?_getD, List.getElem?_append_right (by rw [pb_length]; omega), ← List.getD_eq_getElem?_getD, pb_length, pb_getD _ _ _ _ _ (by omega)]
      congr 1; omega
theorem bytes_spread (F : List Int) (E : Option Nat) (h : ∀ x ∈ F, 0 ≤ x ∧ x < 256) : Bytes (spread F E) := by
  have g : ∀ j, 0 ≤ F.getD j 0 ∧ F.getD j 0 < 256 := by
    intro j
    rw [List.getD_eq_getElem?_getD]
    cases hq : (F)[j]? with
    | none => simp
    | some x => exact h x (List.mem_of_getElem? hq)
  intro j
  unfold spread
  cases E with
  | none => exact g j
  | some p =>
    simp only
    split
    · exact g j
    · split
      · omega
      · exact g _
theorem pb_mem (hi lo : Int) (s n : Nat) : ∀ x ∈ pb hi lo s n, 0 ≤ x ∧ x < 256 := by
  intro x hx
  simp only [pb, List.mem_map] at hx
  obtain ⟨j, _, rfl⟩ := hx
  exact pairF_bd hi lo _
end Go.Proofs.YtkploaapcpjkbaaGreatDoor
