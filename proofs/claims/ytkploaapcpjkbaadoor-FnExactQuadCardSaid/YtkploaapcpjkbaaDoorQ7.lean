/- Plain law: what parseIPv4Fields makes of the reference's text of four numbers. -/
import Derived.Test.YtkploaapcpjkbaaDoorQ3
namespace Go.Proofs.YtkploaapcpjkbaaDoor
open Go Go.RowKit Go.Sort
set_option linter.unusedVariables false
set_option linter.unusedSimpArgs false

def dg (n : Nat) : UInt8 := UInt8.ofNat (48 + n)
theorem dg_toNat (n : Nat) (h : n < 10) : (dg n).toNat = 48 + n := by
  unfold dg
  rw [UInt8.toNat_ofNat']
  omega
theorem itoa_1 (x : Int) (h0 : 0 ≤ x) (h1 : x < 10) : Lib.itoa x = [dg x.toNat] := by
  unfold Lib.itoa; rw [if_neg (by omega), Lib.decDigits, dif_pos (by omega)]; rfl
theorem itoa_2 (x : Int) (h0 : 10 ≤ x) (h1 : x < 100) : Lib.itoa x = [dg (x.toNat / 10), dg (x.toNat % 10)] := by
  unfold Lib.itoa; rw [if_neg (by omega), Lib.decDigits, dif_neg (by omega), Lib.decDigits, dif_pos (by omega)]; rfl
theorem itoa_3 (x : Int) (h0 : 100 ≤ x) (h1 : x < 1000) : Lib.itoa x = [dg (x.toNat / 10 / 10), dg (x.toNat / 10 % 10), dg (x.toNat % 10)] := by
  unfold Lib.itoa; rw [if_neg (by omega), Lib.decDigits, dif_neg (by omega), Lib.decDigits, dif_neg (by omega), Lib.decDigits, dif_pos (by omega)]; rfl

theorem run4_dg (v : Int) (fs : List Int) (d : Nat) (st : Bool) (n : Nat) (hn : n < 10) (r : List UInt8) :
    run4 v fs d st (dg n :: r) = if d = 1 ∧ v = 0 then none else if 255 < v * 10 + n then none else run4 (v * 10 + n) fs (d + 1) false r := by
  have e := dg_toNat n hn
  rw [run4, if_pos (by rw [e]; omega), e]
  have e2 : v * 10 + ((48 + n : Nat) : Int) - 48 = v * 10 + n := by omega
  rw [e2]
theorem run4_dot (v : Int) (fs : List Int) (d : Nat) (r : List UInt8) (hr : r ≠ []) (hf : fs.length ≠ 3) : run4 v fs d false (46 :: r) = run4 0 (fs ++ [v]) 0 true r := by
  have e : ((46 : UInt8).toNat : Int) = 46 := rfl
  rw [run4, if_neg (by rw [e]; omega), if_pos e, if_neg (by simp [hr]), if_neg hf]
theorem run4_end (v : Int) (fs : List Int) (d : Nat) (hf : fs.length = 3) : run4 v fs d false [] = some (fs ++ [v]) := by
  rw [run4, if_neg (by omega)]

/-- A number as it is written. -/
def piece (z : Bool) (x : Int) : List UInt8 := (if z then [48] else []) ++ Lib.itoa x
theorem itoa_head (x : Int) (h0 : 0 ≤ x) (h1 : x < 1000) : ∃ n, n < 10 ∧ ∃ r, Lib.itoa x = dg n :: r := by
  by_cases a : x < 10
  · exact ⟨_, by omega, _, itoa_1 x h0 a⟩
  · by_cases b : x < 100
    · exact ⟨_, by omega, _, itoa_2 x (by omega) b⟩
    · exact ⟨_, by omega, _, itoa_3 x (by omega) h1⟩
theorem piece_good (x : Int) (h0 : 0 ≤ x) (h1 : x < 256) (fs : List Int) (r : List UInt8) : ∃ d, run4 0 fs 0 true (piece false x ++ r) = run4 x fs d false r := by
  unfold piece
  simp only [Bool.false_eq_true, if_false, List.nil_append]
  by_cases a : x < 10
  · refine ⟨1, ?_⟩
    rw [itoa_1 x h0 a, List.singleton_append, run4_dg _ _ _ _ _ (by omega), if_neg (by omega), if_neg (by omega)]
    congr 1; omega
  · by_cases b : x < 100
    · refine ⟨2, ?_⟩
      rw [itoa_2 x (by omega) b]
      simp only [List.cons_append, List.nil_append]
      rw [run4_dg _ _ _ _ _ (by omega), if_neg (by omega), if_neg (by omega), run4_dg _ _ _ _ _ (by omega), if_neg (by omega), if_neg (by omega)]
      congr 1; omega
    · refine ⟨3, ?_⟩
      rw [itoa_3 x (by omega) (by omega)]
      simp only [List.cons_append, List.nil_append]
      rw [run4_dg _ _ _ _ _ (by omega), if_neg (by omega), if_neg (by omega), run4_dg _ _ _ _ _ (by omega), if_neg (by omega), if_neg (by omega), run4_dg _ _ _ _ _ (by omega), if_neg (by omega), if_neg (by omega)]
      congr 1; omega
theorem piece_bad (z : Bool) (x : Int) (h0 : 0 ≤ x) (h1 : x < 300) (hb : z = true ∨ 256 ≤ x) (fs : List Int) (r : List UInt8) : run4 0 fs 0 true (piece z x ++ r) = none := by
  unfold piece
  cases z
  · have hb : 256 ≤ x := hb.resolve_left (by simp)
    simp only [Bool.false_eq_true, if_false, List.nil_append]
    rw [itoa_3 x (by omega) (by omega)]
    simp only [List.cons_append, List.nil_append]
    rw [run4_dg _ _ _ _ _ (by omega), if_neg (by omega), if_neg (by omega), run4_dg _ _ _ _ _ (by omega), if_neg (by omega), if_neg (by omega), run4_dg _ _ _ _ _ (by omega), if_neg (by omega), if_pos (by omega)]
  · obtain ⟨n, hn, t, e⟩ := itoa_head x h0 (by omega)
    have e48 : (48 : UInt8) = dg 0 := rfl
    simp only [if_true, e, List.cons_append, List.nil_append]
    rw [e48, run4_dg _ _ _ _ _ (by omega), if_neg (by omega), if_neg (by omega), run4_dg _ _ _ _ _ hn, if_pos ⟨rfl, rfl⟩]
theorem piece_ne (z : Bool) (x : Int) (h0 : 0 ≤ x) (h1 : x < 300) : piece z x ≠ [] := by
  obtain ⟨n, hn, t, e⟩ := itoa_head x h0 (by omega)
  unfold piece
  rw [e]
  cases z <;> simp

theorem qtext_eq (a : Nat → Int) (z : Nat → Bool) : qtext a z 4 = piece (z 0) (a 0 % 300) ++ (46 :: (piece (z 1) (a 1 % 300) ++ (46 :: (piece (z 2) (a 2 % 300) ++ (46 :: piece (z 3) (a 3 % 300)))))) := by
  simp only [qtext, piece, if_true, List.nil_append, List.append_assoc, show ¬ (1 : Nat) = 0 by omega, show ¬ (2 : Nat) = 0 by omega, show ¬ (3 : Nat) = 0 by omega, if_false, List.cons_append]

theorem qok_eq (a : Nat → Int) (z : Nat → Bool) : qok a z 4 = ((!z 0 && decide (a 0 % 300 < 256)) && ((!z 1 && decide (a 1 % 300 < 256)) && ((!z 2 && decide (a 2 % 300 < 256)) && (!z 3 && decide (a 3 % 300 < 256))))) := by
  simp only [qok, Bool.true_and, Bool.and_assoc]

theorem good_or (z : Bool) (x : Int) : (!z && decide (x < 256)) = true ∧ z = false ∧ x < 256 ∨ (!z && decide (x < 256)) = false ∧ (z = true ∨ 256 ≤ x) := by
  cases z
  · by_cases h : x < 256
    · exact .inl ⟨by simp [h], rfl, h⟩
    · exact .inr ⟨by simp [h], .inr (by omega)⟩
  · exact .inr ⟨by simp, .inl rfl⟩

/-- THE LAW. -/
theorem run4_quad (a : Nat → Int) (z : Nat → Bool) : run4 0 [] 0 true (qtext a z 4) = if qok a z 4 then some [a 0 % 300, a 1 % 300, a 2 % 300, a 3 % 300] else none := by
  have x0 : ∀ k, 0 ≤ a k % 300 ∧ a k % 300 < 300 := fun k => by omega
  rw [qtext_eq, qok_eq]
  rcases good_or (z 0) (a 0 % 300) with ⟨g, hz, hx⟩ | ⟨g, hb⟩
  · rw [g, hz, Bool.true_and]
    obtain ⟨d, e⟩ := piece_good (a 0 % 300) (x0 0).1 hx [] (46 :: (piece (z 1) (a 1 % 300) ++ (46 :: (piece (z 2) (a 2 % 300) ++ (46 :: piece (z 3) (a 3 % 300))))))
    rw [e, run4_dot _ _ _ _ (by simp [piece_ne (z 1) (a 1 % 300) (x0 1).1 (x0 1).2]) (by simp)]
    rcases good_or (z 1) (a 1 % 300) with ⟨g, hz, hx⟩ | ⟨g, hb⟩
    · rw [g, hz, Bool.true_and]
      obtain ⟨d, e⟩ := piece_good (a 1 % 300) (x0 1).1 hx ([] ++ [a 0 % 300]) (46 :: (piece (z 2) (a 2 % 300) ++ (46 :: piece (z 3) (a 3 % 300))))
      rw [e, run4_dot _ _ _ _ (by simp [piece_ne (z 2) (a 2 % 300) (x0 2).1 (x0 2).2]) (by simp)]
      rcases good_or (z 2) (a 2 % 300) with ⟨g, hz, hx⟩ | ⟨g, hb⟩
      · rw [g, hz, Bool.true_and]
        obtain ⟨d, e⟩ := piece_good (a 2 % 300) (x0 2).1 hx ([] ++ [a 0 % 300] ++ [a 1 % 300]) (46 :: piece (z 3) (a 3 % 300))
        rw [e, run4_dot _ _ _ _ (piece_ne (z 3) (a 3 % 300) (x0 3).1 (x0 3).2) (by simp)]
        rcases good_or (z 3) (a 3 % 300) with ⟨g, hz, hx⟩ | ⟨g, hb⟩
        · rw [g, hz, if_pos rfl]
          obtain ⟨d, e⟩ := piece_good (a 3 % 300) (x0 3).1 hx ([] ++ [a 0 % 300] ++ [a 1 % 300] ++ [a 2 % 300]) []
          rw [List.append_nil] at e
          rw [e, run4_end _ _ _ (by simp)]
          simp
        · rw [g, if_neg (by simp)]
          have e := piece_bad (z 3) (a 3 % 300) (x0 3).1 (x0 3).2 hb ([] ++ [a 0 % 300] ++ [a 1 % 300] ++ [a 2 % 300]) []
          rwa [List.append_nil] at e
      · rw [g, Bool.false_and, if_neg (by simp)]; exact piece_bad _ _ (x0 2).1 (x0 2).2 hb _ _
    · rw [g, Bool.false_and, if_neg (by simp)]; exact piece_bad _ _ (x0 1).1 (x0 1).2 hb _ _
  · rw [g, Bool.false_and, if_neg (by simp)]; exact piece_bad _ _ (x0 0).1 (x0 0).2 hb _ _

/-- The first byte that is no digit is a point. -/
theorem piece_digits (z : Bool) (x : Int) (h0 : 0 ≤ x) (h1 : x < 300) : ∀ c ∈ piece z x, 48 ≤ c.toNat ∧ c.toNat ≤ 57 := by
  have D : ∀ n, n < 10 → 48 ≤ (dg n).toNat ∧ (dg n).toNat ≤ 57 := fun n h => by rw [dg_toNat n h]; omega
  have I : ∀ c ∈ Lib.itoa x, 48 ≤ c.toNat ∧ c.toNat ≤ 57 := by
    intro c hc
    by_cases a : x < 10
    · rw [itoa_1 x h0 a] at hc
      simp only [List.mem_cons, List.not_mem_nil, or_false] at hc
      subst hc; exact D _ (by omega)
    · by_cases b : x < 100
      · rw [itoa_2 x (by omega) b] at hc
        simp only [List.mem_cons, List.not_mem_nil, or_false] at hc
        rcases hc with rfl | rfl <;> exact D _ (by omega)
      · rw [itoa_3 x (by omega) (by omega)] at hc
        simp only [List.mem_cons, List.not_mem_nil, or_false] at hc
        rcases hc with rfl | rfl | rfl <;> exact D _ (by omega)
  intro c hc
  unfold piece at hc
  rcases List.mem_append.1 hc with h | h
  · cases z
    · simp at h
    · simp only [if_true, List.mem_cons, List.not_mem_nil, or_false] at h
      subst h; decide
  · exact I c h
end Go.Proofs.YtkploaapcpjkbaaDoor
