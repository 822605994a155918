/- Plain law: a text of eight groups, a run of zeros left out or none, is read as its bytes: its parts. -/
import Derived.Test.YtkploaapcpjkbaaGreatDoorZD
import Derived.Test.YtkploaapcpjkbaaGreatDoorY8
namespace Go.Proofs.YtkploaapcpjkbaaGreatDoor
open Go Go.RowKit Go.Sort
set_option linter.unusedVariables false
set_option linter.unusedSimpArgs false

-- figures
theorem hxU_hex (d : Int) (h0 : 0 ≤ d) (h1 : d < 16) : IsHx (hxU d) ∧ (dv (hxU d) : Int) = d ∧ IsHx (Lib.upperB (hxU d)) ∧ dv (Lib.upperB (hxU d)) = dv (hxU d) := by
  obtain ⟨n, rfl⟩ := Int.eq_ofNat_of_zero_le h0
  have H : ∀ n, n < 16 → ((48 ≤ (hxU ((n : Nat) : Int)).toNat ∧ (hxU ((n : Nat) : Int)).toNat ≤ 57) ∨ (97 ≤ (hxU ((n : Nat) : Int)).toNat ∧ (hxU ((n : Nat) : Int)).toNat ≤ 102) ∨ (65 ≤ (hxU ((n : Nat) : Int)).toNat ∧ (hxU ((n : Nat) : Int)).toNat ≤ 70)) ∧ dv (hxU ((n : Nat) : Int)) = n ∧ ((48 ≤ (Lib.upperB (hxU ((n : Nat) : Int))).toNat ∧ (Lib.upperB (hxU ((n : Nat) : Int))).toNat ≤ 57) ∨ (97 ≤ (Lib.upperB (hxU ((n : Nat) : Int))).toNat ∧ (Lib.upperB (hxU ((n : Nat) : Int))).toNat ≤ 102) ∨ (65 ≤ (Lib.upperB (hxU ((n : Nat) : Int))).toNat ∧ (Lib.upperB (hxU ((n : Nat) : Int))).toNat ≤ 70)) ∧ dv (Lib.upperB (hxU ((n : Nat) : Int))) = dv (hxU ((n : Nat) : Int)) := by decide +kernel
  obtain ⟨a, b, c, d⟩ := H n (by omega)
  exact ⟨a, by rw [b], c, d⟩
/-- A text of figures and what it is worth, in small and in large figures. -/
def Fig (l : List UInt8) : Prop := (∀ c ∈ l, IsHx c ∧ IsHx (Lib.upperB c) ∧ dv (Lib.upperB c) = dv c)
theorem fig_hx (d : Int) (h0 : 0 ≤ d) (h1 : d < 16) : IsHx (hxU d) ∧ IsHx (Lib.upperB (hxU d)) ∧ dv (Lib.upperB (hxU d)) = dv (hxU d) := by
  obtain ⟨a, _, c, e⟩ := hxU_hex d h0 h1; exact ⟨a, c, e⟩
theorem hexU_fig (x : Int) (h0 : 0 ≤ x) (h1 : x < 65536) : Fig (hexU x) ∧ (hv (hexU x) : Int) = x := by
  have D : ∀ d : Int, 0 ≤ d → d < 16 → (dv (hxU d) : Int) = d := fun d h0 h1 => (hxU_hex d h0 h1).2.1
  unfold hexU
  split
  · refine ⟨fun c hc => ?_, ?_⟩
    · simp only [List.mem_cons, List.not_mem_nil, or_false] at hc
      rcases hc with rfl | rfl | rfl | rfl <;> exact fig_hx _ (by omega) (by omega)
    · simp only [hv, List.foldl_cons, List.foldl_nil]
      have := D (x / 4096) (by omega) (by omega); have := D (x / 256 % 16) (by omega) (by omega); have := D (x / 16 % 16) (by omega) (by omega); have := D (x % 16) (by omega) (by omega)
      push_cast; omega
  · split
    · refine ⟨fun c hc => ?_, ?_⟩
      · simp only [List.mem_cons, List.not_mem_nil, or_false] at hc
        rcases hc with rfl | rfl | rfl <;> exact fig_hx _ (by omega) (by omega)
      · simp only [hv, List.foldl_cons, List.foldl_nil]
        have := D (x / 256 % 16) (by omega) (by omega); have := D (x / 16 % 16) (by omega) (by omega); have := D (x % 16) (by omega) (by omega)
        push_cast; omega
    · split
      · refine ⟨fun c hc => ?_, ?_⟩
        · simp only [List.mem_cons, List.not_mem_nil, or_false] at hc
          rcases hc with rfl | rfl <;> exact fig_hx _ (by omega) (by omega)
        · simp only [hv, List.foldl_cons, List.foldl_nil]
          have := D (x / 16 % 16) (by omega) (by omega); have := D (x % 16) (by omega) (by omega)
          push_cast; omega
      · refine ⟨fun c hc => ?_, ?_⟩
        · simp only [List.mem_cons, List.not_mem_nil, or_false] at hc
          subst hc; exact fig_hx _ (by omega) (by omega)
        · simp only [hv, List.foldl_cons, List.foldl_nil]
          have := D (x % 16) (by omega) (by omega)
          push_cast; omega
theorem hv_zeros (k : Nat) (l : List UInt8) : hv (List.replicate k 48 ++ l) = hv l := by
  induction k with
  | zero => rfl
  | succ k ih =>
    rw [← ih]
    rw [List.replicate_succ, List.cons_append]
    simp only [hv, List.foldl_cons]
    rfl
theorem hv_upper (l : List UInt8) (h : Fig l) : hv (Lib.toUpperA l) = hv l := by
  have H : ∀ (l : List UInt8) (a : Nat), (∀ c ∈ l, dv (Lib.upperB c) = dv c) → (l.map Lib.upperB).foldl (fun a c => a * 16 + dv c) a = l.foldl (fun a c => a * 16 + dv c) a := by
    intro l
    induction l with
    | nil => intro a _; rfl
    | cons c l ih =>
      intro a h
      simp only [List.map_cons, List.foldl_cons]
      rw [h c (by simp)]
      exact ih _ (fun x hx => h x (by simp [hx]))
  exact H l 0 (fun c hc => (h c hc).2.2)
theorem hexU_item (x : Int) (h0 : 0 ≤ x) (h1 : x < 65536) : Item (hexU x) ∧ (hv (hexU x) : Int) = x := by
  obtain ⟨a, b⟩ := hexU_fig x h0 h1
  exact ⟨⟨(hexU_len x).1, (hexU_len x).2, fun c hc => (a c hc).1⟩, b⟩
theorem formU_item (x way : Int) (h0 : 0 ≤ x) (h1 : x < 65536) (hw : 0 ≤ way) : Item (formU x way) ∧ (hv (formU x way) : Int) = x := by
  obtain ⟨a, b⟩ := hexU_fig x h0 h1
  have z := zform_len x way hw
  have f : Fig (zform x way) := by
    intro c hc
    unfold zform at hc
    rcases List.mem_append.1 hc with h | h
    · rw [(List.mem_replicate.1 h).2]
      exact ⟨.inl ⟨by decide, by decide⟩, .inl ⟨by decide, by decide⟩, by decide⟩
    · exact a c h
  have v : (hv (zform x way) : Int) = x := by unfold zform; rw [hv_zeros]; exact b
  unfold formU
  split
  · refine ⟨⟨by rw [upper_len]; exact z.1, by rw [upper_len]; exact z.2, fun c hc => ?_⟩, by rw [hv_upper _ f]; exact v⟩
    simp only [Lib.toUpperA, List.mem_map] at hc
    obtain ⟨x, hx, rfl⟩ := hc
    exact (f x hx).2.1
  · exact ⟨⟨z.1, z.2, fun c hc => (f c hc).1⟩, v⟩

-- four bytes in decimal
theorem hxU_dec (n : Nat) (hn : n < 10) : (hxU (n : Int)).toNat = 48 + n := by
  have H : ∀ n, n < 10 → (hxU ((n : Nat) : Int)).toNat = 48 + n := by decide +kernel
  exact H n hn
theorem run4_hx (v : Int) (fs : List Int) (d : Nat) (st : Bool) (n : Int) (h0 : 0 ≤ n) (h1 : n < 10) (r : List UInt8) :
    run4 v fs d st (hxU n :: r) = if d = 1 ∧ v = 0 then none else if 255 < v * 10 + n then none else run4 (v * 10 + n) fs (d + 1) false r := by
  obtain ⟨m, rfl⟩ := Int.eq_ofNat_of_zero_le h0
  have e := hxU_dec m (by omega)
  rw [run4, if_pos (by rw [e]; omega), e]
  have e2 : v * 10 + ((48 + m : Nat) : Int) - 48 = v * 10 + m := by omega
  rw [e2]
theorem run4_dot (v : Int) (fs : List Int) (d : Nat) (r : List UInt8) (hr : r ≠ []) (hf : fs.length ≠ 3) : run4 v fs d false (46 :: r) = run4 0 (fs ++ [v]) 0 true r := by
  have e : ((46 : UInt8).toNat : Int) = 46 := rfl
  rw [run4, if_neg (by rw [e]; omega), if_pos e, if_neg (by simp [hr]), if_neg hf]
theorem run4_end (v : Int) (fs : List Int) (d : Nat) (hf : fs.length = 3) : run4 v fs d false [] = some (fs ++ [v]) := by
  rw [run4, if_neg (by omega)]
theorem run4_dec (x : Int) (h0 : 0 ≤ x) (h1 : x < 256) (fs : List Int) (r : List UInt8) : ∃ d, run4 0 fs 0 true (decU x ++ r) = run4 x fs d false r := by
  unfold decU
  by_cases a : 100 ≤ x
  · refine ⟨3, ?_⟩
    rw [if_pos a]
    simp only [List.cons_append, List.nil_append]
    rw [run4_hx _ _ _ _ _ (by omega) (by omega), if_neg (by omega), if_neg (by omega), run4_hx _ _ _ _ _ (by omega) (by omega), if_neg (by omega), if_neg (by omega), run4_hx _ _ _ _ _ (by omega) (by omega), if_neg (by omega), if_neg (by omega)]
    congr 1; omega
  · by_cases b : 10 ≤ x
    · refine ⟨2, ?_⟩
      rw [if_neg a, if_pos b]
      simp only [List.cons_append, List.nil_append]
      rw [run4_hx _ _ _ _ _ (by omega) (by omega), if_neg (by omega), if_neg (by omega), run4_hx _ _ _ _ _ (by omega) (by omega), if_neg (by omega), if_neg (by omega)]
      congr 1; omega
    · refine ⟨1, ?_⟩
      rw [if_neg a, if_neg b]
      simp only [List.cons_append, List.nil_append]
      rw [run4_hx _ _ _ _ _ (by omega) (by omega), if_neg (by omega), if_neg (by omega)]
      congr 1; omega
theorem decU_ne (x : Int) : decU x ≠ [] := by unfold decU; split <;> (try split) <;> simp
theorem run4_quadU (lo : Int) : run4 0 [] 0 true (quadU lo) = some [byteAt lo 3, byteAt lo 2, byteAt lo 1, byteAt lo 0] := by
  unfold quadU
  have b := byteAt_bd lo
  simp only [List.singleton_append]
  obtain ⟨d, e⟩ := run4_dec (byteAt lo 3) (b 3).1 (b 3).2 [] (46 :: (decU (byteAt lo 2) ++ 46 :: (decU (byteAt lo 1) ++ 46 :: decU (byteAt lo 0))))
  rw [e, run4_dot _ _ _ _ (by simp [decU_ne]) (by simp)]
  obtain ⟨d, e⟩ := run4_dec (byteAt lo 2) (b 2).1 (b 2).2 ([] ++ [byteAt lo 3]) (46 :: (decU (byteAt lo 1) ++ 46 :: decU (byteAt lo 0)))
  rw [e, run4_dot _ _ _ _ (by simp [decU_ne]) (by simp)]
  obtain ⟨d, e⟩ := run4_dec (byteAt lo 1) (b 1).1 (b 1).2 ([] ++ [byteAt lo 3] ++ [byteAt lo 2]) (46 :: decU (byteAt lo 0))
  rw [e, run4_dot _ _ _ _ (decU_ne _) (by simp)]
  obtain ⟨d, e⟩ := run4_dec (byteAt lo 0) (b 0).1 (b 0).2 ([] ++ [byteAt lo 3] ++ [byteAt lo 2] ++ [byteAt lo 1]) []
  rw [List.append_nil] at e
  rw [e, run4_end _ _ _ (by simp)]
  rfl
theorem decU_item (x : Int) (h0 : 0 ≤ x) (h1 : x < 256) : Item (decU x) := by
  have l := decU_len x
  refine ⟨l.1, by omega, fun c hc => ?_⟩
  unfold decU at hc
  split at hc
  · simp only [List.mem_cons, List.not_mem_nil, or_false] at hc
    rcases hc with rfl | rfl | rfl <;> exact (hxU_hex _ (by omega) (by omega)).1
  · split at hc
    · simp only [List.mem_cons, List.not_mem_nil, or_false] at hc
      rcases hc with rfl | rfl <;> exact (hxU_hex _ (by omega) (by omega)).1
    · simp only [List.mem_cons, List.not_mem_nil, or_false] at hc
      subst hc; exact (hxU_hex _ (by omega) (by omega)).1
end Go.Proofs.YtkploaapcpjkbaaGreatDoor
