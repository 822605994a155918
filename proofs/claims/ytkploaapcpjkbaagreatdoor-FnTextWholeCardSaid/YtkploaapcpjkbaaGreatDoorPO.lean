/- impl.Parse at the texts; the reference's Form. -/
import Derived.Test.YtkploaapcpjkbaaGreatDoorPN
namespace Go.Proofs.YtkploaapcpjkbaaGreatDoor
open Go Go.RowKit Go.Sort
set_option linter.unusedVariables false
set_option linter.unusedSimpArgs false
attribute [local go_sem] cell_gr

theorem ftext_eq (G : Nat → Int) (way : Int) (many a l : Nat) (T : List (List UInt8)) : ftext G way many a l T = gtext (fm G way) many a l T := rfl

/-- Its first colon stands behind figures alone. -/
theorem gtext_colon {G : Nat → Int} {t : Nat → List UInt8} {a l : Nat} {q : Option Int} (ht : ∀ i, Item (t i)) (hr : Run G (manyOf q) a l) : ∃ x y, gtext t (manyOf q) a l (ql q) = x ++ 58 :: y ∧ ∀ c ∈ x, IsHx c := by
  rcases hr with ⟨rfl, rfl⟩ | ⟨h1, h2, _⟩
  · have hLt : gtext t (manyOf q) 8 0 (ql q) = jn (texts t (manyOf q) ++ ql q) := by
      unfold gtext
      simp only [Nat.lt_irrefl, if_false, List.append_nil]
      have hm : manyOf q ≤ 8 := by cases q <;> simp [manyOf]
      rw [show min (manyOf q) 8 = manyOf q by omega, show manyOf q - (8 + 0) = 0 by omega]
      simp [texts, jn_nil]
    rw [hLt]
    cases q with
    | none =>
      have e : texts t 8 = t 0 :: texts (fun j => t (1 + j)) 7 := texts_cons t 7
      rw [show manyOf none = 8 from rfl, e, List.cons_append, jn_cons2 _ _ (by simp [texts, List.range_succ])]
      exact ⟨_, _, rfl, (ht 0).hx⟩
    | some z =>
      have e : texts t 6 = t 0 :: texts (fun j => t (1 + j)) 5 := texts_cons t 5
      rw [show manyOf (some z) = 6 from rfl, e, List.cons_append, jn_cons2 _ _ (by simp [texts, List.range_succ])]
      exact ⟨_, _, rfl, (ht 0).hx⟩
  · have hm : manyOf q ≤ 8 := by cases q <;> simp [manyOf]
    have ha8 : a < 8 := by omega
    unfold gtext
    simp only [if_pos ha8, List.append_nil]
    rw [show min (manyOf q) a = a by omega]
    by_cases ha0 : a = 0
    · subst ha0
      exact ⟨[], _, rfl, by simp⟩
    · obtain ⟨n, rfl⟩ : ∃ n, a = n + 1 := ⟨a - 1, by omega⟩
      rw [texts_cons]
      by_cases hn : n = 0
      · subst hn
        rw [show texts (fun j => t (1 + j)) 0 = [] from rfl, jn_one, List.append_assoc]
        exact ⟨t 0, _, rfl, (ht 0).hx⟩
      · obtain ⟨m, rfl⟩ : ∃ m, n = m + 1 := ⟨n - 1, by omega⟩
        rw [jn_cons2 _ _ (by simp [texts, List.range_succ]), List.append_assoc, List.append_assoc]
        exact ⟨t 0, _, rfl, (ht 0).hx⟩

theorem parse_shape {hi lo : Int} {t : Nat → List UInt8} {a l : Nat} {q : Option Int} (hh : 0 ≤ hi) (hh2 : hi < 18446744073709551616) (hl : 0 ≤ lo) (hl2 : lo < 18446744073709551616) (ht : ∀ i, Item (t i)) (hv' : ∀ i, i < 8 → (hv (t i) : Int) = grp hi lo i) (hr : Run (grp hi lo) (manyOf q) a l) (hq : q = none ∨ q = some lo) :
    Ret 6 #[.string (bs (gtext t (manyOf q) a l (ql q)))] (.tuple #[.agg #[.bool true, .int .u64 (hi), .int .u64 (lo)], .bool true]) := by
  obtain ⟨x, y, e, hx⟩ := gtext_colon ht hr
  have hlen := gtext_len (q := q) (a := a) (l := l) ht
  have H := fun w => shape6 hh hh2 hl hl2 ht hv' hr hq w
  rw [e] at hlen H ⊢
  refine parse_ok6 _ hi lo hh hh2 hl hl2 (Lib.hid fun w => ?_)
  refine parseAddr6 (x ++ 58 :: y) _ (Lib.hid rfl) (by rw [bs_size]; omega) x.length (by simp) (Lib.hid fun i h hi => ?_) (Lib.hid ?_) hi lo H w
  · have : (x ++ 58 :: y)[i] = x[i] := List.getElem_append_left hi
    rw [this]
    exact hx_plain (hx _ (List.getElem_mem hi))
  · have : (x ++ 58 :: y)[x.length]'(by simp) = 58 := by rw [List.getElem_append_right (Nat.le_refl _)]; simp
    rw [this]; rfl

-- the text of an address
theorem zend_zero (G : Nat → Int) : ∀ f n j, n ≤ j → j < zgo G f n → G j = 0
  | 0, n, j, h1, h2 => absurd h2 (by rw [zgo]; omega)
  | f + 1, n, j, h1, h2 => by
    rw [zgo] at h2
    split at h2
    · rename_i h
      by_cases e : j = n
      · rw [e]; exact h
      · exact zend_zero G f (n + 1) j (by omega) h2
    · omega
theorem best_zero (G : Nat → Int) (n : Nat) (h : n ≤ 8) : ∀ j, (best G n).1 ≤ j → j < (best G n).2 → G j = 0 := by
  induction n with
  | zero => intro j h1 h2; simp [best] at h1 h2; omega
  | succ n ih =>
    intro j h1 h2
    rw [best] at h1 h2
    split at h1
    · rename_i c
      rw [if_pos c] at h2
      exact zend_zero G _ n j h1 h2
    · rename_i c
      rw [if_neg c] at h2
      exact ih (by omega) j h1 h2
theorem text_shape (hi lo : Int) : ∃ a l q, Run (grp hi lo) (manyOf q) a l ∧ (q = none ∨ q = some lo) ∧ textU hi lo = gtext (fun i => hexU (grp hi lo i)) (manyOf q) a l (ql q) := by
  unfold textU
  by_cases hm : mappedB hi lo = true
  · rw [if_pos hm]
    have h := hm
    simp only [mappedB, Bool.and_eq_true, beq_iff_eq] at h
    obtain ⟨rfl, h2⟩ := h
    have e : ∀ i, i < 5 → grp 0 lo i = 0 := fun i hi => by
      match i, hi with
      | 0, _ | 1, _ | 2, _ | 3, _ => simp [grp]
      | 4, _ => simp [grp]; omega
      | n + 5, h => exact absurd h (by omega)
    have e5 : grp 0 lo 5 = 65535 := by simp [grp]; omega
    refine ⟨0, 5, some lo, .inr ⟨by omega, by simp [manyOf], fun j _ hj => e j (by omega)⟩, .inr rfl, ?_⟩
    have z5 : hexU 65535 = [102, 102, 102, 102] := by decide +kernel
    have hs : ∀ x y : List UInt8, jn [x, y] = x ++ 58 :: y := fun x y => by rw [jn_cons2 x [y] (by simp), jn_one]
    simp only [gtext, manyOf, ql, mapU, texts, Nat.min_zero, List.range_zero, List.map_nil, List.nil_append, show (0 : Nat) < 8 by omega, if_true, show 6 - (0 + 5) = 1 by omega, List.range_one, List.map_cons, Nat.zero_add, Nat.add_zero, e5, z5, jn_nil, List.cons_append, hs]
  · rw [if_neg hm]
    rcases best_bd (grp hi lo) 8 (Nat.le_refl _) with h | ⟨h1, h2, h3⟩
    · refine ⟨8, 0, none, .inl ⟨rfl, rfl⟩, .inl rfl, ?_⟩
      unfold sixU
      rw [h, pre, if_pos (by decide), items_zero]
      simp only [gtext, manyOf, ql, Nat.lt_irrefl, if_false, List.append_nil, Nat.min_self, Nat.sub_self, Nat.add_zero]
      simp [texts, jn_nil]
    · refine ⟨(best (grp hi lo) 8).1, (best (grp hi lo) 8).2 - (best (grp hi lo) 8).1, none, .inr ⟨by omega, by simp only [manyOf]; omega, fun j hj1 hj2 => best_zero _ 8 (Nat.le_refl _) j hj1 (by omega)⟩, .inl rfl, ?_⟩
      unfold sixU
      rw [pre, if_neg (by omega), items_zero, items_texts]
      have e : (best (grp hi lo) 8).1 + ((best (grp hi lo) 8).2 - (best (grp hi lo) 8).1) = (best (grp hi lo) 8).2 := by omega
      simp only [gtext, manyOf, ql, if_pos (show (best (grp hi lo) 8).1 < 8 by omega), List.append_nil, e, show min 8 (best (grp hi lo) 8).1 = (best (grp hi lo) 8).1 by omega, List.append_assoc]
theorem parse_text6 (hi lo : Int) (hh : 0 ≤ hi) (hh2 : hi < 18446744073709551616) (hl : 0 ≤ lo) (hl2 : lo < 18446744073709551616) :
    Ret 6 #[.string (bs (textU hi lo))] (.tuple #[.agg #[.bool true, .int .u64 (hi), .int .u64 (lo)], .bool true]) := by
  obtain ⟨a, l, q, hr, hq, e⟩ := text_shape hi lo
  rw [e]
  exact parse_shape hh hh2 hl hl2 (fun i => (hexU_item _ (grp_bd hi lo i).1 (grp_bd hi lo i).2).1) (fun i _ => (hexU_item _ (grp_bd hi lo i).1 (grp_bd hi lo i).2).2) hr hq
/-- What Form writes is read back. -/
theorem form6 (hi lo way : Int) (hh : 0 ≤ hi) (hh2 : hi < 18446744073709551616) (hl : 0 ≤ lo) (hl2 : lo < 18446744073709551616) (hw : 0 ≤ way) (hw2 : way < 18446744073709551616) (w : World) (hT : Laid w) :
    Calls Tryz.prog 7 #[.agg #[.bool true, .int .u64 (hi), .int .u64 (lo)], .int .u64 way] w fun e w' => (∃ S, Ret 6 #[.string S] (.tuple #[.agg #[.bool true, .int .u64 (hi), .int .u64 (lo)], .bool true]) ∧ e = .returned (.string S)) ∧ Below w.heap.size w w' := by
  have hd : ∀ i, 0 ≤ way / 2 ^ (6 * i) := fun i => Int.ediv_nonneg hw (by exact_mod_cast Nat.zero_le _)
  have ht : ∀ i, Item (fm (grp hi lo) way i) := fun i => (formU_item _ _ (grp_bd hi lo i).1 (grp_bd hi lo i).2 (hd i)).1
  have hv' : ∀ i, i < 8 → (hv (fm (grp hi lo) way i) : Int) = grp hi lo i := fun i _ => (formU_item _ _ (grp_bd hi lo i).1 (grp_bd hi lo i).2 (hd i)).2
  cases h60 : (way / 1152921504606846976 % 2 == 1)
  · refine (form8_any hi lo way w hh hh2 hl hl2 hw hw2 hT h60).mono fun e w' ⟨⟨a, l, hr, he⟩, hb⟩ => ⟨⟨_, ?_, he⟩, hb⟩
    exact parse_shape (q := none) hh hh2 hl hl2 ht hv' hr (.inl rfl)
  · refine (form6_any hi lo way w hh hh2 hl hl2 hw hw2 hT h60).mono fun e w' ⟨⟨a, l, hr, he⟩, hb⟩ => ⟨⟨_, ?_, he⟩, hb⟩
    exact parse_shape (q := some lo) hh hh2 hl hl2 ht hv' hr (.inr rfl)

-- four bytes
theorem parse_text4 (lo : Int) (h0 : 0 ≤ lo) (h1 : lo < 4294967296) :
    Ret 6 #[.string (bs (quadU lo))] (.tuple #[.agg #[.bool false, .int .u64 (0), .int .u64 (lo)], .bool true]) := by
  have hb := byteAt_bd lo
  have hlen : (quadU lo).length ≤ 15 := by have := quad_len lo; rwa [quad_vals, vals_length] at this
  have hS : (bs (quadU lo)).size ≤ 1000 := by rw [bs_size]; omega
  have hn : byteAt lo 3 * 16777216 + byteAt lo 2 * 65536 + byteAt lo 1 * 256 + byteAt lo 0 = lo := bytes4 lo h0 h1
  have e : quadU lo = decU (byteAt lo 3) ++ 46 :: (decU (byteAt lo 2) ++ 46 :: (decU (byteAt lo 1) ++ 46 :: decU (byteAt lo 0))) := by unfold quadU; simp
  have hdg : ∀ c ∈ decU (byteAt lo 3), 48 ≤ c.toNat ∧ c.toNat ≤ 57 := by
    have D : ∀ n : Int, 0 ≤ n → n < 10 → 48 ≤ (hxU n).toNat ∧ (hxU n).toNat ≤ 57 := fun n h0 h1 => by
      obtain ⟨m, rfl⟩ := Int.eq_ofNat_of_zero_le h0
      rw [hxU_dec m (by omega)]; omega
    have b3 := hb 3
    intro c hc
    unfold decU at hc
    split at hc
    · simp only [List.mem_cons, List.not_mem_nil, or_false] at hc
      rcases hc with rfl | rfl | rfl <;> exact D _ (by omega) (by omega)
    · split at hc
      · simp only [List.mem_cons, List.not_mem_nil, or_false] at hc
        rcases hc with rfl | rfl <;> exact D _ (by omega) (by omega)
      · simp only [List.mem_cons, List.not_mem_nil, or_false] at hc
        subst hc; exact D _ (by omega) (by omega)
  have hp : (decU (byteAt lo 3)).length < (quadU lo).length := by rw [e]; simp
  intro w
  refine parse_ok _ lo h0 h1 (Lib.hid fun w => ?_) w
  refine parseAddr_of (quadU lo) _ (Lib.hid rfl) hS (decU (byteAt lo 3)).length hp (Lib.hid fun i h hi => ?_) (Lib.hid ?_) _ true (fun r => r = .nilIface) (fun w => ?_) w
  · have : (quadU lo)[i] = (decU (byteAt lo 3))[i] := by simp only [e]; exact List.getElem_append_left hi
    rw [this]; exact hdg _ (List.getElem_mem hi)
  · have : (quadU lo)[(decU (byteAt lo 3)).length]'hp = 46 := by simp only [e]; rw [List.getElem_append_right (Nat.le_refl _)]; simp
    rw [this]; rfl
  · have H := parse4_ok (quadU lo) (bs (quadU lo)) (Lib.hid rfl) w hS _ _ _ _ (hb 3) (hb 2) (hb 1) (hb 0) (Lib.hid (run4_quadU lo))
    rw [hn] at H
    exact H.mono fun e w' ⟨he, hb⟩ => ⟨⟨_, rfl, he⟩, hb⟩
theorem form4 (hi lo way : Int) (h0 : 0 ≤ lo) (h1 : lo < 18446744073709551616) (w : World) (hT : Laid w) :
    Calls Tryz.prog 7 #[.agg #[.bool false, .int .u64 (hi), .int .u64 (lo)], .int .u64 way] w fun e w' => e = .returned (.string (bs (quadU lo))) ∧ Below w.heap.size w w' := by
  have HB0 := (Below.refl w.heap.size w).alloc (Nat.le_refl _) (.cells #[.bool false, .int .u64 hi, .int .u64 lo] 24)
  have HD := Lib.hid (dotted_any false hi lo _ h0 h1 (hT.below HB0))
  clear hT
  go_enter Tryz.func7, Tryz.ntmps7
  go_wp2_with fail
  refine HD.out.mono ?_
  rintro e w1 ⟨rfl, hb1⟩
  go_wp2
  go_ret
  exact ⟨rfl, HB0.trans (hb1.mono (by simp))⟩
end Go.Proofs.YtkploaapcpjkbaaGreatDoor
