/- parseIPv6, ParseAddr, impl.Parse at a text of eight groups, a run of zeros left out or none. -/
import Derived.Test.YtkploaapcpjkbaaGreatDoorPM
import Derived.Test.YtkploaapcpjkbaaGreatDoorY9
import Derived.Test.YtkploaapcpjkbaaGreatDoorZH
import Derived.Test.YtkploaapcpjkbaaGreatDoorZE
import Derived.Test.YtkploaapcpjkbaaGreatDoorZE2
namespace Go.Proofs.YtkploaapcpjkbaaGreatDoor
open Go Go.RowKit Go.Sort
set_option linter.unusedVariables false
set_option linter.unusedSimpArgs false

/-- The text: the groups that t writes, those from a on, l many, left out (a = 8: none). -/
def gtext (t : Nat → List UInt8) (many a l : Nat) (T : List (List UInt8)) : List UInt8 :=
  jn (texts t (min many a) ++ (if a < 8 then [] else T)) ++ (if a < 8 then [58, 58] else []) ++ jn (texts (fun j => t (a + l + j)) (many - (a + l)) ++ (if a < 8 then T else []))
def manyOf (q : Option Int) : Nat := match q with | some _ => 6 | none => 8

theorem texts_cons (t : Nat → List UInt8) (n : Nat) : texts t (n + 1) = t 0 :: texts (fun j => t (1 + j)) n := by
  simp only [texts, List.range_succ_eq_map, List.map_cons, List.map_map]
  congr 1
  apply List.map_congr_left
  intro i _
  simp [Nat.add_comm]
theorem texts_item (t : Nat → List UInt8) (n : Nat) (h : ∀ i, Item (t i)) : ∀ d ∈ texts t n, Item d := by
  intro d hd
  simp only [texts, List.mem_map] at hd
  obtain ⟨i, _, rfl⟩ := hd
  exact h i
/-- Bytes of such texts: figures, colons, points. -/
def Plain (l : List UInt8) : Prop := ∀ c ∈ l, c.toNat ≠ 37
theorem hx_plain {c : UInt8} (h : IsHx c) : c.toNat ≠ 46 ∧ c.toNat ≠ 58 ∧ c.toNat ≠ 37 := by rcases h with h | h | h <;> omega
theorem item_plain {d : List UInt8} (h : Item d) : Plain d := fun c hc => (hx_plain (h.hx c hc)).2.2
theorem append_plain {a b : List UInt8} (ha : Plain a) (hb : Plain b) : Plain (a ++ b) := fun c hc => by
  rcases List.mem_append.1 hc with h | h
  · exact ha c h
  · exact hb c h
theorem colon_plain : Plain [58] := by unfold Plain; decide
theorem jn_plain (xs : List (List UInt8)) (h : ∀ x ∈ xs, Plain x) : Plain (jn xs) := by
  induction xs with
  | nil => intro c hc; cases hc
  | cons x r ih =>
    by_cases e : r = []
    · subst e; rw [jn_one]; exact h x (by simp)
    · rw [jn_cons2 x r e]
      exact append_plain (h x (by simp)) (append_plain (a := [58]) colon_plain (ih (fun y hy => h y (by simp [hy]))))
theorem quadU_plain (lo : Int) : Plain (quadU lo) := by
  have hd : ∀ j, Plain (decU (byteAt lo j)) := fun j => item_plain (decU_item _ (byteAt_bd lo j).1 (byteAt_bd lo j).2)
  have dt : Plain [46] := by unfold Plain; decide
  unfold quadU
  exact append_plain (hd 3) (append_plain dt (append_plain (hd 2) (append_plain dt (append_plain (hd 1) (append_plain dt (hd 0))))))

section
variable {hi lo : Int} {t : Nat → List UInt8} {a l : Nat} {q : Option Int}
theorem gtext_plain (ht : ∀ i, Item (t i)) (many : Nat) : Plain (gtext t many a l (ql q)) := by
  have hq : ∀ x ∈ ql q, Plain x := by
    intro x hx
    cases q with
    | none => cases hx
    | some z => simp [ql] at hx; subst hx; exact quadU_plain z
  have hi : ∀ (t : Nat → List UInt8) n, (∀ i, Item (t i)) → ∀ x ∈ texts t n, Plain x := fun t n h x hx => item_plain (texts_item t n h x hx)
  unfold gtext
  refine append_plain (append_plain (jn_plain _ ?_) ?_) (jn_plain _ ?_)
  · intro x hx
    rcases List.mem_append.1 hx with h | h
    · exact hi t _ ht x h
    · split at h
      · cases h
      · exact hq x h
  · split
    · unfold Plain; decide
    · intro c hc; cases hc
  · intro x hx
    rcases List.mem_append.1 hx with h | h
    · exact hi _ _ (fun i => ht _) x h
    · split at h
      · exact hq x h
      · cases h
theorem gtext_len (ht : ∀ i, Item (t i)) : (gtext t (manyOf q) a l (ql q)).length ≤ 200 := by
  have hm : manyOf q ≤ 8 := by cases q <;> simp [manyOf]
  have hT : ∀ c : Bool, (if c then ql q else []).length ≤ 1 ∧ ∀ x ∈ (if c then ql q else []), x.length ≤ 15 := by
    intro c
    cases c
    · simp
    · cases q with
      | none => simp [ql]
      | some z => simp [ql]; have := quad_len z; rw [quad_vals, vals_length] at this; exact this
  have h4 : ∀ (t : Nat → List UInt8), (∀ i, Item (t i)) → ∀ i, (t i).length ≤ 4 := fun t h i => (h i).l4
  unfold gtext
  by_cases ha : a < 8
  · simp only [if_pos ha, List.append_nil, List.length_append, List.length_cons, List.length_nil]
    have h1 := jtf_len t (h4 t ht) (min (manyOf q) a) (by omega)
    have h2 := jtT_len (fun j => t (a + l + j)) (h4 _ fun i => ht _) (manyOf q - (a + l)) (by omega) (ql q) (hT true)
    omega
  · simp only [if_neg ha, List.append_nil, List.length_append, List.length_nil]
    have h1 := jtT_len t (h4 t ht) (min (manyOf q) a) (by omega) (ql q) (hT true)
    have h2 := jtf_len (fun j => t (a + l + j)) (h4 _ fun i => ht _) (manyOf q - (a + l)) (by omega)
    omega

theorem six_of (hh : 0 ≤ hi) (hh2 : hi < 18446744073709551616) (hl : 0 ≤ lo) (hl2 : lo < 18446744073709551616) (f : Nat → Int) (hf : ∀ j, j < 16 → f j = pairF hi lo j) : (.agg #[.int .u64 (num f 8), .int .u64 (num (fun i => f (8 + i)) 8), .bool true, .bool true, .string ⟨#[]⟩] : Value) = .agg #[.int .u64 (hi), .int .u64 (lo), .bool true, .bool true, .string ⟨#[]⟩] := by
  have e1 : num f 8 = hi := by rw [num_congr f (pairF hi lo) 8 (fun i h => hf i (by omega)), num_pair hi lo hh hh2]
  have e2 : num (fun i => f (8 + i)) 8 = lo := by rw [num_congr (fun i => f (8 + i)) (fun i => pairF hi lo (8 + i)) 8 (fun i h => hf (8 + i) (by omega)), num_pair8 hi lo hl hl2]
  rw [e1, e2]

theorem shape6 (hh : 0 ≤ hi) (hh2 : hi < 18446744073709551616) (hl : 0 ≤ lo) (hl2 : lo < 18446744073709551616) (ht : ∀ i, Item (t i)) (hv' : ∀ i, i < 8 → (hv (t i) : Int) = grp hi lo i) (hr : Run (grp hi lo) (manyOf q) a l) (hq : q = none ∨ q = some lo) (w : World) :
    Calls Tryz.prog 36 #[.string (bs (gtext t (manyOf q) a l (ql q)))] w fun e w' => e = .returned (.tuple #[.agg #[.int .u64 (hi), .int .u64 (lo), .bool true, .bool true, .string ⟨#[]⟩], .nilIface]) ∧ Below w.heap.size w w' := by
  have hlen := gtext_len (q := q) (a := a) (l := l) ht
  have hpl := gtext_plain (q := q) (a := a) (l := l) ht (manyOf q)
  obtain ⟨L, hL⟩ : ∃ L, L = gtext t (manyOf q) a l (ql q) := ⟨_, rfl⟩
  rw [← hL] at hlen hpl ⊢
  have hS : (bs L).size ≤ 1000 := by rw [bs_size]; omega
  have HN : Hid (∀ i (h : i < L.length), L[i].toNat ≠ 37) := Lib.hid fun i h => hpl _ (List.getElem_mem h)
  have hm : manyOf q ≤ 8 := by cases q <;> simp [manyOf]
  -- the bytes behind the run
  have hKb : ∀ s, s ≤ manyOf q → B2 (texts (fun j => t (s + j)) (manyOf q - s)) ++ qb q = pb hi lo (2 * s) (16 - 2 * s) := by
    intro s hs
    rw [B2_texts hi lo t hv' s _ (by omega)]
    rcases hq with rfl | rfl
    · show pb hi lo (2 * s) (2 * (8 - s)) ++ [] = _
      rw [List.append_nil, show 2 * (8 - s) = 16 - 2 * s by omega]
    · show pb hi lo (2 * s) (2 * (6 - s)) ++ qb (some lo) = _
      have h6 : s ≤ 6 := hs
      rw [qb_pb hi lo, show 12 = 2 * s + 2 * (6 - s) by omega, pb_add, show 2 * (6 - s) + 4 = 16 - 2 * s by omega]
  have hHb : ∀ n, n ≤ 8 → B2 (texts t n) = pb hi lo 0 (2 * n) := by
    intro n hn
    have := B2_texts hi lo t hv' 0 n (by omega)
    simpa using this
  rcases hr with ⟨rfl, rfl⟩ | ⟨hl1, hal, hz⟩
  · -- no run is left out
    have hLt : L = jn (texts t (manyOf q) ++ ql q) := by
      rw [hL, gtext]
      simp only [Nat.lt_irrefl, if_false, List.append_nil]
      rw [show min (manyOf q) 8 = manyOf q by omega, show manyOf q - (8 + 0) = 0 by omega]
      simp [texts, jn_nil]
    have hb16 : B2 (texts t (manyOf q)) ++ qb q = pb hi lo 0 16 := by
      have := hKb 0 (by omega)
      simpa using this
    obtain ⟨r0, hr0t, hr0b, hr0e, hr0o⟩ : ∃ r0 : Rest, r0.text = jn (texts t (manyOf q) ++ ql q) ∧ r0.bytes = B2 (texts t (manyOf q)) ++ qb q ∧ r0.ell 0 = none ∧ r0.Ok false 0 := by
      rcases hq with rfl | rfl
      · have e : texts t 8 = t 0 :: texts (fun j => t (1 + j)) 7 := texts_cons t 7
        refine ⟨rj (t 0) (texts (fun j => t (1 + j)) 7), ?_, ?_, rj_ell _ _ _, rj_ok _ _ _ _ ?_⟩
        · rw [rj_text, ← e]; simp [ql, manyOf]
        · rw [rj_bytes, ← e]; simp [qb, manyOf]
        · rw [← e]; exact texts_item t 8 ht
      · exact ⟨rq (quadU lo) (texts t 6), rq_text _ _, rq_bytes _ _ (run4_quadU lo) _, rq_ell _ _ _, rq_ok _ (quadU_ok lo) _ _ _ (texts_item t 6 ht) (.inr (by rw [texts_length]))⟩
    have hF : (pb hi lo 0 16).length = 16 := pb_length _ _ _ _
    have h2 : 2 ≤ (bs L).size := by
      rw [bs_size, hLt, ← hr0t]
      rcases hq with rfl | rfl
      · have e : texts t 8 = t 0 :: texts (fun j => t (1 + j)) 7 := texts_cons t 7
        rw [hr0t, show manyOf none = 8 from rfl, e, List.cons_append, jn_cons2 _ _ (by simp [texts, List.range_succ])]
        have := (ht 0).l1
        simp only [List.length_append, List.length_cons]; omega
      · have e : texts t 6 = t 0 :: texts (fun j => t (1 + j)) 5 := texts_cons t 5
        rw [hr0t, show manyOf (some lo) = 6 from rfl, e, List.cons_append, jn_cons2 _ _ (by simp [texts, List.range_succ])]
        have := (ht 0).l1
        simp only [List.length_append, List.length_cons]; omega
    have H := parse6_a L (bs L) (Lib.hid rfl) hS HN r0 (Lib.hid (by rw [hLt, hr0t])) (Lib.hid hr0o) h2 (pb hi lo 0 16) none (Lib.hid (by rw [hr0b, hb16])) (Lib.hid hr0e.symm) (by rw [hF]; exact Nat.le_refl _) (by rw [if_neg (by rw [hF]; omega)]) (bytes_spread _ _ (pb_mem _ _ _ _)) w
    rw [six_of hh hh2 hl hl2 _ (fun j hj => spread_all hi lo j hj)] at H
    exact H
  · -- a run is left out
    have ha8 : a < 8 := by omega
    have hLt : L = jn (texts t a) ++ [58, 58] ++ jn (texts (fun j => t (a + l + j)) (manyOf q - (a + l)) ++ ql q) := by
      rw [hL, gtext]
      simp only [if_pos ha8, List.append_nil]
      rw [show min (manyOf q) a = a by omega]
    have hKi : ∀ d ∈ texts (fun j => t (a + l + j)) (manyOf q - (a + l)), Item d := texts_item _ _ fun i => ht _
    obtain ⟨K, hK⟩ : ∃ K, K = texts (fun j => t (a + l + j)) (manyOf q - (a + l)) := ⟨_, rfl⟩
    rw [← hK] at hLt hKi
    have hKq : B2 K ++ qb q = pb hi lo (2 * (a + l)) (16 - 2 * (a + l)) := by rw [hK]; exact hKb (a + l) hal
    have hF : (pb hi lo 0 (2 * a) ++ pb hi lo (2 * (a + l)) (16 - 2 * (a + l))).length = 16 - 2 * l := by rw [List.length_append, pb_length, pb_length]; omega
    have hby : Bytes (spread (pb hi lo 0 (2 * a) ++ pb hi lo (2 * (a + l)) (16 - 2 * (a + l))) (some (2 * a))) := bytes_spread _ _ (fun x hx => by
      rcases List.mem_append.1 hx with h | h
      · exact pb_mem _ _ _ _ x h
      · exact pb_mem _ _ _ _ x h)
    have hsix := six_of hh hh2 hl hl2 _ (fun j hj => spread_run hi lo a l (by omega) hz j hj)
    have htt := tailOf_text K q
    have htb := tailOf_bytes K q
    have hto := tailOf_ok K q hKi
    by_cases ha0 : a = 0
    · subst ha0
      have hLt' : L = 58 :: 58 :: tt (tailOf K q) := by rw [hLt, htt]; rfl
      cases htl : tailOf K q with
      | none =>
        rw [htl] at hLt' htb
        have hF0 : pb hi lo (2 * (0 + l)) (16 - 2 * (0 + l)) = [] := by rw [← hKq, ← htb]; rfl
        have e : hi = 0 ∧ lo = 0 := by
          have hl8 : l = 8 := by
            have := congrArg List.length hF0
            rw [pb_length] at this
            simp at this; omega
          subst hl8
          have g := fun i (h : i < 8) => hz i (by omega) (by omega)
          have g0 := g 0 (by omega); have g1 := g 1 (by omega); have g2 := g 2 (by omega); have g3 := g 3 (by omega)
          have g4 := g 4 (by omega); have g5 := g 5 (by omega); have g6 := g 6 (by omega); have g7 := g 7 (by omega)
          simp [grp] at g0 g1 g2 g3 g4 g5 g6 g7
          omega
        rw [hLt', e.1, e.2]
        exact parse6_c w
      | some R =>
        rw [htl] at hLt' htb hto
        have H := parse6_b L (bs L) (Lib.hid rfl) hS HN R (Lib.hid hLt') (Lib.hid (hto R rfl 0)) _ (some (2 * 0)) (Lib.hid (show pb hi lo 0 (2 * 0) ++ pb hi lo (2 * (0 + l)) (16 - 2 * (0 + l)) = R.bytes by rw [← hKq, ← htb]; rfl)) (Lib.hid rfl) (by rw [hF]; omega) (by rw [if_pos (by rw [hF]; omega)]; exact ⟨_, rfl, by omega⟩) hby w
        rw [hsix] at H
        exact H
    · obtain ⟨n, rfl⟩ : ∃ n, a = n + 1 := ⟨a - 1, by omega⟩
      have e : texts t (n + 1) = t 0 :: texts (fun j => t (1 + j)) n := texts_cons t n
      have hHi : ∀ d ∈ t 0 :: texts (fun j => t (1 + j)) n, Item d := by rw [← e]; exact texts_item t _ ht
      have h2 : 2 ≤ (bs L).size := by rw [bs_size, hLt]; simp only [List.length_append, List.length_cons]; omega
      have H := parse6_a L (bs L) (Lib.hid rfl) hS HN (rg (t 0) (tailOf K q) (texts (fun j => t (1 + j)) n)) (Lib.hid (by rw [rg_text, ← e, htt, hLt])) (Lib.hid (rg_ok _ _ _ _ hHi hto)) h2 _ (some (2 * (n + 1))) (Lib.hid (show pb hi lo 0 (2 * (n + 1)) ++ pb hi lo (2 * (n + 1 + l)) (16 - 2 * (n + 1 + l)) = _ by rw [rg_bytes, ← e, htb, hKq, hHb _ (by omega)])) (Lib.hid (by rw [rg_ell, texts_length]; simp)) (by rw [hF]; omega) (by rw [if_pos (by rw [hF]; omega)]; exact ⟨_, rfl, by rw [hF]; omega⟩) hby w
      rw [hsix] at H
      exact H
end
end Go.Proofs.YtkploaapcpjkbaaGreatDoor
