/- Contract: the reference's Text. -/
import Derived.Test.YtkploaapcpjkbaaGreatDoorY6
import Derived.Test.YtkploaapcpjkbaaGreatDoorZ8
namespace Go.Proofs.YtkploaapcpjkbaaGreatDoor
open Go Go.RowKit Go.Sort
set_option linter.unusedVariables false
set_option linter.unusedSimpArgs false
attribute [local go_sem] cell_gr

theorem specText4 (hi lo : Int) (w : World) (hl : 0 ≤ lo) (hl2 : lo < 18446744073709551616) (hT : Laid w) :
    Calls Tryz.prog 8 #[.agg #[.bool false, .int .u64 (hi), .int .u64 (lo)]] w fun e w' => e = .returned (.string (bs (quadU lo))) ∧ Below w.heap.size w w' := by
  have HB0 := (Below.refl w.heap.size w).alloc (Nat.le_refl _) (.cells #[.bool false, .int .u64 hi, .int .u64 lo] 24)
  have HD := Lib.hid (dotted_any false hi lo _ hl hl2 (hT.below HB0))
  clear hT
  go_enter Tryz.func8, Tryz.ntmps8
  go_wp2_with fail
  refine HD.out.mono ?_
  rintro e w1 ⟨rfl, hb1⟩
  go_wp2
  go_ret
  exact ⟨rfl, HB0.trans (hb1.mono (by simp))⟩

set_option maxRecDepth 100000 in
set_option maxHeartbeats 1600000 in
theorem specText_map (hi lo : Int) (w : World) (hl : 0 ≤ lo) (hl2 : lo < 18446744073709551616) (H : mappedB hi lo = true) (hT : Laid w) :
    Calls Tryz.prog 8 #[.agg #[.bool true, .int .u64 (hi), .int .u64 (lo)]] w fun e w' => e = .returned (.string (bs (mapU lo))) ∧ Below w.heap.size w w' := by
  have HB0 := Lib.hid ((Below.refl w.heap.size w).alloc (Nat.le_refl _) (.cells #[.bool true, .int .u64 hi, .int .u64 lo] 24))
  have HT := Lib.hid hT
  have HM := (specMapped_yes hi lo)
  rw [H] at HM
  have s1 : (bs (quadU lo)).size ≤ 64 := by rw [bs_size, ← vals_length, ← quad_vals]; have := quad_len lo; omega
  clear hT
  go_enter Tryz.func8, Tryz.ntmps8
  go_wp2_with fail
  refine (HM.at _).mono ?_
  rintro e w1 ⟨rfl, hb1⟩
  obtain ⟨hc1, hf1⟩ := rulesB (B := w.heap.size + 1) hb1 (by first | omega | (simp only [World.size_alloc, World.size_setCell, World.size_drew]; omega))
  have hs1 := hb1.size
  try simp only [World.size_alloc, World.size_setCell, World.size_drew] at hs1
  have hz1 : w.heap.size < w1.heap.size := by omega
  have HB1 := Lib.hid (HB0.out.trans (hb1.mono (by simp)))
  go_wp2_with fail
  refine (dotted_any true hi lo _ hl hl2 (HT.out.below HB1.out)).mono ?_
  rintro e w2 ⟨rfl, hb2⟩
  go_wp2
  go_ret
  refine ⟨?_, HB1.out.trans (hb2.mono (by omega))⟩
  show Ending.returned (.string (bs [58, 58, 102, 102, 102, 102, 58] ++ bs (quadU lo))) = _
  rw [bs_append]; rfl

theorem items_texts (G : Nat → Int) (a b : Nat) : items G a b = texts (fun i => hexU (G (a + i))) (b - a) := by
  unfold items texts
  rw [List.range'_eq_map_range, List.map_map]; rfl
theorem items_zero (G : Nat → Int) (b : Nat) : items G 0 b = texts (fun i => hexU (G i)) b := by
  rw [items_texts]; simp

def slOff (m : Nat) : Nat := if m = 8 then 0 else m
theorem slTo_0 (b : Nat) (W : World) : (Instr.sliceAt 45 (.pointer (some ⟨b, 0, none⟩)) none (some (.int .i64 0)) none).run Tryz.prog W = .ok (.slice (some ⟨b, 0, none⟩) 0 8) W := by kernel_rfl
theorem slFrom_0 (b : Nat) (W : World) : (Instr.sliceAt 45 (.pointer (some ⟨b, 0, none⟩)) (some (.int .i64 0)) none none).run Tryz.prog W = .ok (.slice (some ⟨b, 0, none⟩) 8 8) W := by kernel_rfl
theorem slTo_1 (b : Nat) (W : World) : (Instr.sliceAt 45 (.pointer (some ⟨b, 0, none⟩)) none (some (.int .i64 1)) none).run Tryz.prog W = .ok (.slice (some ⟨b, 0, none⟩) 1 8) W := by kernel_rfl
theorem slFrom_1 (b : Nat) (W : World) : (Instr.sliceAt 45 (.pointer (some ⟨b, 0, none⟩)) (some (.int .i64 1)) none none).run Tryz.prog W = .ok (.slice (some ⟨b, 1, none⟩) 7 7) W := by kernel_rfl
theorem slTo_2 (b : Nat) (W : World) : (Instr.sliceAt 45 (.pointer (some ⟨b, 0, none⟩)) none (some (.int .i64 2)) none).run Tryz.prog W = .ok (.slice (some ⟨b, 0, none⟩) 2 8) W := by kernel_rfl
theorem slFrom_2 (b : Nat) (W : World) : (Instr.sliceAt 45 (.pointer (some ⟨b, 0, none⟩)) (some (.int .i64 2)) none none).run Tryz.prog W = .ok (.slice (some ⟨b, 2, none⟩) 6 6) W := by kernel_rfl
theorem slTo_3 (b : Nat) (W : World) : (Instr.sliceAt 45 (.pointer (some ⟨b, 0, none⟩)) none (some (.int .i64 3)) none).run Tryz.prog W = .ok (.slice (some ⟨b, 0, none⟩) 3 8) W := by kernel_rfl
theorem slFrom_3 (b : Nat) (W : World) : (Instr.sliceAt 45 (.pointer (some ⟨b, 0, none⟩)) (some (.int .i64 3)) none none).run Tryz.prog W = .ok (.slice (some ⟨b, 3, none⟩) 5 5) W := by kernel_rfl
theorem slTo_4 (b : Nat) (W : World) : (Instr.sliceAt 45 (.pointer (some ⟨b, 0, none⟩)) none (some (.int .i64 4)) none).run Tryz.prog W = .ok (.slice (some ⟨b, 0, none⟩) 4 8) W := by kernel_rfl
theorem slFrom_4 (b : Nat) (W : World) : (Instr.sliceAt 45 (.pointer (some ⟨b, 0, none⟩)) (some (.int .i64 4)) none none).run Tryz.prog W = .ok (.slice (some ⟨b, 4, none⟩) 4 4) W := by kernel_rfl
theorem slTo_5 (b : Nat) (W : World) : (Instr.sliceAt 45 (.pointer (some ⟨b, 0, none⟩)) none (some (.int .i64 5)) none).run Tryz.prog W = .ok (.slice (some ⟨b, 0, none⟩) 5 8) W := by kernel_rfl
theorem slFrom_5 (b : Nat) (W : World) : (Instr.sliceAt 45 (.pointer (some ⟨b, 0, none⟩)) (some (.int .i64 5)) none none).run Tryz.prog W = .ok (.slice (some ⟨b, 5, none⟩) 3 3) W := by kernel_rfl
theorem slTo_6 (b : Nat) (W : World) : (Instr.sliceAt 45 (.pointer (some ⟨b, 0, none⟩)) none (some (.int .i64 6)) none).run Tryz.prog W = .ok (.slice (some ⟨b, 0, none⟩) 6 8) W := by kernel_rfl
theorem slFrom_6 (b : Nat) (W : World) : (Instr.sliceAt 45 (.pointer (some ⟨b, 0, none⟩)) (some (.int .i64 6)) none none).run Tryz.prog W = .ok (.slice (some ⟨b, 6, none⟩) 2 2) W := by kernel_rfl
theorem slTo_7 (b : Nat) (W : World) : (Instr.sliceAt 45 (.pointer (some ⟨b, 0, none⟩)) none (some (.int .i64 7)) none).run Tryz.prog W = .ok (.slice (some ⟨b, 0, none⟩) 7 8) W := by kernel_rfl
theorem slFrom_7 (b : Nat) (W : World) : (Instr.sliceAt 45 (.pointer (some ⟨b, 0, none⟩)) (some (.int .i64 7)) none none).run Tryz.prog W = .ok (.slice (some ⟨b, 7, none⟩) 1 1) W := by kernel_rfl
theorem slTo_8 (b : Nat) (W : World) : (Instr.sliceAt 45 (.pointer (some ⟨b, 0, none⟩)) none (some (.int .i64 8)) none).run Tryz.prog W = .ok (.slice (some ⟨b, 0, none⟩) 8 8) W := by kernel_rfl
theorem slFrom_8 (b : Nat) (W : World) : (Instr.sliceAt 45 (.pointer (some ⟨b, 0, none⟩)) (some (.int .i64 8)) none none).run Tryz.prog W = .ok (.slice (some ⟨b, 0, none⟩) 0 0) W := by kernel_rfl
theorem slTo (b : Nat) (x : Int) (n : Nat) (hx : x = n) (h : n ≤ 8) (W : World) : (Instr.sliceAt 45 (.pointer (some ⟨b, 0, none⟩)) none (some (.int .i64 x)) none).run Tryz.prog W = .ok (.slice (some ⟨b, 0, none⟩) n 8) W := by
  subst hx
  match n, h with
  | 0, _ => exact slTo_0 b W
  | 1, _ => exact slTo_1 b W
  | 2, _ => exact slTo_2 b W
  | 3, _ => exact slTo_3 b W
  | 4, _ => exact slTo_4 b W
  | 5, _ => exact slTo_5 b W
  | 6, _ => exact slTo_6 b W
  | 7, _ => exact slTo_7 b W
  | 8, _ => exact slTo_8 b W
  | k + 9, h => exact absurd h (by omega)
theorem slFrom (b : Nat) (x : Int) (n : Nat) (hx : x = n) (h : n ≤ 8) (W : World) : (Instr.sliceAt 45 (.pointer (some ⟨b, 0, none⟩)) (some (.int .i64 x)) none none).run Tryz.prog W = .ok (.slice (some ⟨b, slOff n, none⟩) (8 - n) (8 - n)) W := by
  subst hx
  match n, h with
  | 0, _ => exact slFrom_0 b W
  | 1, _ => exact slFrom_1 b W
  | 2, _ => exact slFrom_2 b W
  | 3, _ => exact slFrom_3 b W
  | 4, _ => exact slFrom_4 b W
  | 5, _ => exact slFrom_5 b W
  | 6, _ => exact slFrom_6 b W
  | 7, _ => exact slFrom_7 b W
  | 8, _ => exact slFrom_8 b W
  | k + 9, h => exact absurd h (by omega)

theorem jtx_len (G : Nat → Int) (n : Nat) (h : n ≤ 8) : (jn (texts (fun i => hexU (G i)) n)).length ≤ 40 := by
  have := jn_len (texts (fun i => hexU (G i)) n) (texts_mem _ _ _ fun i => (hexU_len _).2)
  rw [texts_length] at this; omega

set_option maxRecDepth 100000 in
set_option maxHeartbeats 3200000 in
theorem specText_v6 (hi lo : Int) (w : World) (hh : 0 ≤ hi) (hh2 : hi < 18446744073709551616) (hl : 0 ≤ lo) (hl2 : lo < 18446744073709551616) (H : mappedB hi lo = false) (hT : Laid w) :
    Calls Tryz.prog 8 #[.agg #[.bool true, .int .u64 (hi), .int .u64 (lo)]] w fun e w' => e = .returned (.string (bs (sixU hi lo))) ∧ Below w.heap.size w w' := by
  have HB0 := Lib.hid ((Below.refl w.heap.size w).alloc (Nat.le_refl _) (.cells #[.bool true, .int .u64 hi, .int .u64 lo] 24))
  have HT := Lib.hid hT
  have HM := (specMapped_yes hi lo)
  rw [H] at HM
  have HG := groups_any hi lo hh hh2 hl hl2
  have HR := fun w => run_any (grp hi lo) w
  have HGB := Lib.hid (grp_bd hi lo)
  have HBR := Lib.hid (best_run (grp hi lo) 8 (Nat.le_refl _))
  have HRB := Lib.hid (rrun_bd (grp hi lo) 8 (Nat.le_refl _))
  unfold g8 at HG HR
  obtain ⟨a, ha⟩ : ∃ a, a = (rrun (grp hi lo) 8).1 := ⟨_, rfl⟩
  obtain ⟨l, hl'⟩ : ∃ l, l = (rrun (grp hi lo) 8).2 := ⟨_, rfl⟩
  replace HRB : Hid (l = 0 ∨ (0 ≤ a ∧ a + l ≤ 8 ∧ 1 ≤ l)) := Lib.hid (by
    rcases HRB.out with h | h
    · left; rw [hl', h]
    · right; rw [ha, hl']; exact h)
  simp only [← ha, ← hl'] at HR HBR
  have HA := Lib.hid ha
  have HL := Lib.hid hl'
  clear hT ha hl'
  go_enter Tryz.func8, Tryz.ntmps8
  go_wp2_with fail
  refine (HM.at _).mono ?_
  rintro e w1 ⟨rfl, hb1⟩
  obtain ⟨hc1, hf1⟩ := rulesB (B := w.heap.size + 1) hb1 (by first | omega | (simp only [World.size_alloc, World.size_setCell, World.size_drew]; omega))
  have hs1 := hb1.size
  try simp only [World.size_alloc, World.size_setCell, World.size_drew] at hs1
  have hz1 : w.heap.size < w1.heap.size := by omega
  have HB1 := Lib.hid (HB0.out.trans (hb1.mono (by simp)))
  go_wp2_with fail
  refine (HG.at _).mono ?_
  rintro e w2 ⟨rfl, hb2⟩
  obtain ⟨hc2, hf2⟩ := rulesB (B := w.heap.size + 1) hb2 (by first | omega | (simp only [World.size_alloc, World.size_setCell, World.size_drew]; omega))
  have hs2 := hb2.size
  try simp only [World.size_alloc, World.size_setCell, World.size_drew] at hs2
  have HB2 := Lib.hid (HB1.out.trans (hb2.mono (by omega)))
  clear hb1 hb2
  go_wp2_with fail
  refine (HR _).mono ?_
  rintro e w3 ⟨rfl, hb3⟩
  have hz3 : w2.heap.size < w3.heap.size := by have := hb3.size; simp only [World.size_alloc] at this; omega
  have HC3 : ∀ i, i < 8 → w3.cell? ⟨w2.heap.size, i, none⟩ = some (.int .u16 (grp hi lo i)) := fun i hi => by
    refine (hb3.cell (p := ⟨w2.heap.size, i, none⟩) (by simp)).trans ?_
    match i, hi with
    | 0, _ | 1, _ | 2, _ | 3, _ | 4, _ | 5, _ | 6, _ | 7, _ => simp [go_sem]
    | n + 8, h => exact absurd h (by omega)
  have HB3 := Lib.hid (HB2.out.trans ((((Below.refl w2.heap.size w2).alloc (Nat.le_refl _) (.cells #[.int .u16 (grp hi lo 0), .int .u16 (grp hi lo 1), .int .u16 (grp hi lo 2), .int .u16 (grp hi lo 3), .int .u16 (grp hi lo 4), .int .u16 (grp hi lo 5), .int .u16 (grp hi lo 6), .int .u16 (grp hi lo 7)] 45)).trans (hb3.mono (by simp))).mono (by omega)))
  have HCH := Lib.hid HC3
  have HL3 := Lib.hid (HT.out.below HB3.out)
  clear hb3 HC3 hc1 hc2 hf1 hf2
  by_cases c : l < 2
  · have d1 : decide ((l : Int) < 2) = true := decide_eq_true (by omega)
    have HBS : Hid (best (grp hi lo) 8 = (255, 255)) := Lib.hid (by have := HBR.out; rwa [if_pos c] at this)
    have m8 : min (IntKind.i64.wrap 8) 8 = 8 := by decide
    have k1 : (9223372036854775807 < (bs (jn (texts (fun i => hexU (grp hi lo i)) 8))).size + (bs []).size) = False := by rw [bs_size, bs_size]; have := jtx_len (grp hi lo) 8 (by omega); simp only [eq_iff_iff, iff_false, List.length_nil]; omega
    have k2 : (9223372036854775807 < (bs (jn (texts (fun i => hexU (grp hi lo i)) 8))).size + (bs []).size + (bs (jn (texts (fun i => hexU (grp hi lo i)) 0))).size) = False := by rw [bs_size, bs_size, bs_size]; have := jtx_len (grp hi lo) 8 (by omega); have := jtx_len (grp hi lo) 0 (by omega); simp only [eq_iff_iff, iff_false, List.length_nil]; omega
    go_wp2
    refine wp_region_quiet_below (by kernel_rfl) (by kernel_rfl) ?_
    repeat quiet_step (fail)
    quiet_step (with_reducible exact Calls.regrown_of (join_any (grp hi lo) HGB.out w2.heap.size 0 8 8 _ (HL3.out.below (below_regrown _ _ _)) (by omega) (by omega) (by intro i hi; rw [cell_gr _ _ _ _ _ hz3, Nat.zero_add]; exact HCH.out i hi)))
    repeat quiet_step (fail)
    quiet_step (with_reducible exact same_of (mark_ge _ (by omega) _))
    repeat quiet_step (fail)
    quiet_step (with_reducible exact Calls.regrown_of (join_any (grp hi lo) HGB.out w2.heap.size _ 0 0 _ (HL3.out.below (below_regrown _ _ _)) (by omega) (by omega) (by intro i hi; exact absurd hi (by omega))))
    repeat quiet_step (fail)
    refine wpQuiet_nil ?_
    intro w4 hb4
    replace hb4 := below_of hb4
    obtain ⟨hc4, hf4⟩ := rules hb4
    have hs4 := hb4.size
    try simp only [World.size_alloc, World.size_setCell, World.size_drew] at hs4
    go_wp2
    go_ret
    refine ⟨?_, HB3.out.trans (hb4.mono HB3.out.size)⟩
    show Ending.returned (.string (bs (jn (texts (fun i => hexU (grp hi lo i)) 8)) ++ bs [] ++ bs (jn (texts (fun i => hexU (grp hi lo i)) 0)))) = _
    rw [bs_append, bs_append, sixU, HBS.out, pre, if_pos (by decide), items_zero]
    simp [texts, jn_nil]
  · obtain ⟨n, rfl⟩ : ∃ n : Nat, a = n := ⟨a.toNat, by have := HRB.out; omega⟩
    have hnl : n + l ≤ 8 := by have := HRB.out; omega
    have hn0 : n < 8 := by omega
    have d1 : decide ((l : Int) < 2) = false := decide_eq_false (by omega)
    have HBS : Hid (best (grp hi lo) 8 = (n, n + l)) := Lib.hid (by
      have h := HBR.out
      rw [if_neg c] at h
      have h1 : (best (grp hi lo) 8).1 = n := by omega
      exact Prod.ext h1 (by show (best (grp hi lo) 8).2 = n + l; rw [h.2, h1]))
    have HBD : ∀ i, 0 ≤ grp hi lo (n + l + i) ∧ grp hi lo (n + l + i) < 65536 := fun i => HGB.out _
    have k1 : (9223372036854775807 < (bs (jn (texts (fun i => hexU (grp hi lo i)) n))).size + (bs [58, 58]).size) = False := by rw [bs_size, bs_size]; have := jtx_len (grp hi lo) n (by omega); simp only [eq_iff_iff, iff_false, List.length_nil, List.length_cons]; omega
    have k2 : (9223372036854775807 < (bs (jn (texts (fun i => hexU (grp hi lo i)) n))).size + (bs [58, 58]).size + (bs (jn (texts (fun i => hexU (grp hi lo (n + l + i))) (8 - (n + l))))).size) = False := by rw [bs_size, bs_size, bs_size]; have := jtx_len (grp hi lo) n (by omega); have := jtx_len (fun i => grp hi lo (n + l + i)) (8 - (n + l)) (by omega); simp only [eq_iff_iff, iff_false, List.length_nil, List.length_cons]; omega
    have mn : min (n : Int) 8 = n := by omega
    have mnl : min ((n : Int) + (l : Int)) 8 = n + l := by omega
    have wnl : IntKind.i64.wrap ((n : Int) + (l : Int)) = n + l := by rw [IntKind.wrap_i64]; omega
    have sl1 := slTo w2.heap.size n n rfl (by omega)
    have sl2 := slFrom w2.heap.size (n + l) (n + l) (by omega) hnl
    have HBDH := Lib.hid HBD
    clear HBD
    go_wp2
    refine wp_region_quiet_below (by kernel_rfl) (by kernel_rfl) ?_
    repeat quiet_step (fail)
    quiet_step (with_reducible exact Calls.regrown_of (join_any (grp hi lo) HGB.out w2.heap.size 0 n 8 _ (HL3.out.below (below_regrown _ _ _)) (by omega) (by omega) (by intro i hi; rw [cell_gr _ _ _ _ _ hz3, Nat.zero_add]; exact HCH.out i (by omega))))
    repeat quiet_step (fail)
    quiet_step (with_reducible exact same_of (mark_lt _ (by omega) _))
    repeat quiet_step (fail)
    quiet_step (with_reducible exact Calls.regrown_of (join_any (fun i => grp hi lo (n + l + i)) HBDH.out w2.heap.size (slOff (n + l)) (8 - (n + l)) (8 - (n + l)) _ (HL3.out.below (below_regrown _ _ _)) (by omega) (by omega) (by intro i hi; rw [cell_gr _ _ _ _ _ hz3, slOff, if_neg (by omega)]; exact HCH.out (n + l + i) (by omega))))
    repeat quiet_step (fail)
    refine wpQuiet_nil ?_
    intro w4 hb4
    replace hb4 := below_of hb4
    obtain ⟨hc4, hf4⟩ := rules hb4
    have hs4 := hb4.size
    try simp only [World.size_alloc, World.size_setCell, World.size_drew] at hs4
    go_wp2
    go_ret
    refine ⟨?_, HB3.out.trans (hb4.mono HB3.out.size)⟩
    show Ending.returned (.string (bs (jn (texts (fun i => hexU (grp hi lo i)) n)) ++ bs [58, 58] ++ bs (jn (texts (fun i => hexU (grp hi lo (n + l + i))) (8 - (n + l)))))) = _
    rw [bs_append, bs_append, sixU, HBS.out, pre, if_neg (by simp only; omega), items_zero, items_texts, List.append_assoc]

theorem specText6 (hi lo : Int) (w : World) (hh : 0 ≤ hi) (hh2 : hi < 18446744073709551616) (hl : 0 ≤ lo) (hl2 : lo < 18446744073709551616) (hT : Laid w) :
    Calls Tryz.prog 8 #[.agg #[.bool true, .int .u64 (hi), .int .u64 (lo)]] w fun e w' => e = .returned (.string (bs (textU hi lo))) ∧ Below w.heap.size w w' := by
  unfold textU
  cases H : mappedB hi lo
  · exact specText_v6 hi lo w hh hh2 hl hl2 H hT
  · exact specText_map hi lo w hl hl2 H hT
end Go.Proofs.YtkploaapcpjkbaaGreatDoor
