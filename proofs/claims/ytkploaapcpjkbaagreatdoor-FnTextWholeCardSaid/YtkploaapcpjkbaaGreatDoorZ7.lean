/- Contracts: String and StringExpanded of an address of 16 bytes; impl.Text, impl.Expanded. -/
import Derived.Test.YtkploaapcpjkbaaGreatDoorZ6
import Derived.Test.YtkploaapcpjkbaaGreatDoorC3
namespace Go.Proofs.YtkploaapcpjkbaaGreatDoor
open Go Go.RowKit Go.Sort
set_option linter.unusedVariables false
set_option linter.unusedSimpArgs false
attribute [local go_sem] cell_gr

/-- The text that appendTo6 writes. -/
def sixU (hi lo : Int) : List UInt8 := pre (grp hi lo) (best (grp hi lo) 8).1 (best (grp hi lo) 8).2 8
theorem sixU_len (hi lo : Int) : (sixU hi lo).length ≤ 42 := by
  have h := best_bd (grp hi lo) 8 (Nat.le_refl _)
  refine pre_len _ _ _ _ ?_ (Nat.le_refl _)
  rcases h with h | h
  · rw [h]; left; omega
  · right; omega
theorem mapU_len (lo : Int) : (mapU lo).length ≤ 22 := by
  have := quad_len lo
  rw [quad_vals, vals_length] at this
  simp only [mapU, List.length_append, List.length_cons, List.length_nil]
  omega

set_option maxHeartbeats 1600000 in
theorem string_v6 (hi lo : Int) (w : World) (hh : 0 ≤ hi) (hh2 : hi < 18446744073709551616) (hl : 0 ≤ lo) (hl2 : lo < 18446744073709551616) (H : Hid (mappedB hi lo = false)) :
    Calls Tryz.prog 12 #[.agg #[.int .u64 (hi), .int .u64 (lo), .bool true, .bool true, .string ⟨#[]⟩]] w fun e w' => e = .returned (.string (bs (sixU hi lo))) ∧ Below w.heap.size w w' := by
  obtain ⟨i0, hi', hy0, hy1, hy2⟩ := info_parts info5
  unfold sixU
  go_enter Tryz.func12, Tryz.ntmps12
  go_wp2_with fail
  refine (isValid_any true _ _ _).mono ?_
  rintro e w1 ⟨rfl, hb1⟩
  obtain ⟨hc1, hf1⟩ := rulesB (B := w.heap.size + 1) hb1 (by first | omega | (simp only [World.size_alloc, World.size_setCell, World.size_drew]; omega))
  have hs1 := hb1.size
  try simp only [World.size_alloc, World.size_setCell, World.size_drew] at hs1
  have hz : w.heap.size < w1.heap.size := by omega
  go_wp2
  refine wp_region_quiet_below (by kernel_rfl) (by kernel_rfl) ?_
  repeat quiet_step (fail)
  quiet_step (with_reducible exact Calls.regrown_of (z4_any _))
  repeat quiet_step (fail)
  refine wpQuiet_nil ?_
  intro w2 hb2
  replace hb2 := below_of hb2
  obtain ⟨hc2, hf2⟩ := rules hb2
  have hs2 := hb2.size
  try simp only [World.size_alloc, World.size_setCell, World.size_drew] at hs2
  have hz2 : w.heap.size + 1 ≤ w2.heap.size := by omega
  go_wp2_with fail
  refine (is4In6_no _ _ _ hh hl hl2 H).mono ?_
  rintro e w3 ⟨rfl, hb3⟩
  obtain ⟨hc3, hf3⟩ := rulesB (B := w.heap.size + 1) hb3 (by first | omega | (simp only [World.size_alloc, World.size_setCell, World.size_drew]; omega))
  have hs3 := hb3.size
  try simp only [World.size_alloc, World.size_setCell, World.size_drew] at hs3
  have hz3 : w.heap.size + 1 ≤ w3.heap.size := by omega
  go_wp2_with (at_make; refine wpList_make_own _ rfl _ _ 60 rfl 0 5 i0 (.int .u8 0) 1 Tryz.underlying60 hi' hy0 hy1 .i64 .i64 46 46 rfl rfl rfl (by rw [hy2]; omega) (by unfold maxLen; omega) (by omega) ?_; intro w4 hB4 hg4; have hb4 := below_none hg4; obtain ⟨hc4, hf4⟩ := rulesB (B := w.heap.size + 1) hb4 hz3)
  refine (appendTo6_any w3.heap.size 46 0 [] hi lo w4 hh hh2 hl hl2 hB4 (by omega)).mono ?_
  rintro e w5 ⟨rfl, hB5, hg5⟩
  have HS := (hB5.cast rfl (List.nil_append _).symm).stringU
  have hs4 := hb4.size
  have hb5 := below_grown (B := w3.heap.size) hg5 (Nat.le_refl _) hs4
  rw [Nat.zero_add] at HS ⊢
  clear hB5
  go_wp2
  go_ret
  refine ⟨rfl, ?_⟩
  repeat (first | with_reducible exact Below.refl _ _ | with_reducible refine Below.setCell ?_ (by first | omega | (simp only [World.size_alloc, World.size_setCell, World.size_drew]; omega)) _ | with_reducible refine Below.alloc ?_ (by first | omega | (simp only [World.size_alloc, World.size_setCell, World.size_drew]; omega)) _ | with_reducible refine Below.drew ?_ | with_reducible refine Below.trans ?_ (hb5.mono (by first | omega | (simp only [World.size_alloc, World.size_setCell, World.size_drew]; omega))) | with_reducible refine Below.trans ?_ (hb4.mono (by first | omega | (simp only [World.size_alloc, World.size_setCell, World.size_drew]; omega))) | with_reducible refine Below.trans ?_ (hb3.mono (by first | omega | (simp only [World.size_alloc, World.size_setCell, World.size_drew]; omega))) | with_reducible refine Below.trans ?_ (hb2.mono (by first | omega | (simp only [World.size_alloc, World.size_setCell, World.size_drew]; omega))) | with_reducible refine Below.trans ?_ (hb1.mono (by first | omega | (simp only [World.size_alloc, World.size_setCell, World.size_drew]; omega))))

set_option maxHeartbeats 1600000 in
theorem string_map (hi lo : Int) (w : World) (hh : 0 ≤ hi) (hh2 : hi < 18446744073709551616) (hl : 0 ≤ lo) (hl2 : lo < 18446744073709551616) (H : Hid (mappedB hi lo = true)) :
    Calls Tryz.prog 12 #[.agg #[.int .u64 (hi), .int .u64 (lo), .bool true, .bool true, .string ⟨#[]⟩]] w fun e w' => e = .returned (.string (bs (mapU lo))) ∧ Below w.heap.size w w' := by
  obtain ⟨i0, hi', hy0, hy1, hy2⟩ := info_parts info5
  go_enter Tryz.func12, Tryz.ntmps12
  go_wp2_with fail
  refine (isValid_any true _ _ _).mono ?_
  rintro e w1 ⟨rfl, hb1⟩
  obtain ⟨hc1, hf1⟩ := rulesB (B := w.heap.size + 1) hb1 (by first | omega | (simp only [World.size_alloc, World.size_setCell, World.size_drew]; omega))
  have hs1 := hb1.size
  try simp only [World.size_alloc, World.size_setCell, World.size_drew] at hs1
  have hz : w.heap.size < w1.heap.size := by omega
  go_wp2
  refine wp_region_quiet_below (by kernel_rfl) (by kernel_rfl) ?_
  repeat quiet_step (fail)
  quiet_step (with_reducible exact Calls.regrown_of (z4_any _))
  repeat quiet_step (fail)
  refine wpQuiet_nil ?_
  intro w2 hb2
  replace hb2 := below_of hb2
  obtain ⟨hc2, hf2⟩ := rules hb2
  have hs2 := hb2.size
  try simp only [World.size_alloc, World.size_setCell, World.size_drew] at hs2
  have hz2 : w.heap.size + 1 ≤ w2.heap.size := by omega
  go_wp2_with fail
  refine (is4In6_yes _ _ _ hh hl hl2 H).mono ?_
  rintro e w3 ⟨rfl, hb3⟩
  obtain ⟨hc3, hf3⟩ := rulesB (B := w.heap.size + 1) hb3 (by first | omega | (simp only [World.size_alloc, World.size_setCell, World.size_drew]; omega))
  have hs3 := hb3.size
  try simp only [World.size_alloc, World.size_setCell, World.size_drew] at hs3
  have hz3 : w.heap.size + 1 ≤ w3.heap.size := by omega
  go_wp2_with (at_make; refine wpList_make_own _ rfl _ _ 60 rfl 0 5 i0 (.int .u8 0) 1 Tryz.underlying60 hi' hy0 hy1 .i64 .i64 29 29 rfl rfl rfl (by rw [hy2]; omega) (by unfold maxLen; omega) (by omega) ?_; intro w4 hB4 hg4; have hb4 := below_none hg4; obtain ⟨hc4, hf4⟩ := rulesB (B := w.heap.size + 1) hb4 hz3)
  refine (appendTo4In6_any w3.heap.size 29 0 [] hi lo w4 hh hh2 hl hl2 H hB4 (by omega)).mono ?_
  rintro e w5 ⟨rfl, hB5, hg5⟩
  have HS := (hB5.cast rfl (List.nil_append _).symm).stringU
  have hs4 := hb4.size
  have hb5 := below_grown (B := w3.heap.size) hg5 (Nat.le_refl _) hs4
  rw [Nat.zero_add] at HS ⊢
  clear hB5
  go_wp2
  go_ret
  refine ⟨rfl, ?_⟩
  repeat (first | with_reducible exact Below.refl _ _ | with_reducible refine Below.setCell ?_ (by first | omega | (simp only [World.size_alloc, World.size_setCell, World.size_drew]; omega)) _ | with_reducible refine Below.alloc ?_ (by first | omega | (simp only [World.size_alloc, World.size_setCell, World.size_drew]; omega)) _ | with_reducible refine Below.drew ?_ | with_reducible refine Below.trans ?_ (hb5.mono (by first | omega | (simp only [World.size_alloc, World.size_setCell, World.size_drew]; omega))) | with_reducible refine Below.trans ?_ (hb4.mono (by first | omega | (simp only [World.size_alloc, World.size_setCell, World.size_drew]; omega))) | with_reducible refine Below.trans ?_ (hb3.mono (by first | omega | (simp only [World.size_alloc, World.size_setCell, World.size_drew]; omega))) | with_reducible refine Below.trans ?_ (hb2.mono (by first | omega | (simp only [World.size_alloc, World.size_setCell, World.size_drew]; omega))) | with_reducible refine Below.trans ?_ (hb1.mono (by first | omega | (simp only [World.size_alloc, World.size_setCell, World.size_drew]; omega))))

/-- The text of an address of 16 bytes. -/
def textU (hi lo : Int) : List UInt8 := if mappedB hi lo = true then mapU lo else sixU hi lo
theorem textU_len (hi lo : Int) : (textU hi lo).length ≤ 42 := by
  unfold textU
  have := sixU_len hi lo; have := mapU_len lo
  split <;> omega
theorem string_any (hi lo : Int) (w : World) (hh : 0 ≤ hi) (hh2 : hi < 18446744073709551616) (hl : 0 ≤ lo) (hl2 : lo < 18446744073709551616) :
    Calls Tryz.prog 12 #[.agg #[.int .u64 (hi), .int .u64 (lo), .bool true, .bool true, .string ⟨#[]⟩]] w fun e w' => e = .returned (.string (bs (textU hi lo))) ∧ Below w.heap.size w w' := by
  unfold textU
  cases h : mappedB hi lo
  · exact string_v6 hi lo w hh hh2 hl hl2 (Lib.hid h)
  · exact string_map hi lo w hh hh2 hl hl2 (Lib.hid h)

/-- The text with all zeros: the first n groups. -/
def pads (G : Nat → Int) (n : Nat) : List UInt8 := jn ((List.range n).map fun i => padU (G i))
theorem pads_0 (G : Nat → Int) : pads G 0 = [] := rfl
theorem pads_1 (G : Nat → Int) : pads G 1 = padU (G 0) := jn_one _
theorem pads_next (G : Nat → Int) (n : Nat) (h : 0 < n) : pads G (n + 1) = pads G n ++ ([58] ++ padU (G n)) := by
  unfold pads
  rw [List.range_succ, List.map_append, List.map_singleton, jn_snoc]
  intro e
  have := congrArg List.length e
  simp at this; omega
theorem pads_len (G : Nat → Int) (n : Nat) (h : 0 < n) : (pads G n).length + 1 = 5 * n := by
  induction n with
  | zero => omega
  | succ n ih =>
    by_cases h0 : n = 0
    · subst h0; rw [pads_1]; rfl
    · rw [pads_next G n (by omega)]
      have := ih (by omega)
      simp only [List.length_append, List.length_cons, List.length_nil, padU]
      omega

set_option maxHeartbeats 3200000 in
set_option maxRecDepth 100000 in
theorem stringExpanded_v6 (hi lo : Int) (w : World) (hh : 0 ≤ hi) (hh2 : hi < 18446744073709551616) (hl : 0 ≤ lo) (hl2 : lo < 18446744073709551616) :
    Calls Tryz.prog 24 #[.agg #[.int .u64 (hi), .int .u64 (lo), .bool true, .bool true, .string ⟨#[]⟩]] w fun e w' => e = .returned (.string (bs (pads (grp hi lo) 8))) ∧ Below w.heap.size w w' := by
  obtain ⟨i0, hi', hy0, hy1, hy2⟩ := info_parts info5
  go_enter Tryz.func24, Tryz.ntmps24
  go_wp2_with fail
  refine (z0_any _).mono ?_
  rintro e w1 ⟨rfl, hb1⟩
  obtain ⟨hc1, hf1⟩ := rulesB (B := w.heap.size + 1) hb1 (by first | omega | (simp only [World.size_alloc, World.size_setCell, World.size_drew]; omega))
  have hs1 := hb1.size
  try simp only [World.size_alloc, World.size_setCell, World.size_drew] at hs1
  have hz : w.heap.size < w1.heap.size := by omega
  go_wp2_with fail
  refine (z4_any _).mono ?_
  rintro e w2 ⟨rfl, hb2⟩
  obtain ⟨hc2, hf2⟩ := rulesB (B := w.heap.size + 1) hb2 (by first | omega | (simp only [World.size_alloc, World.size_setCell, World.size_drew]; omega))
  have hs2 := hb2.size
  try simp only [World.size_alloc, World.size_setCell, World.size_drew] at hs2
  have hz2 : w.heap.size + 1 ≤ w2.heap.size := by omega
  go_wp2_with (at_make; refine wpList_make_own _ rfl _ _ 60 rfl 0 5 i0 (.int .u8 0) 1 Tryz.underlying60 hi' hy0 hy1 .i64 .i64 39 39 rfl rfl rfl (by rw [hy2]; omega) (by unfold maxLen; omega) (by omega) ?_; intro w3 hB3 hg3; have hb3 := below_none hg3; obtain ⟨hc3, hf3⟩ := rulesB (B := w.heap.size + 1) hb3 hz2)
  have hs3 := hb3.size
  have qq3_0 : w3.cell? ⟨w.heap.size, 0, none⟩ = some (.int .u64 hi) := by rw [hc3 _ _ (by first | omega | (simp only [World.size_alloc, World.size_setCell, World.size_drew]; omega))]; first | with_reducible assumption | (simp [go_sem]; done) | (simp [go_sem, *]; done)
  have qq3_1 : w3.cell? ⟨w.heap.size, 1, none⟩ = some (.int .u64 lo) := by rw [hc3 _ _ (by first | omega | (simp only [World.size_alloc, World.size_setCell, World.size_drew]; omega))]; first | with_reducible assumption | (simp [go_sem]; done) | (simp [go_sem, *]; done)
  have qq3_2 : w3.cell? ⟨w.heap.size, 2, none⟩ = some (.bool true) := by rw [hc3 _ _ (by first | omega | (simp only [World.size_alloc, World.size_setCell, World.size_drew]; omega))]; first | with_reducible assumption | (simp [go_sem]; done) | (simp [go_sem, *]; done)
  have qq3_3 : w3.cell? ⟨w.heap.size, 3, none⟩ = some (.bool true) := by rw [hc3 _ _ (by first | omega | (simp only [World.size_alloc, World.size_setCell, World.size_drew]; omega))]; first | with_reducible assumption | (simp [go_sem]; done) | (simp [go_sem, *]; done)
  have qq3_4 : w3.cell? ⟨w.heap.size, 4, none⟩ = some (.string ⟨#[]⟩) := by rw [hc3 _ _ (by first | omega | (simp only [World.size_alloc, World.size_setCell, World.size_drew]; omega))]; first | with_reducible assumption | (simp [go_sem]; done) | (simp [go_sem, *]; done)
  obtain ⟨g, hg⟩ : ∃ g, g = w2.heap.size := ⟨_, rfl⟩
  rw [← hg] at hB3 ⊢
  have hne : w.heap.size ≠ g := by omega
  have HB3 := Lib.hid hB3
  have HGE := Lib.hid hg
  clear hg hB3 hg3
  have hsA : w.heap.size < w3.heap.size := by omega
  go_loopw [3, 4] (fun r i wr => ∃ n : Nat, n ≤ 8 ∧ i = .int .u8 n ∧ r = .slice (some ⟨g, 0, none⟩) (pads (grp hi lo) n).length 39 ∧ Buf wr g 39 (pads (grp hi lo) n).length (vals (pads (grp hi lo) n)) ∧ w3.grownBy wr (some g)) (fun _ i _ => 8 - (intOf i).toNat)
  case atStart => exact ⟨0, by omega, rfl, rfl, HB3.out, grown_refl _ _⟩
  case round =>
    obtain ⟨n, hn, rfl, rfl, hB0, hG0⟩ := hrel
    have hs0 := hG0.size
    have hsw : w.heap.size < wr.heap.size := by omega
    have hq : ∀ i v, w3.cell? ⟨w.heap.size, i, none⟩ = some v → wr.cell? ⟨w.heap.size, i, none⟩ = some v := fun i v h => (grown_cell hG0 (p := ⟨w.heap.size, i, none⟩) (by simpa using hsA) (by simpa using hne)).trans h
    have p0 := hq _ _ qq3_0
    have p1 := hq _ _ qq3_1
    have p2 := hq _ _ qq3_2
    have p3 := hq _ _ qq3_3
    have p4 := hq _ _ qq3_4
    clear hq
    by_cases hlt : n < 8
    · have d0 : decide ((n : Int) < 8) = true := decide_eq_true (by omega)
      by_cases hn0 : n = 0
      · subst hn0
        have d2 : decide ((0 : Int) < ((0 : Nat) : Int)) = false := by decide
        have hr1 : (pads (grp hi lo) 0).length + 4 ≤ 39 := by rw [pads_0]; simp
        have hlp : (vals (padU (grp hi lo 0))).length = 4 := rfl
        go_wp2_with fail
        refine (v6u16_any hi lo true 0 hlt _ hh hh2 hl hl2).mono ?_
        rintro e w1 ⟨rfl, hb1⟩
        have hG1 := grown_below hG0 hb1
        have hB1 := hB0.below hb1
        clear hb1
        have hc1 := fun b o (h : b < _) (hn : b ≠ g) => grown_cell hG1 (p := ⟨b, o, none⟩) h hn
        have hf1 := fun b o (h : b < _) (hn : b ≠ g) => grown_frozen hG1 (p := ⟨b, o, none⟩) h hn
        have hs1 := hG1.size
        go_wp2_with fail
        refine (appendHexPad_any g 39 _ _ _ _ (grp_bd hi lo 0).1 (grp_bd hi lo 0).2 hB1 hr1).mono ?_
        rintro e w2 ⟨rfl, hB2, hg2⟩
        have hG2 := grown_trans hG1 hg2
        clear hg2
        have hc2 := fun b o (h : b < _) (hn : b ≠ g) => grown_cell hG2 (p := ⟨b, o, none⟩) h hn
        have hf2 := fun b o (h : b < _) (hn : b ≠ g) => grown_frozen hG2 (p := ⟨b, o, none⟩) h hn
        have hs2 := hG2.size
        clear hc1 hf1
        have HB2 := Lib.hid hB2
        have HG2 := Lib.hid hG2
        clear hB2 hr1
        go_wp2_with fail
        go_roundw
        case rel =>
          have e : pads (grp hi lo) 1 = padU (grp hi lo 0) := pads_1 _
          refine ⟨1, by omega, by go_num, by rw [e]; rfl, HB2.out.cast (by rw [e]; rfl) (by rw [e]; rfl), HG2.out⟩
        case measure => simp [intOf]
      · have d2 : decide ((0 : Int) < (n : Int)) = true := decide_eq_true (by omega)
        have hr1 : (pads (grp hi lo) n).length + 1 + 4 ≤ 39 := by have := pads_len (grp hi lo) n (by omega); omega
        have HP := Lib.hid (pads_next (grp hi lo) n (by omega))
        go_wp2_with (at_builtin; refine append1 rfl _ _ rfl rfl rfl hB0 hG0 rfl (by omega) ?_; intro w1 hB1 hG1; have hc1 := fun b o (h : b < _) (hn : b ≠ g) => grown_cell hG1 (p := ⟨b, o, none⟩) h hn; have hf1 := fun b o (h : b < _) (hn : b ≠ g) => grown_frozen hG1 (p := ⟨b, o, none⟩) h hn; have hs1 := hG1.size)
        go_wp2_with fail
        refine (v6u16_any hi lo true n hlt _ hh hh2 hl hl2).mono ?_
        rintro e w2 ⟨rfl, hb2⟩
        have hG2 := grown_below hG1 hb2
        have hB2 := hB1.below hb2
        clear hb2
        have hc2 := fun b o (h : b < _) (hn : b ≠ g) => grown_cell hG2 (p := ⟨b, o, none⟩) h hn
        have hf2 := fun b o (h : b < _) (hn : b ≠ g) => grown_frozen hG2 (p := ⟨b, o, none⟩) h hn
        have hs2 := hG2.size
        clear hc1 hf1
        go_wp2_with fail
        refine (appendHexPad_any g 39 _ _ _ _ (grp_bd hi lo n).1 (grp_bd hi lo n).2 hB2 hr1).mono ?_
        rintro e w3 ⟨rfl, hB3, hg3⟩
        have hG3 := grown_trans hG2 hg3
        clear hg3
        have hc3 := fun b o (h : b < _) (hn : b ≠ g) => grown_cell hG3 (p := ⟨b, o, none⟩) h hn
        have hf3 := fun b o (h : b < _) (hn : b ≠ g) => grown_frozen hG3 (p := ⟨b, o, none⟩) h hn
        have hs3 := hG3.size
        clear hc2 hf2
        have HB3 := Lib.hid hB3
        have HG3 := Lib.hid hG3
        clear hB3 hr1
        go_wp2_with fail
        go_roundw
        case rel =>
          have hlen : (pads (grp hi lo) (n + 1)).length = (pads (grp hi lo) n).length + 1 + 4 := by rw [HP.out]; simp [padU]
          refine ⟨n + 1, by omega, by go_num, by rw [hlen]; rfl, HB3.out.cast (by rw [hlen]; rfl) (by rw [HP.out, vals_append, vals_append]; simp [vals, List.append_assoc]), HG3.out⟩
        case measure => simp [intOf]; omega
    · obtain rfl : n = 8 := by omega
      have e8 : ((8 : Nat) : Int) = 8 := rfl
      rw [e8]
      have HB0 := Lib.hid hB0
      go_wp2
      refine wp_region_quiet_below (by kernel_rfl) (by kernel_rfl) ?_
      repeat quiet_step (fail)
      quiet_step (with_reducible exact Calls.regrown_of (z6noz_any _))
      repeat quiet_step (fail)
      refine wpQuiet_nil ?_
      intro w4 hb4
      replace hb4 := below_of hb4
      obtain ⟨hc4, hf4⟩ := rules hb4
      have hs4 := hb4.size
      try simp only [World.size_alloc, World.size_setCell, World.size_drew] at hs4
      have HS := (HB0.out.below hb4).stringU
      clear hB0
      have hb0 := below_grown (B := w2.heap.size) hG0 (by have := HGE.out; omega) (by omega)
      go_wp2
      go_ret
      refine ⟨rfl, ?_⟩
      repeat (first | with_reducible exact Below.refl _ _ | with_reducible refine Below.setCell ?_ (by first | omega | (simp only [World.size_alloc, World.size_setCell, World.size_drew]; omega)) _ | with_reducible refine Below.alloc ?_ (by first | omega | (simp only [World.size_alloc, World.size_setCell, World.size_drew]; omega)) _ | with_reducible refine Below.drew ?_ | with_reducible refine Below.trans ?_ (hb4.mono (by first | omega | (simp only [World.size_alloc, World.size_setCell, World.size_drew]; omega))) | with_reducible refine Below.trans ?_ (hb0.mono (by first | omega | (simp only [World.size_alloc, World.size_setCell, World.size_drew]; omega))) | with_reducible refine Below.trans ?_ (hb3.mono (by first | omega | (simp only [World.size_alloc, World.size_setCell, World.size_drew]; omega))) | with_reducible refine Below.trans ?_ (hb2.mono (by first | omega | (simp only [World.size_alloc, World.size_setCell, World.size_drew]; omega))) | with_reducible refine Below.trans ?_ (hb1.mono (by first | omega | (simp only [World.size_alloc, World.size_setCell, World.size_drew]; omega))))
end Go.Proofs.YtkploaapcpjkbaaGreatDoor
