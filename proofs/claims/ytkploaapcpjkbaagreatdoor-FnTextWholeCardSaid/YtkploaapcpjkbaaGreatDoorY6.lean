/- Contracts: the reference's join, Expanded. -/
import Derived.Test.YtkploaapcpjkbaaGreatDoorY5
import Derived.Test.YtkploaapcpjkbaaGreatDoorZ7
namespace Go.Proofs.YtkploaapcpjkbaaGreatDoor
open Go Go.RowKit Go.Sort
set_option linter.unusedVariables false
set_option linter.unusedSimpArgs false
attribute [local go_sem] cell_gr

/-- The first n texts. -/
def texts (t : Nat → List UInt8) (n : Nat) : List (List UInt8) := (List.range n).map t
theorem texts_succ (t : Nat → List UInt8) (n : Nat) : texts t (n + 1) = texts t n ++ [t n] := by simp [texts, List.range_succ]
theorem texts_length (t : Nat → List UInt8) (n : Nat) : (texts t n).length = n := by simp [texts]
theorem texts_mem (t : Nat → List UInt8) (n k : Nat) (h : ∀ i, (t i).length ≤ k) : ∀ x ∈ texts t n, x.length ≤ k := by
  intro x hx
  simp only [texts, List.mem_map] at hx
  obtain ⟨i, _, rfl⟩ := hx
  exact h i

set_option maxRecDepth 100000 in
set_option maxHeartbeats 3200000 in
theorem join_any (f : Nat → Int) (hf : ∀ i, 0 ≤ f i ∧ f i < 65536) (b off n cap : Nat) (w : World) (hT : Laid w) (hn : n ≤ 8) (hcap : n ≤ cap) (hc : ∀ i, i < n → w.cell? ⟨b, off + i, none⟩ = some (.int .u16 (f i))) :
    Calls Tryz.prog 23 #[.slice (some ⟨b, off, none⟩) n cap] w fun e w' => e = .returned (.string (bs (jn (texts (fun i => hexU (f i)) n)))) ∧ Below w.heap.size w w' := by
  have HT := Lib.hid hT
  have HC := Lib.hid hc
  clear hT hc
  go_enter Tryz.func23, Tryz.ntmps23
  go_wp2_with fail
  go_loopw [3, 8] (fun v i wr => ∃ k : Nat, k ≤ n ∧ i = .int .i64 k ∧ OwnS wr w.heap.size v (texts (fun i => hexU (f i)) k) ∧ Below w.heap.size w wr) (fun _ i _ => n - (intOf i).toNat)
  case atStart => exact ⟨0, by omega, rfl, ownS_nil _ _, Below.refl _ _⟩
  case round =>
    obtain ⟨k, hk, rfl, hO, hb⟩ := hrel
    have HBW := Lib.hid hb
    have hsz := hb.size
    clear hb
    by_cases hlt : k < n
    · have hki : decide ((k : Int) < (n : Int)) = true := decide_eq_true (by omega)
      have hck : wr.cell? ⟨b, off + k, none⟩ = some (.int .u16 (f k)) := (HBW.out.cell (p := ⟨b, off + k, none⟩) (block_lt_of_cell (HC.out k hlt))).trans (HC.out k hlt)
      have hwf : IntKind.u64.wrap (f k) = f k := wraps_u64 _ (hf k).1 (by have := (hf k).2; omega)
      go_wp2_with fail
      refine (formatUint_any (f k) _ (HT.out.below HBW.out) (hf k).1 (hf k).2).mono ?_
      rintro e w1 ⟨rfl, hb1⟩
      have hs1 := hb1.size
      have hO1 := hO.below hb1
      have HB1 := Lib.hid (HBW.out.trans (hb1.mono hsz))
      clear hO hb1
      have hlen : (texts (fun i => hexU (f i)) k).length ≤ 100 := by rw [texts_length]; omega
      go_wp2_with (at_builtin; refine appendStr (hexU (f k)) rfl _ _ rfl rfl rfl hO1 (by omega) hlen ?_; intro v2 w2 hO2 hb2 _; have HO2 := Lib.hid hO2; have HB2 := Lib.hid (HB1.out.trans hb2); clear hO1 hO2 hb2)
      go_roundw
      case rel => exact ⟨k + 1, by omega, by go_num, by rw [texts_succ]; exact HO2.out, HB2.out⟩
      case measure => simp [intOf]; omega
    · obtain rfl : k = n := by omega
      go_wp2_with fail
      refine (join_own _ [58] _ rfl _ _ _ hO (by rw [texts_length]; omega) (texts_mem _ _ _ fun i => by have := (hexU_len (f i)).2; omega) (by simp)).mono ?_
      rintro e w1 ⟨rfl, hb1⟩
      go_wp2
      go_ret
      exact ⟨rfl, HBW.out.trans (hb1.mono hsz)⟩

theorem specExpanded4 (hi lo : Int) (w : World) (hl : 0 ≤ lo) (hl2 : lo < 18446744073709551616) (hT : Laid w) :
    Calls Tryz.prog 10 #[.agg #[.bool false, .int .u64 (hi), .int .u64 (lo)]] w fun e w' => e = .returned (.string (bs (quadU lo))) ∧ Below w.heap.size w w' := by
  have HB0 := (Below.refl w.heap.size w).alloc (Nat.le_refl _) (.cells #[.bool false, .int .u64 hi, .int .u64 lo] 24)
  have HD := Lib.hid (dotted_any false hi lo _ hl hl2 (hT.below HB0))
  clear hT
  go_enter Tryz.func10, Tryz.ntmps10
  go_wp2_with fail
  refine HD.out.mono ?_
  rintro e w1 ⟨rfl, hb1⟩
  go_wp2
  go_ret
  exact ⟨rfl, HB0.trans (hb1.mono (by simp))⟩

theorem pads_map (hi lo : Int) (h : mappedB hi lo = true) : pads (grp hi lo) 8 = [48, 48, 48, 48, 58, 48, 48, 48, 48, 58, 48, 48, 48, 48, 58, 48, 48, 48, 48, 58, 48, 48, 48, 48, 58, 102, 102, 102, 102, 58] ++ padU (lo / 65536 % 65536) ++ [58] ++ padU (lo % 65536) := by
  simp only [mappedB, Bool.and_eq_true, beq_iff_eq] at h
  obtain ⟨rfl, h2⟩ := h
  have e : ∀ i, i < 5 → grp 0 lo i = 0 := fun i hi => by
    match i, hi with
    | 0, _ | 1, _ | 2, _ | 3, _ => simp [grp]
    | 4, _ => simp [grp]; omega
    | n + 5, h => exact absurd h (by omega)
  have e5 : grp 0 lo 5 = 65535 := by simp [grp]; omega
  have e6 : grp 0 lo 6 = lo / 65536 % 65536 := by simp [grp]
  have e7 : grp 0 lo 7 = lo % 65536 := by simp [grp]
  have z : padU 0 = [48, 48, 48, 48] := by decide +kernel
  have z5 : padU 65535 = [102, 102, 102, 102] := by decide +kernel
  rw [pads_next _ 7 (by omega), pads_next _ 6 (by omega), pads_next _ 5 (by omega), pads_next _ 4 (by omega), pads_next _ 3 (by omega), pads_next _ 2 (by omega), pads_next _ 1 (by omega), pads_1, e 0 (by omega), e 1 (by omega), e 2 (by omega), e 3 (by omega), e 4 (by omega), e5, e6, e7, z, z5]
  simp only [List.append_assoc, List.cons_append, List.nil_append]

set_option maxRecDepth 100000 in
set_option maxHeartbeats 3200000 in
theorem specExpanded_map (hi lo : Int) (w : World) (hh : 0 ≤ hi) (hh2 : hi < 18446744073709551616) (hl : 0 ≤ lo) (hl2 : lo < 18446744073709551616) (H : mappedB hi lo = true) (hT : Laid w) :
    Calls Tryz.prog 10 #[.agg #[.bool true, .int .u64 (hi), .int .u64 (lo)]] w fun e w' => e = .returned (.string (bs (pads (grp hi lo) 8))) ∧ Below w.heap.size w w' := by
  have HB0 := (Below.refl w.heap.size w).alloc (Nat.le_refl _) (.cells #[.bool true, .int .u64 hi, .int .u64 lo] 24)
  have HL0 := Lib.hid (hT.below HB0)
  have HE := Lib.hid (pads_map hi lo H)
  have m1 : IntKind.u16.wrap (lo / 65536) = lo / 65536 % 65536 := wrap_u16 _
  have m2 : IntKind.u16.wrap lo = lo % 65536 := wrap_u16 _
  have n1 : 0 ≤ lo / 65536 % 65536 ∧ lo / 65536 % 65536 < 65536 := by omega
  have n2 : 0 ≤ lo % 65536 ∧ lo % 65536 < 65536 := by omega
  have HM := (specMapped_yes hi lo)
  rw [H] at HM
  have s1 : (bs (padU (lo / 65536 % 65536))).size ≤ 64 := by rw [bs_size]; simp [padU]
  have s2 : (bs (padU (lo % 65536))).size ≤ 64 := by rw [bs_size]; simp [padU]
  have k1 : (9223372036854775807 < 30 + (bs (padU (lo / 65536 % 65536))).size) = False := by simp only [eq_iff_iff, iff_false]; omega
  have k2 : (9223372036854775807 < 30 + (bs (padU (lo / 65536 % 65536))).size + 1) = False := by simp only [eq_iff_iff, iff_false]; omega
  have k3 : (9223372036854775807 < 30 + (bs (padU (lo / 65536 % 65536))).size + 1 + (bs (padU (lo % 65536))).size) = False := by simp only [eq_iff_iff, iff_false]; omega
  clear hT
  go_enter Tryz.func10, Tryz.ntmps10
  go_wp2_with fail
  refine (HM.at _).mono ?_
  rintro e w1 ⟨rfl, hb1⟩
  obtain ⟨hc1, hf1⟩ := rulesB (B := w.heap.size + 1) hb1 (by first | omega | (simp only [World.size_alloc, World.size_setCell, World.size_drew]; omega))
  have hs1 := hb1.size
  try simp only [World.size_alloc, World.size_setCell, World.size_drew] at hs1
  have HL1 := Lib.hid (HL0.out.below hb1)
  have hz1 : w.heap.size < w1.heap.size := by omega
  go_wp2
  refine wp_region_quiet_below (by kernel_rfl) (by kernel_rfl) ?_
  repeat quiet_step (fail)
  quiet_step (with_reducible exact Calls.regrown_of (padded_any _ _ (HL1.out.below (below_regrown _ _ _)) n1.1 n1.2))
  repeat quiet_step (fail)
  quiet_step (with_reducible exact Calls.regrown_of (padded_any _ _ (HL1.out.below (below_regrown _ _ _)) n2.1 n2.2))
  repeat quiet_step (fail)
  refine wpQuiet_nil ?_
  intro w2 hb2
  replace hb2 := below_of hb2
  obtain ⟨hc2, hf2⟩ := rules hb2
  have hs2 := hb2.size
  try simp only [World.size_alloc, World.size_setCell, World.size_drew] at hs2
  go_wp2
  go_ret
  refine ⟨?_, ?_⟩
  · rw [HE.out, ← bs_append, ← bs_append, ← bs_append]; rfl
  repeat (first | with_reducible exact Below.refl _ _ | with_reducible refine Below.setCell ?_ (by first | omega | (simp only [World.size_alloc, World.size_setCell, World.size_drew]; omega)) _ | with_reducible refine Below.alloc ?_ (by first | omega | (simp only [World.size_alloc, World.size_setCell, World.size_drew]; omega)) _ | with_reducible refine Below.drew ?_ | with_reducible refine Below.trans ?_ (hb2.mono (by first | omega | (simp only [World.size_alloc, World.size_setCell, World.size_drew]; omega))) | with_reducible refine Below.trans ?_ (hb1.mono (by first | omega | (simp only [World.size_alloc, World.size_setCell, World.size_drew]; omega))))

theorem index8_0 (f : Nat → Int) (w : World) : (Instr.index 45 (g8 f) (.int .i64 0)).run Tryz.prog w = .ok (.int .u16 (f 0)) w := by kernel_rfl
theorem index8_1 (f : Nat → Int) (w : World) : (Instr.index 45 (g8 f) (.int .i64 1)).run Tryz.prog w = .ok (.int .u16 (f 1)) w := by kernel_rfl
theorem index8_2 (f : Nat → Int) (w : World) : (Instr.index 45 (g8 f) (.int .i64 2)).run Tryz.prog w = .ok (.int .u16 (f 2)) w := by kernel_rfl
theorem index8_3 (f : Nat → Int) (w : World) : (Instr.index 45 (g8 f) (.int .i64 3)).run Tryz.prog w = .ok (.int .u16 (f 3)) w := by kernel_rfl
theorem index8_4 (f : Nat → Int) (w : World) : (Instr.index 45 (g8 f) (.int .i64 4)).run Tryz.prog w = .ok (.int .u16 (f 4)) w := by kernel_rfl
theorem index8_5 (f : Nat → Int) (w : World) : (Instr.index 45 (g8 f) (.int .i64 5)).run Tryz.prog w = .ok (.int .u16 (f 5)) w := by kernel_rfl
theorem index8_6 (f : Nat → Int) (w : World) : (Instr.index 45 (g8 f) (.int .i64 6)).run Tryz.prog w = .ok (.int .u16 (f 6)) w := by kernel_rfl
theorem index8_7 (f : Nat → Int) (w : World) : (Instr.index 45 (g8 f) (.int .i64 7)).run Tryz.prog w = .ok (.int .u16 (f 7)) w := by kernel_rfl
theorem index8 (f : Nat → Int) (k : Nat) (hk : k < 8) (w : World) : (Instr.index 45 (g8 f) (.int .i64 (k : Int))).run Tryz.prog w = .ok (.int .u16 (f k)) w := by
  match k, hk with
  | 0, _ => exact index8_0 f w
  | 1, _ => exact index8_1 f w
  | 2, _ => exact index8_2 f w
  | 3, _ => exact index8_3 f w
  | 4, _ => exact index8_4 f w
  | 5, _ => exact index8_5 f w
  | 6, _ => exact index8_6 f w
  | 7, _ => exact index8_7 f w
  | n + 8, h => exact absurd h (by omega)

set_option maxRecDepth 100000 in
set_option maxHeartbeats 6400000 in
theorem specExpanded_v6 (hi lo : Int) (w : World) (hh : 0 ≤ hi) (hh2 : hi < 18446744073709551616) (hl : 0 ≤ lo) (hl2 : lo < 18446744073709551616) (H : mappedB hi lo = false) (hT : Laid w) :
    Calls Tryz.prog 10 #[.agg #[.bool true, .int .u64 (hi), .int .u64 (lo)]] w fun e w' => e = .returned (.string (bs (pads (grp hi lo) 8))) ∧ Below w.heap.size w w' := by
  have HB0 := Lib.hid ((Below.refl w.heap.size w).alloc (Nat.le_refl _) (.cells #[.bool true, .int .u64 hi, .int .u64 lo] 24))
  have HT := Lib.hid hT
  have HM := (specMapped_yes hi lo)
  rw [H] at HM
  have HG := groups_any hi lo hh hh2 hl hl2
  unfold g8 at HG
  clear hT
  go_enter Tryz.func10, Tryz.ntmps10
  go_wp2_with fail
  refine (HM.at _).mono ?_
  rintro e w1 ⟨rfl, hb1⟩
  obtain ⟨hc1, hf1⟩ := rulesB (B := w.heap.size + 1) hb1 (by first | omega | (simp only [World.size_alloc, World.size_setCell, World.size_drew]; omega))
  have hs1 := hb1.size
  try simp only [World.size_alloc, World.size_setCell, World.size_drew] at hs1
  have hz1 : w.heap.size < w1.heap.size := by omega
  have HB1 := Lib.hid (HB0.out.trans (hb1.mono (by simp)))
  go_wp2_with fail
  refine (HG.at _).mono ?_
  rintro e w2 ⟨rfl, hb2⟩
  obtain ⟨hc2, hf2⟩ := rulesB (B := w.heap.size + 1) hb2 (by first | omega | (simp only [World.size_alloc, World.size_setCell, World.size_drew]; omega))
  have hs2 := hb2.size
  try simp only [World.size_alloc, World.size_setCell, World.size_drew] at hs2
  have HB2 := Lib.hid (HB1.out.trans (hb2.mono (by omega)))
  clear hb1 hb2
  go_wp2_with fail
  go_loopw [3, 27] (fun v i wr => ∃ k : Nat, k ≤ 8 ∧ i = .int .i64 k ∧ OwnS wr w.heap.size v (texts (fun i => padU (grp hi lo i)) k) ∧ Below w.heap.size w wr) (fun _ i _ => 8 - (intOf i).toNat)
  case atStart => exact ⟨0, by omega, rfl, ownS_nil _ _, HB2.out⟩
  case round =>
    obtain ⟨k, hk, rfl, hO, hb⟩ := hrel
    have HBW := Lib.hid hb
    have hsz := hb.size
    have HO := Lib.hid hO
    clear hb hO
    by_cases hlt : k < 8
    · have hki : decide ((k : Int) < 8) = true := decide_eq_true (by omega)
      have hix := index8 (grp hi lo) k hlt wr
      unfold g8 at hix
      go_wp2_with fail
      refine (padded_any (grp hi lo k) _ (HT.out.below HBW.out) (grp_bd hi lo _).1 (grp_bd hi lo _).2).mono ?_
      rintro e w3 ⟨rfl, hb3⟩
      have hs3 := hb3.size
      have hO3 := HO.out.below hb3
      have HB3 := Lib.hid (HBW.out.trans (hb3.mono hsz))
      clear hb3
      have hlen : (texts (fun i => padU (grp hi lo i)) k).length ≤ 100 := by rw [texts_length]; omega
      go_wp2_with (at_builtin; refine appendStr (padU (grp hi lo k)) rfl _ _ rfl rfl rfl hO3 (by omega) hlen ?_; intro v4 w4 hO4 hb4 _; have HO4 := Lib.hid hO4; have HB4 := Lib.hid (HB3.out.trans hb4); clear hO3 hO4 hb4)
      go_roundw
      case rel => exact ⟨k + 1, by omega, by go_num, by rw [texts_succ]; exact HO4.out, HB4.out⟩
      case measure => simp [intOf]; omega
    · obtain rfl : k = 8 := by omega
      have e8 : ((8 : Nat) : Int) = 8 := rfl
      rw [e8]
      go_wp2_with fail
      refine (join_own _ [58] _ rfl _ _ _ HO.out (by rw [texts_length]; omega) (texts_mem _ _ _ fun i => by simp [padU]) (by simp)).mono ?_
      rintro e w3 ⟨rfl, hb3⟩
      go_wp2
      go_ret
      exact ⟨rfl, HBW.out.trans (hb3.mono hsz)⟩

theorem specExpanded6 (hi lo : Int) (w : World) (hh : 0 ≤ hi) (hh2 : hi < 18446744073709551616) (hl : 0 ≤ lo) (hl2 : lo < 18446744073709551616) (hT : Laid w) :
    Calls Tryz.prog 10 #[.agg #[.bool true, .int .u64 (hi), .int .u64 (lo)]] w fun e w' => e = .returned (.string (bs (pads (grp hi lo) 8))) ∧ Below w.heap.size w w' := by
  cases H : mappedB hi lo
  · exact specExpanded_v6 hi lo w hh hh2 hl hl2 H hT
  · exact specExpanded_map hi lo w hh hh2 hl hl2 H hT
end Go.Proofs.YtkploaapcpjkbaaGreatDoor
