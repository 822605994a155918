/- Contract: String of an address of four bytes; sane. -/
import Derived.Test.YtkploaapcpjkbaaGreatDoorC2
namespace Go.Proofs.YtkploaapcpjkbaaGreatDoor
open Go Go.RowKit Go.Sort
set_option linter.unusedVariables false
set_option linter.unusedSimpArgs false
attribute [local go_sem] cell_gr

set_option maxHeartbeats 1600000 in
theorem string_v4 (lo : Int) (w : World) (hl : 0 ≤ lo) (hl2 : lo < 18446744073709551616) :
    Calls Tryz.prog 12 #[.agg #[.int .u64 0, .int .u64 (lo), .bool true, .bool false, .string ⟨#[]⟩]] w fun e w' => e = .returned (.string (str (quadI lo))) ∧ Below w.heap.size w w' := by
  obtain ⟨i0, hi, hy0, hy1, hy2⟩ := info_parts info5
  go_enter Tryz.func12, Tryz.ntmps12
  go_wp2_with fail
  refine (isValid_any false _ _ _).mono ?_
  rintro e w1 ⟨rfl, hb1⟩
  obtain ⟨hc1, hf1⟩ := rulesB (B := w.heap.size + 1) hb1 (by first | omega | (simp only [World.size_alloc, World.size_setCell, World.size_drew]; omega))
  have hs1 := hb1.size
  try simp only [World.size_alloc, World.size_setCell, World.size_drew] at hs1
  go_wp2
  have hz : w.heap.size < w1.heap.size := by omega
  refine wp_region_quiet_below (by kernel_rfl) (by kernel_rfl) ?_
  repeat quiet_step (fail)
  quiet_step (with_reducible exact Calls.regrown_of (z4_any _))
  repeat quiet_step (fail)
  refine wpQuiet_nil ?_
  intro w2 hb2
  replace hb2 := below_of hb2
  obtain ⟨hc2, hf2⟩ := rules hb2
  have hs2 := hb2.size
  try simp only [World.size_alloc, World.size_setCell, World.size_drew] at hs2
  have hz2 : w.heap.size + 1 ≤ w2.heap.size := by omega
  go_wp2_with (at_make; refine wpList_make_own _ rfl _ _ 60 rfl 0 5 i0 (.int .u8 0) 1 Tryz.underlying60 hi hy0 hy1 .i64 .i64 15 15 rfl rfl rfl (by rw [hy2]; omega) (by unfold maxLen; omega) (by omega) ?_; intro w3 hB3 hg3; have hb3 := below_none hg3; obtain ⟨hc3, hf3⟩ := rulesB (B := w.heap.size + 1) hb3 hz2)
  refine (appendTo4_any false w2.heap.size 15 0 [] 0 lo w3 hl hl2 hB3 (by have := quad_len lo; omega)).mono ?_
  rintro e w4 ⟨rfl, hB4, hg4⟩
  have HS := (hB4.cast (k' := 0 + (quad lo).length) (xs' := (quadI lo).map (Value.int .u8)) rfl (by rw [List.nil_append, quad_eq])).string
  have hs3 := hb3.size
  have hb4 := below_grown (B := w2.heap.size) hg4 (Nat.le_refl _) hs3
  rw [Nat.zero_add] at HS ⊢
  clear hB4
  go_wp2
  go_ret
  refine ⟨rfl, ?_⟩
  repeat (first | with_reducible exact Below.refl _ _ | with_reducible refine Below.setCell ?_ (by first | omega | (simp only [World.size_alloc, World.size_setCell, World.size_drew]; omega)) _ | with_reducible refine Below.alloc ?_ (by first | omega | (simp only [World.size_alloc, World.size_setCell, World.size_drew]; omega)) _ | with_reducible refine Below.drew ?_ | with_reducible refine Below.trans ?_ (hb4.mono (by first | omega | (simp only [World.size_alloc, World.size_setCell, World.size_drew]; omega))) | with_reducible refine Below.trans ?_ (hb3.mono (by first | omega | (simp only [World.size_alloc, World.size_setCell, World.size_drew]; omega))) | with_reducible refine Below.trans ?_ (hb2.mono (by first | omega | (simp only [World.size_alloc, World.size_setCell, World.size_drew]; omega))) | with_reducible refine Below.trans ?_ (hb1.mono (by first | omega | (simp only [World.size_alloc, World.size_setCell, World.size_drew]; omega))))

set_option maxHeartbeats 800000 in
theorem text_v4 (hi lo : Int) (w : World) (hl : 0 ≤ lo) (hl2 : lo < 4294967296) :
    Calls Tryz.prog 5 #[.agg #[.bool false, .int .u64 (hi), .int .u64 (lo)]] w fun e w' => e = .returned (.string (str (quadI (281470681743360 + lo)))) ∧ Below w.heap.size w w' := by
  have g0 : 0 ≤ 281470681743360 + lo := by omega
  have g1 : 281470681743360 + lo < 18446744073709551616 := by omega
  go_enter Tryz.func5, Tryz.ntmps5
  go_wp2_with fail
  refine (given4_any hi lo _ hl hl2).mono ?_
  rintro e w1 ⟨rfl, hb1⟩
  obtain ⟨hc1, hf1⟩ := rulesB (B := w.heap.size + 1) hb1 (by first | omega | (simp only [World.size_alloc, World.size_setCell, World.size_drew]; omega))
  have hs1 := hb1.size
  try simp only [World.size_alloc, World.size_setCell, World.size_drew] at hs1
  go_wp2_with fail
  refine (string_v4 _ _ g0 g1).mono ?_
  rintro e w2 ⟨rfl, hb2⟩
  obtain ⟨hc2, hf2⟩ := rulesB (B := w.heap.size + 1) hb2 (by first | omega | (simp only [World.size_alloc, World.size_setCell, World.size_drew]; omega))
  have hs2 := hb2.size
  try simp only [World.size_alloc, World.size_setCell, World.size_drew] at hs2
  go_wp2
  go_ret
  refine ⟨rfl, ?_⟩
  repeat (first | with_reducible exact Below.refl _ _ | with_reducible refine Below.setCell ?_ (by first | omega | (simp only [World.size_alloc, World.size_setCell, World.size_drew]; omega)) _ | with_reducible refine Below.alloc ?_ (by first | omega | (simp only [World.size_alloc, World.size_setCell, World.size_drew]; omega)) _ | with_reducible refine Below.drew ?_ | with_reducible refine Below.trans ?_ (hb2.mono (by first | omega | (simp only [World.size_alloc, World.size_setCell, World.size_drew]; omega))) | with_reducible refine Below.trans ?_ (hb1.mono (by first | omega | (simp only [World.size_alloc, World.size_setCell, World.size_drew]; omega))))

end Go.Proofs.YtkploaapcpjkbaaGreatDoor
