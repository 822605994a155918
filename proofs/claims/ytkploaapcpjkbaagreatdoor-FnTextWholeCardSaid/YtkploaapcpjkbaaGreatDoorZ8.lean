/- Contracts: impl.Text, impl.Expanded. -/
import Derived.Test.YtkploaapcpjkbaaGreatDoorZ7
import Derived.Test.YtkploaapcpjkbaaGreatDoorO1z
namespace Go.Proofs.YtkploaapcpjkbaaGreatDoor
open Go Go.RowKit Go.Sort
set_option linter.unusedVariables false
set_option linter.unusedSimpArgs false
attribute [local go_sem] cell_gr

theorem decI_eq (x : Int) : decI x = (decU x).map fun c => (c.toNat : Int) := by
  unfold decI decU; split <;> (try split) <;> rfl
theorem quadI_eq (lo : Int) : quadI lo = (quadU lo).map fun c => (c.toNat : Int) := by
  simp only [quadI, quadU, List.map_append, decI_eq]; rfl
theorem str_quad (lo : Int) : str (quadI lo) = bs (quadU lo) := by rw [quadI_eq, str_bs]
theorem byteAt_low (lo : Int) (h0 : 0 ≤ lo) (h1 : lo < 4294967296) (j : Nat) (h : j < 4) : byteAt (281470681743360 + lo) j = byteAt lo j := by
  match j, h with
  | 0, _ | 1, _ | 2, _ | 3, _ => simp only [byteAt, Int.reducePow]; omega
  | n + 4, h => exact absurd h (by omega)
theorem quadU_low (lo : Int) (h0 : 0 ≤ lo) (h1 : lo < 4294967296) : quadU (281470681743360 + lo) = quadU lo := by
  simp only [quadU, byteAt_low lo h0 h1 0 (by omega), byteAt_low lo h0 h1 1 (by omega), byteAt_low lo h0 h1 2 (by omega), byteAt_low lo h0 h1 3 (by omega)]

theorem text4 (hi lo : Int) (hl : 0 ≤ lo) (hl2 : lo < 4294967296) : Ret 5 #[.agg #[.bool false, .int .u64 (hi), .int .u64 (lo)]] (.string (bs (quadU lo))) := fun w => by
  have h := text_v4 hi lo w hl hl2
  rwa [str_quad, quadU_low lo hl hl2] at h

theorem text6 (hi lo : Int) (hh : 0 ≤ hi) (hh2 : hi < 18446744073709551616) (hl : 0 ≤ lo) (hl2 : lo < 18446744073709551616) : Ret 5 #[.agg #[.bool true, .int .u64 (hi), .int .u64 (lo)]] (.string (bs (textU hi lo))) := by
  intro w
  go_enter Tryz.func5, Tryz.ntmps5
  go_wp2_with fail
  refine (given6_any hi lo _ hh hh2 hl hl2).mono ?_
  rintro e w1 ⟨rfl, hb1⟩
  obtain ⟨hc1, hf1⟩ := rulesB (B := w.heap.size + 1) hb1 (by first | omega | (simp only [World.size_alloc, World.size_setCell, World.size_drew]; omega))
  have hs1 := hb1.size
  try simp only [World.size_alloc, World.size_setCell, World.size_drew] at hs1
  go_wp2_with fail
  refine (string_any _ _ _ hh hh2 hl hl2).mono ?_
  rintro e w2 ⟨rfl, hb2⟩
  obtain ⟨hc2, hf2⟩ := rulesB (B := w.heap.size + 1) hb2 (by first | omega | (simp only [World.size_alloc, World.size_setCell, World.size_drew]; omega))
  have hs2 := hb2.size
  try simp only [World.size_alloc, World.size_setCell, World.size_drew] at hs2
  go_wp2
  go_ret
  refine ⟨rfl, ?_⟩
  repeat (first | with_reducible exact Below.refl _ _ | with_reducible refine Below.setCell ?_ (by first | omega | (simp only [World.size_alloc, World.size_setCell, World.size_drew]; omega)) _ | with_reducible refine Below.alloc ?_ (by first | omega | (simp only [World.size_alloc, World.size_setCell, World.size_drew]; omega)) _ | with_reducible refine Below.drew ?_ | with_reducible refine Below.trans ?_ (hb2.mono (by first | omega | (simp only [World.size_alloc, World.size_setCell, World.size_drew]; omega))) | with_reducible refine Below.trans ?_ (hb1.mono (by first | omega | (simp only [World.size_alloc, World.size_setCell, World.size_drew]; omega))))

theorem stringExpanded_v4 (lo : Int) (w : World) (hl : 0 ≤ lo) (hl2 : lo < 18446744073709551616) :
    Calls Tryz.prog 24 #[.agg #[.int .u64 0, .int .u64 (lo), .bool true, .bool false, .string ⟨#[]⟩]] w fun e w' => e = .returned (.string (bs (quadU lo))) ∧ Below w.heap.size w w' := by
  have HS := fun w => string_v4 lo w hl hl2
  simp only [str_quad] at HS
  have HH := Lib.hid HS
  clear HS
  go_enter Tryz.func24, Tryz.ntmps24
  go_wp2_with fail
  refine (z0_any _).mono ?_
  rintro e w1 ⟨rfl, hb1⟩
  obtain ⟨hc1, hf1⟩ := rulesB (B := w.heap.size + 1) hb1 (by first | omega | (simp only [World.size_alloc, World.size_setCell, World.size_drew]; omega))
  have hs1 := hb1.size
  try simp only [World.size_alloc, World.size_setCell, World.size_drew] at hs1
  have hz : w.heap.size < w1.heap.size := by omega
  go_wp2_with fail
  refine (z4_any _).mono ?_
  rintro e w2 ⟨rfl, hb2⟩
  obtain ⟨hc2, hf2⟩ := rulesB (B := w.heap.size + 1) hb2 (by first | omega | (simp only [World.size_alloc, World.size_setCell, World.size_drew]; omega))
  have hs2 := hb2.size
  try simp only [World.size_alloc, World.size_setCell, World.size_drew] at hs2
  have hz2 : w.heap.size + 1 ≤ w2.heap.size := by omega
  go_wp2_with fail
  refine (HH.out _).mono ?_
  rintro e w3 ⟨rfl, hb3⟩
  obtain ⟨hc3, hf3⟩ := rulesB (B := w.heap.size + 1) hb3 (by first | omega | (simp only [World.size_alloc, World.size_setCell, World.size_drew]; omega))
  have hs3 := hb3.size
  try simp only [World.size_alloc, World.size_setCell, World.size_drew] at hs3
  go_wp2
  go_ret
  refine ⟨rfl, ?_⟩
  repeat (first | with_reducible exact Below.refl _ _ | with_reducible refine Below.setCell ?_ (by first | omega | (simp only [World.size_alloc, World.size_setCell, World.size_drew]; omega)) _ | with_reducible refine Below.alloc ?_ (by first | omega | (simp only [World.size_alloc, World.size_setCell, World.size_drew]; omega)) _ | with_reducible refine Below.drew ?_ | with_reducible refine Below.trans ?_ (hb3.mono (by first | omega | (simp only [World.size_alloc, World.size_setCell, World.size_drew]; omega))) | with_reducible refine Below.trans ?_ (hb2.mono (by first | omega | (simp only [World.size_alloc, World.size_setCell, World.size_drew]; omega))) | with_reducible refine Below.trans ?_ (hb1.mono (by first | omega | (simp only [World.size_alloc, World.size_setCell, World.size_drew]; omega))))

theorem expanded4 (hi lo : Int) (hl : 0 ≤ lo) (hl2 : lo < 4294967296) : Ret 9 #[.agg #[.bool false, .int .u64 (hi), .int .u64 (lo)]] (.string (bs (quadU lo))) := by
  intro w
  have g0 : 0 ≤ 281470681743360 + lo := by omega
  have g1 : 281470681743360 + lo < 18446744073709551616 := by omega
  have HQ := Lib.hid (quadU_low lo hl hl2)
  go_enter Tryz.func9, Tryz.ntmps9
  go_wp2_with fail
  refine (given4_any hi lo _ hl hl2).mono ?_
  rintro e w1 ⟨rfl, hb1⟩
  obtain ⟨hc1, hf1⟩ := rulesB (B := w.heap.size + 1) hb1 (by first | omega | (simp only [World.size_alloc, World.size_setCell, World.size_drew]; omega))
  have hs1 := hb1.size
  try simp only [World.size_alloc, World.size_setCell, World.size_drew] at hs1
  go_wp2_with fail
  refine (stringExpanded_v4 _ _ g0 g1).mono ?_
  rintro e w2 ⟨rfl, hb2⟩
  obtain ⟨hc2, hf2⟩ := rulesB (B := w.heap.size + 1) hb2 (by first | omega | (simp only [World.size_alloc, World.size_setCell, World.size_drew]; omega))
  have hs2 := hb2.size
  try simp only [World.size_alloc, World.size_setCell, World.size_drew] at hs2
  rw [HQ.out]
  go_wp2
  go_ret
  refine ⟨rfl, ?_⟩
  repeat (first | with_reducible exact Below.refl _ _ | with_reducible refine Below.setCell ?_ (by first | omega | (simp only [World.size_alloc, World.size_setCell, World.size_drew]; omega)) _ | with_reducible refine Below.alloc ?_ (by first | omega | (simp only [World.size_alloc, World.size_setCell, World.size_drew]; omega)) _ | with_reducible refine Below.drew ?_ | with_reducible refine Below.trans ?_ (hb2.mono (by first | omega | (simp only [World.size_alloc, World.size_setCell, World.size_drew]; omega))) | with_reducible refine Below.trans ?_ (hb1.mono (by first | omega | (simp only [World.size_alloc, World.size_setCell, World.size_drew]; omega))))
theorem expanded6 (hi lo : Int) (hh : 0 ≤ hi) (hh2 : hi < 18446744073709551616) (hl : 0 ≤ lo) (hl2 : lo < 18446744073709551616) : Ret 9 #[.agg #[.bool true, .int .u64 (hi), .int .u64 (lo)]] (.string (bs (pads (grp hi lo) 8))) := by
  intro w
  go_enter Tryz.func9, Tryz.ntmps9
  go_wp2_with fail
  refine (given6_any hi lo _ hh hh2 hl hl2).mono ?_
  rintro e w1 ⟨rfl, hb1⟩
  obtain ⟨hc1, hf1⟩ := rulesB (B := w.heap.size + 1) hb1 (by first | omega | (simp only [World.size_alloc, World.size_setCell, World.size_drew]; omega))
  have hs1 := hb1.size
  try simp only [World.size_alloc, World.size_setCell, World.size_drew] at hs1
  go_wp2_with fail
  refine (stringExpanded_v6 _ _ _ hh hh2 hl hl2).mono ?_
  rintro e w2 ⟨rfl, hb2⟩
  obtain ⟨hc2, hf2⟩ := rulesB (B := w.heap.size + 1) hb2 (by first | omega | (simp only [World.size_alloc, World.size_setCell, World.size_drew]; omega))
  have hs2 := hb2.size
  try simp only [World.size_alloc, World.size_setCell, World.size_drew] at hs2
  go_wp2
  go_ret
  refine ⟨rfl, ?_⟩
  repeat (first | with_reducible exact Below.refl _ _ | with_reducible refine Below.setCell ?_ (by first | omega | (simp only [World.size_alloc, World.size_setCell, World.size_drew]; omega)) _ | with_reducible refine Below.alloc ?_ (by first | omega | (simp only [World.size_alloc, World.size_setCell, World.size_drew]; omega)) _ | with_reducible refine Below.drew ?_ | with_reducible refine Below.trans ?_ (hb2.mono (by first | omega | (simp only [World.size_alloc, World.size_setCell, World.size_drew]; omega))) | with_reducible refine Below.trans ?_ (hb1.mono (by first | omega | (simp only [World.size_alloc, World.size_setCell, World.size_drew]; omega))))
end Go.Proofs.YtkploaapcpjkbaaGreatDoor
