/- Contract: the reference's Same, of two lists that are the same. -/
import Derived.Test.YtkploaapcpjkbaaB5
namespace Go.Proofs.Ytkploaapcpjkbaa
open Go Go.RowKit Go.Sort
set_option linter.unusedVariables false
set_option linter.unusedSimpArgs false
attribute [local go_sem] cell_gr

set_option maxHeartbeats 800000 in
theorem same_any (f : Nat → Bool) (b1 b2 : Nat) (w : World) (h1 : b1 < w.heap.size) (h2 : b2 < w.heap.size)
    (c1 : ∀ i, i < 6 → w.cell? ⟨b1, i, none⟩ = some (.bool (f i))) (c2 : ∀ i, i < 6 → w.cell? ⟨b2, i, none⟩ = some (.bool (f i))) :
    Calls Try.prog 8 #[.slice (some ⟨b1, 0, none⟩) 6 6, .slice (some ⟨b2, 0, none⟩) 6 6] w fun e w' => e = .returned (.bool true) ∧ Below w.heap.size w w' := by
  have C1 := Lib.hid c1
  have C2 := Lib.hid c2
  clear c1 c2
  go_enter Try.func8, Try.ntmps8
  go_wp2
  go_loopw [13] (fun i wr => ∃ k : Nat, k ≤ 6 ∧ i = .int .i64 k ∧ Below w.heap.size w wr) (fun i _ => 6 - (intOf i).toNat)
  case atStart => exact ⟨0, by omega, rfl, Below.refl _ _⟩
  case round =>
    obtain ⟨k, hk, rfl, hb⟩ := hrel
    have hs := hb.size
    by_cases hlt : k < 6
    · have g1 : wr.cell? ⟨b1, k, none⟩ = some (.bool (f k)) := (hb.cell (p := ⟨b1, k, none⟩) h1).trans (C1.out k hlt)
      have g2 : wr.cell? ⟨b2, k, none⟩ = some (.bool (f k)) := (hb.cell (p := ⟨b2, k, none⟩) h2).trans (C2.out k hlt)
      have z1 : b1 < wr.heap.size := by omega
      have z2 : b2 < wr.heap.size := by omega
      have z3 : (k : Int) < 6 := by omega
      have z4 : (0 : Int) ≤ k := by omega
      go_wp2
      refine wp_region_quiet_below (by kernel_rfl) (by kernel_rfl) ?_
      repeat quiet_step (fail)
      refine wpQuiet_nil ?_
      intro w1 hb1
      replace hb1 := below_of hb1
      obtain ⟨hc1, hf1⟩ := rules hb1
      have hs1 := hb1.size
      try simp only [World.size_alloc, World.size_setCell, World.size_drew] at hs1
      go_wp2
      go_roundw
      case rel => exact ⟨k + 1, by omega, by go_num, hb.trans (hb1.mono hs)⟩
      case measure => simp [intOf]; omega
    · obtain rfl : k = 6 := by omega
      go_wp2
      go_ret
      exact ⟨rfl, hb⟩
end Go.Proofs.Ytkploaapcpjkbaa
