/- Contracts: the reference's Addr. -/
import Derived.Test.YtkploaapcpjkbaaGreatDoorA1
namespace Go.Proofs.YtkploaapcpjkbaaGreatDoor
open Go Go.RowKit Go.Sort
set_option linter.unusedVariables false
set_option linter.unusedSimpArgs false
attribute [local go_sem] cell_gr

theorem low32 (x : Int) (h0 : 0 ≤ x) (h1 : x < 18446744073709551616) : bits .and .u64 x 4294967295 = x % 4294967296 :=
  u64_low 32 (by decide) x _ h0 (by omega) (by decide)

set_option maxHeartbeats 400000 in
theorem specAddr_no (hi lo : Int) (w : World) (hl : 0 ≤ lo) (hl2 : lo < 18446744073709551616) :
    Calls Tryz.prog 4 #[.bool false, .int .u64 hi, .int .u64 lo] w fun e w' => e = .returned (.agg #[.bool false, .int .u64 (0), .int .u64 (lo % 4294967296)]) ∧ Below w.heap.size w w' := by
  have HL := Lib.hid (low32 lo hl hl2)
  go_enter Tryz.func4, Tryz.ntmps4
  go_wp2
  refine bodyPost_ret (v := .agg #[.bool false, .int .u64 (0), .int .u64 (bits .and .u64 lo 4294967295)]) ?_ rfl ⟨by rw [HL.out], ?_⟩
  · simp [results, Tryz.results4, go_sem]
  repeat (first | with_reducible exact Below.refl _ _ | with_reducible refine Below.setCell ?_ (by first | omega | (simp only [World.size_alloc, World.size_setCell, World.size_drew]; omega)) _ | with_reducible refine Below.alloc ?_ (by first | omega | (simp only [World.size_alloc, World.size_setCell, World.size_drew]; omega)) _ | with_reducible refine Below.drew ?_)

set_option maxHeartbeats 400000 in
theorem specAddr_yes (hi lo : Int) (w : World) :
    Calls Tryz.prog 4 #[.bool true, .int .u64 hi, .int .u64 lo] w fun e w' => e = .returned (.agg #[.bool true, .int .u64 (hi), .int .u64 (lo)]) ∧ Below w.heap.size w w' := by
  go_enter Tryz.func4, Tryz.ntmps4
  go_wp2
  refine bodyPost_ret (v := .agg #[.bool true, .int .u64 (hi), .int .u64 (lo)]) ?_ rfl ⟨rfl, ?_⟩
  · simp [results, Tryz.results4, go_sem]
  repeat (first | with_reducible exact Below.refl _ _ | with_reducible refine Below.setCell ?_ (by first | omega | (simp only [World.size_alloc, World.size_setCell, World.size_drew]; omega)) _ | with_reducible refine Below.alloc ?_ (by first | omega | (simp only [World.size_alloc, World.size_setCell, World.size_drew]; omega)) _ | with_reducible refine Below.drew ?_)

end Go.Proofs.YtkploaapcpjkbaaGreatDoor
