/- The contract of a function that hands back one value, as a Prop; the zone of an address. -/
import Derived.Test.YtkploaapcpjkbaaGreatDoorA3
import Derived.Test.YtkploaapcpjkbaaGreatDoorSA
namespace Go.Proofs.YtkploaapcpjkbaaGreatDoor
open Go Go.RowKit Go.Sort
set_option linter.unusedVariables false
set_option linter.unusedSimpArgs false
attribute [local go_sem] cell_gr

/-- Function f, called with these arguments in whatever world, hands back v and leaves what was there as it was. -/
def Ret (f : Nat) (args : Array Value) (v : Value) : Prop := ∀ w : World, Calls Tryz.prog f args w fun e w' => e = .returned v ∧ Below w.heap.size w w'
theorem Ret.at {f : Nat} {args : Array Value} {v : Value} (h : Ret f args v) (w : World) : Calls Tryz.prog f args w fun e w' => e = .returned v ∧ Below w.heap.size w w' := h w
theorem zone_any (z : Bool) (hi lo : Int) : Ret 14 #[.agg #[.int .u64 (hi), .int .u64 (lo), .bool true, .bool z, .string ⟨#[]⟩]] (.string ⟨#[]⟩) := by
  intro w
  cases z
  all_goals
    go_enter Tryz.func14, Tryz.ntmps14
    go_wp2
    refine wp_region_quiet_below (by kernel_rfl) (by kernel_rfl) ?_
    repeat quiet_step (fail)
    quiet_step (with_reducible exact Calls.regrown_of (z0_any _))
    repeat quiet_step (fail)
    refine wpQuiet_nil ?_
    intro w1 hb1
    replace hb1 := below_of hb1
    obtain ⟨hc1, hf1⟩ := rules hb1
    have hs1 := hb1.size
    try simp only [World.size_alloc, World.size_setCell, World.size_drew] at hs1
    go_wp2
    go_ret
    refine ⟨rfl, ?_⟩
    repeat (first | with_reducible exact Below.refl _ _ | with_reducible refine Below.setCell ?_ (by first | omega | (simp only [World.size_alloc, World.size_setCell, World.size_drew]; omega)) _ | with_reducible refine Below.alloc ?_ (by first | omega | (simp only [World.size_alloc, World.size_setCell, World.size_drew]; omega)) _ | with_reducible refine Below.drew ?_ | with_reducible refine Below.trans ?_ (hb1.mono (by first | omega | (simp only [World.size_alloc, World.size_setCell, World.size_drew]; omega))))
end Go.Proofs.YtkploaapcpjkbaaGreatDoor
