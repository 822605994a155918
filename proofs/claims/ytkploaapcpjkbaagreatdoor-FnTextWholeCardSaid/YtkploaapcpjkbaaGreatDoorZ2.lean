/- Contracts: appendHexPad; a group at a variable index. -/
import Derived.Test.YtkploaapcpjkbaaGreatDoorZ1
import Derived.Test.YtkploaapcpjkbaaGreatDoorB1
import Derived.Test.YtkploaapcpjkbaaGreatDoorV
namespace Go.Proofs.YtkploaapcpjkbaaGreatDoor
open Go Go.RowKit Go.Sort
set_option linter.unusedVariables false
set_option linter.unusedSimpArgs false
attribute [local go_sem] cell_gr hx_at

theorem v6u16_any (hi lo : Int) (z : Bool) (i : Nat) (h : i < 8) (w : World) (hh : 0 ≤ hi) (hh2 : hi < 18446744073709551616) (hl : 0 ≤ lo) (hl2 : lo < 18446744073709551616) :
    Calls Tryz.prog 48 #[.agg #[.int .u64 (hi), .int .u64 (lo), .bool true, .bool z, .string ⟨#[]⟩], .int .u8 (i : Int)] w fun e w' => e = .returned (.int .u16 (grp hi lo i)) ∧ Below w.heap.size w w' := by
  match i, h with
  | 0, _ => exact v6u16_0 hi lo z w hh hh2 hl hl2
  | 1, _ => exact v6u16_1 hi lo z w hh hh2 hl hl2
  | 2, _ => exact v6u16_2 hi lo z w hh hh2 hl hl2
  | 3, _ => exact v6u16_3 hi lo z w hh hh2 hl hl2
  | 4, _ => exact v6u16_4 hi lo z w hh hh2 hl hl2
  | 5, _ => exact v6u16_5 hi lo z w hh hh2 hl hl2
  | 6, _ => exact v6u16_6 hi lo z w hh hh2 hl hl2
  | 7, _ => exact v6u16_7 hi lo z w hh hh2 hl hl2
  | n + 8, h => exact absurd h (by omega)
end Go.Proofs.YtkploaapcpjkbaaGreatDoor
