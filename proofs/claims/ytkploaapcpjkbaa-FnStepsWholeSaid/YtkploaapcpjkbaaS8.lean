/- The cases of laws.FnStepsWhole put together. -/
import Derived.Test.YtkploaapcpjkbaaS7
namespace Go.Proofs.Ytkploaapcpjkbaa
open Go Go.RowKit Go.Sort
set_option linter.unusedVariables false
set_option linter.unusedSimpArgs false

/-- The package's step and the reference's: whether there is one, they agree; and where there is, on what it is. -/
def Agree (f g : Nat) (six : Bool) (hi lo : Int) : Prop :=
  ∃ (ok b1 b2 : Bool) (x1 x2 y1 y2 : Int), Ret f #[.agg #[.bool six, .int .u64 (hi), .int .u64 (lo)]] (.tuple #[.agg #[.bool b1, .int .u64 (x1), .int .u64 (y1)], .bool ok]) ∧ Ret g #[.agg #[.bool six, .int .u64 (hi), .int .u64 (lo)]] (.tuple #[.agg #[.bool b2, .int .u64 (x2), .int .u64 (y2)], .bool ok]) ∧ (ok = true → b1 = b2 ∧ x1 = x2 ∧ y1 = y2)

theorem next_v4 (hi lo : Int) (h0 : 0 ≤ lo) (h1 : lo < 4294967296) : Agree 11 12 false hi lo := by
  by_cases h : lo = 4294967295
  · exact ⟨false, _, _, _, _, _, _, next_v4_no hi lo h, specNext_v4 hi lo false h0 h1 (by rw [decide_eq_false_iff_not]; omega), fun h => by cases h⟩
  · exact ⟨true, _, _, _, _, _, _, next_v4_ok hi lo h0 (by omega), specNext_v4 hi lo true h0 h1 (by rw [decide_eq_true_iff]; omega), fun _ => ⟨rfl, rfl, by omega⟩⟩
theorem prev_v4 (hi lo : Int) (h0 : 0 ≤ lo) (h1 : lo < 4294967296) : Agree 13 14 false hi lo := by
  by_cases h : lo = 0
  · exact ⟨false, _, _, _, _, _, _, prev_v4_no hi lo h, specPrev_v4 hi lo _ false h0 h1 (by rw [decide_eq_false_iff_not]; omega) rfl, fun h => by cases h⟩
  · have e : bits .and .u64 (IntKind.u64.wrap (lo - 1)) 4294967295 = lo - 1 := by
      rw [wraps_u64 (lo - 1) (by omega) (by omega), low32' _ (by omega) (by omega)]; omega
    exact ⟨true, _, _, _, _, _, _, prev_v4_ok hi lo (by omega) h1, specPrev_v4 hi lo _ true h0 h1 (by rw [decide_eq_true_iff]; omega) e, fun _ => ⟨rfl, rfl, rfl⟩⟩

theorem next_v6 (hi lo : Int) (hh : 0 ≤ hi) (hh2 : hi < 18446744073709551616) (hl : 0 ≤ lo) (hl2 : lo < 18446744073709551616) : Agree 11 12 true hi lo := by
  by_cases h : lo = 18446744073709551615
  · by_cases h' : hi = 18446744073709551615
    · exact ⟨false, _, _, _, _, _, _, next_v6_no hi lo h' h, specNext_v6 hi lo 0 1 0 1 false hh hl (by omega) (by omega) (by omega) (by omega) (by omega) (by omega) (by omega) (by omega) rfl, fun h => by cases h⟩
    · exact ⟨true, _, _, _, _, _, _, next_v6_ok hi lo 0 1 (hi + 1) hh hh2 hl hl2 (by omega) (by omega) (by omega) (by omega) (by omega) (by omega) (by omega), specNext_v6 hi lo 0 1 (hi + 1) 0 true hh hl (by omega) (by omega) (by omega) (by omega) (by omega) (by omega) (by omega) (by omega) rfl, fun _ => ⟨rfl, rfl, rfl⟩⟩
  · exact ⟨true, _, _, _, _, _, _, next_v6_ok hi lo (lo + 1) 0 hi hh hh2 hl hl2 (by omega) (by omega) (by omega) (by omega) (by omega) (by omega) (by omega), specNext_v6 hi lo (lo + 1) 0 hi 0 true hh hl (by omega) (by omega) (by omega) (by omega) (by omega) (by omega) (by omega) (by omega) rfl, fun _ => ⟨rfl, rfl, rfl⟩⟩
theorem prev_v6 (hi lo : Int) (hh : 0 ≤ hi) (hh2 : hi < 18446744073709551616) (hl : 0 ≤ lo) (hl2 : lo < 18446744073709551616) : Agree 13 14 true hi lo := by
  by_cases h : lo = 0
  · by_cases h' : hi = 0
    · exact ⟨false, _, _, _, _, _, _, prev_v6_no hi lo h' h, specPrev_v6 hi lo 18446744073709551615 1 18446744073709551615 1 false hh hh2 hl hl2 (by omega) (by omega) (by omega) (by omega) (by omega) (by omega) (by omega) (by omega) rfl, fun h => by cases h⟩
    · exact ⟨true, _, _, _, _, _, _, prev_v6_ok hi lo 18446744073709551615 1 (hi - 1) hh hh2 hl hl2 (by omega) (by omega) (by omega) (by omega) (by omega) (by omega) (by omega), specPrev_v6 hi lo 18446744073709551615 1 (hi - 1) 0 true hh hh2 hl hl2 (by omega) (by omega) (by omega) (by omega) (by omega) (by omega) (by omega) (by omega) rfl, fun _ => ⟨rfl, rfl, rfl⟩⟩
  · exact ⟨true, _, _, _, _, _, _, prev_v6_ok hi lo (lo - 1) 0 hi hh hh2 hl hl2 (by omega) (by omega) (by omega) (by omega) (by omega) (by omega) (by omega), specPrev_v6 hi lo (lo - 1) 0 hi 0 true hh hh2 hl hl2 (by omega) (by omega) (by omega) (by omega) (by omega) (by omega) (by omega) (by omega) rfl, fun _ => ⟨rfl, rfl, rfl⟩⟩

theorem steps_any (six : Bool) (hi lo : Int) (w : World) (hh : 0 ≤ hi) (hh2 : hi < 18446744073709551616) (hl : 0 ≤ lo) (hl2 : lo < 18446744073709551616) :
    Calls Try.prog 4 #[.bool six, .int .u64 hi, .int .u64 lo] w fun e w' => e = .returned (.bool true) ∧ Below w.heap.size w w' := by
  cases six with
  | false =>
    obtain ⟨ok, b1, b2, x1, x2, y1, y2, n1, n2, en⟩ := next_v4 0 (lo % 4294967296) (by omega) (by omega)
    obtain ⟨is, b3, b4, x3, x4, y3, y4, p1, p2, ep⟩ := prev_v4 0 (lo % 4294967296) (by omega) (by omega)
    exact steps_of false hi lo 0 (lo % 4294967296) b1 b2 b3 b4 x1 x2 x3 x4 y1 y2 y3 y4 ok is w (fun w => specAddr_no hi lo w hl hl2) n1 n2 p1 p2 en ep
  | true =>
    obtain ⟨ok, b1, b2, x1, x2, y1, y2, n1, n2, en⟩ := next_v6 hi lo hh hh2 hl hl2
    obtain ⟨is, b3, b4, x3, x4, y3, y4, p1, p2, ep⟩ := prev_v6 hi lo hh hh2 hl hl2
    exact steps_of true hi lo hi lo b1 b2 b3 b4 x1 x2 x3 x4 y1 y2 y3 y4 ok is w (fun w => specAddr_yes hi lo w) n1 n2 p1 p2 en ep
end Go.Proofs.Ytkploaapcpjkbaa
