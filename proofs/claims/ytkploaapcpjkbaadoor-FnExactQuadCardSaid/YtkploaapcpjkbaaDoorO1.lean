/- Contracts: how long an address is; its zone; Compare of two addresses; the reference's sign and Compare. -/
import Derived.Test.YtkploaapcpjkbaaDoorA3
import Derived.Test.YtkploaapcpjkbaaDoorSA
namespace Go.Proofs.YtkploaapcpjkbaaDoor
open Go Go.RowKit Go.Sort
set_option linter.unusedVariables false
set_option linter.unusedSimpArgs false
attribute [local go_sem] cell_gr

/-- Function f, called with these arguments in whatever world, hands back v and leaves what was there as it was. -/
def Ret (f : Nat) (args : Array Value) (v : Value) : Prop := ∀ w : World, Calls Tryd.prog f args w fun e w' => e = .returned v ∧ Below w.heap.size w w'
theorem Ret.at {f : Nat} {args : Array Value} {v : Value} (h : Ret f args v) (w : World) : Calls Tryd.prog f args w fun e w' => e = .returned v ∧ Below w.heap.size w w' := h w

theorem bitLen_v4 (hi lo : Int) : Ret 29 #[.agg #[.int .u64 (hi), .int .u64 (lo), .bool true, .bool false, .string ⟨#[]⟩]] (.int .i64 32) := by
  intro w
  go_enter Tryd.func29, Tryd.ntmps29
  go_wp2_with fail
  refine (z0_any _).mono ?_
  rintro e w1 ⟨rfl, hb1⟩
  obtain ⟨hc1, hf1⟩ := rulesB (B := w.heap.size + 1) hb1 (by first | omega | (simp only [World.size_alloc, World.size_setCell, World.size_drew]; omega))
  have hs1 := hb1.size
  try simp only [World.size_alloc, World.size_setCell, World.size_drew] at hs1
  go_wp2_with fail
  refine (z4_any _).mono ?_
  rintro e w2 ⟨rfl, hb2⟩
  obtain ⟨hc2, hf2⟩ := rulesB (B := w.heap.size + 1) hb2 (by first | omega | (simp only [World.size_alloc, World.size_setCell, World.size_drew]; omega))
  have hs2 := hb2.size
  try simp only [World.size_alloc, World.size_setCell, World.size_drew] at hs2
  go_wp2
  go_ret
  refine ⟨rfl, ?_⟩
  repeat (first | with_reducible exact Below.refl _ _ | with_reducible refine Below.setCell ?_ (by first | omega | (simp only [World.size_alloc, World.size_setCell, World.size_drew]; omega)) _ | with_reducible refine Below.alloc ?_ (by first | omega | (simp only [World.size_alloc, World.size_setCell, World.size_drew]; omega)) _ | with_reducible refine Below.drew ?_ | with_reducible refine Below.trans ?_ (hb2.mono (by first | omega | (simp only [World.size_alloc, World.size_setCell, World.size_drew]; omega))) | with_reducible refine Below.trans ?_ (hb1.mono (by first | omega | (simp only [World.size_alloc, World.size_setCell, World.size_drew]; omega))))
theorem bitLen_v6 (hi lo : Int) : Ret 29 #[.agg #[.int .u64 (hi), .int .u64 (lo), .bool true, .bool true, .string ⟨#[]⟩]] (.int .i64 128) := by
  intro w
  go_enter Tryd.func29, Tryd.ntmps29
  go_wp2_with fail
  refine (z0_any _).mono ?_
  rintro e w1 ⟨rfl, hb1⟩
  obtain ⟨hc1, hf1⟩ := rulesB (B := w.heap.size + 1) hb1 (by first | omega | (simp only [World.size_alloc, World.size_setCell, World.size_drew]; omega))
  have hs1 := hb1.size
  try simp only [World.size_alloc, World.size_setCell, World.size_drew] at hs1
  go_wp2_with fail
  refine (z4_any _).mono ?_
  rintro e w2 ⟨rfl, hb2⟩
  obtain ⟨hc2, hf2⟩ := rulesB (B := w.heap.size + 1) hb2 (by first | omega | (simp only [World.size_alloc, World.size_setCell, World.size_drew]; omega))
  have hs2 := hb2.size
  try simp only [World.size_alloc, World.size_setCell, World.size_drew] at hs2
  go_wp2
  go_ret
  refine ⟨rfl, ?_⟩
  repeat (first | with_reducible exact Below.refl _ _ | with_reducible refine Below.setCell ?_ (by first | omega | (simp only [World.size_alloc, World.size_setCell, World.size_drew]; omega)) _ | with_reducible refine Below.alloc ?_ (by first | omega | (simp only [World.size_alloc, World.size_setCell, World.size_drew]; omega)) _ | with_reducible refine Below.drew ?_ | with_reducible refine Below.trans ?_ (hb2.mono (by first | omega | (simp only [World.size_alloc, World.size_setCell, World.size_drew]; omega))) | with_reducible refine Below.trans ?_ (hb1.mono (by first | omega | (simp only [World.size_alloc, World.size_setCell, World.size_drew]; omega))))
theorem zone_any (z : Bool) (hi lo : Int) : Ret 24 #[.agg #[.int .u64 (hi), .int .u64 (lo), .bool true, .bool z, .string ⟨#[]⟩]] (.string ⟨#[]⟩) := by
  intro w
  cases z
  all_goals
    go_enter Tryd.func24, Tryd.ntmps24
    go_wp2
    refine wp_region_quiet_below (by kernel_rfl) (by kernel_rfl) ?_
    repeat quiet_step (fail)
    quiet_step (with_reducible exact Calls.regrown_of (z0_any _))
    repeat quiet_step (fail)
    refine wpQuiet_nil ?_
    intro w1 hb1
    replace hb1 := below_of hb1
    obtain ⟨hc1, hf1⟩ := rules hb1
    have hs1 := hb1.size
    try simp only [World.size_alloc, World.size_setCell, World.size_drew] at hs1
    go_wp2
    go_ret
    refine ⟨rfl, ?_⟩
    repeat (first | with_reducible exact Below.refl _ _ | with_reducible refine Below.setCell ?_ (by first | omega | (simp only [World.size_alloc, World.size_setCell, World.size_drew]; omega)) _ | with_reducible refine Below.alloc ?_ (by first | omega | (simp only [World.size_alloc, World.size_setCell, World.size_drew]; omega)) _ | with_reducible refine Below.drew ?_ | with_reducible refine Below.trans ?_ (hb1.mono (by first | omega | (simp only [World.size_alloc, World.size_setCell, World.size_drew]; omega))))

def sgn (a b : Int) : Int := if a < b then -1 else if b < a then 1 else 0
/-- Two addresses compared: by their lengths, and then as numbers. -/
def scmp (sa : Bool) (ha la : Int) (sb : Bool) (hb lb : Int) : Int :=
  if sa ≠ sb then (if sb then -1 else 1) else if ha ≠ hb then sgn ha hb else sgn la lb

set_option maxHeartbeats 800000 in
theorem compare_apart (sa sb : Bool) (ha la hb lb : Int) (hs : sa ≠ sb) : Ret 16 #[.agg #[.int .u64 (ha), .int .u64 (la), .bool true, .bool sa, .string ⟨#[]⟩], .agg #[.int .u64 (hb), .int .u64 (lb), .bool true, .bool sb, .string ⟨#[]⟩]] (.int .i64 (if sb then -1 else 1)) := by
  intro w
  cases sa <;> cases sb <;> first | exact absurd rfl hs | skip
  · clear hs
    go_enter Tryd.func16, Tryd.ntmps16
    go_wp2
    refine wp_region_quiet_below (by kernel_rfl) (by kernel_rfl) ?_
    repeat quiet_step (fail)
    quiet_step (with_reducible exact Calls.regrown_of ((bitLen_v4 _ _).at _))
    repeat quiet_step (fail)
    quiet_step (with_reducible exact Calls.regrown_of ((bitLen_v6 _ _).at _))
    repeat quiet_step (fail)
    refine wpQuiet_nil ?_
    intro w1 hb1
    replace hb1 := below_of hb1
    obtain ⟨hc1, hf1⟩ := rules hb1
    have hs1 := hb1.size
    try simp only [World.size_alloc, World.size_setCell, World.size_drew] at hs1
    go_wp2
    go_ret
    refine ⟨rfl, ?_⟩
    repeat (first | with_reducible exact Below.refl _ _ | with_reducible refine Below.setCell ?_ (by first | omega | (simp only [World.size_alloc, World.size_setCell, World.size_drew]; omega)) _ | with_reducible refine Below.alloc ?_ (by first | omega | (simp only [World.size_alloc, World.size_setCell, World.size_drew]; omega)) _ | with_reducible refine Below.drew ?_ | with_reducible refine Below.trans ?_ (hb1.mono (by first | omega | (simp only [World.size_alloc, World.size_setCell, World.size_drew]; omega))))
  · clear hs
    go_enter Tryd.func16, Tryd.ntmps16
    go_wp2
    refine wp_region_quiet_below (by kernel_rfl) (by kernel_rfl) ?_
    repeat quiet_step (fail)
    quiet_step (with_reducible exact Calls.regrown_of ((bitLen_v6 _ _).at _))
    repeat quiet_step (fail)
    quiet_step (with_reducible exact Calls.regrown_of ((bitLen_v4 _ _).at _))
    repeat quiet_step (fail)
    refine wpQuiet_nil ?_
    intro w1 hb1
    replace hb1 := below_of hb1
    obtain ⟨hc1, hf1⟩ := rules hb1
    have hs1 := hb1.size
    try simp only [World.size_alloc, World.size_setCell, World.size_drew] at hs1
    go_wp2
    go_ret
    refine ⟨rfl, ?_⟩
    repeat (first | with_reducible exact Below.refl _ _ | with_reducible refine Below.setCell ?_ (by first | omega | (simp only [World.size_alloc, World.size_setCell, World.size_drew]; omega)) _ | with_reducible refine Below.alloc ?_ (by first | omega | (simp only [World.size_alloc, World.size_setCell, World.size_drew]; omega)) _ | with_reducible refine Below.drew ?_ | with_reducible refine Below.trans ?_ (hb1.mono (by first | omega | (simp only [World.size_alloc, World.size_setCell, World.size_drew]; omega))))
end Go.Proofs.YtkploaapcpjkbaaDoor
