/- Contracts of the smallest functions of netip: the sentinels z0, z4, z6noz; which family an address is of. -/
import Derived.Test.YtkploaapcpjkbaaGreatDoorProg
import Derived.Test.YtkploaapcpjkbaaGreatDoorV
import Derived.Test.YtkploaapcpjkbaaGreatDoorP
namespace Go.Proofs.YtkploaapcpjkbaaGreatDoor
open Go Go.RowKit Go.Sort
set_option linter.unusedVariables false
set_option linter.unusedSimpArgs false
attribute [local go_sem] cell_gr

theorem z0_any (w : World) :
    Calls Tryz.prog 37 #[] w fun e w' => e = .returned (.agg #[.bool false, .bool false, .string ⟨#[]⟩]) ∧ Below w.heap.size w w' := by
  go_enter Tryz.func37, Tryz.ntmps37
  go_wp2
  exact bodyPost_ret (v := .agg #[.bool false, .bool false, .string ⟨#[]⟩]) (by simp [results, Tryz.results37, go_sem]) rfl ⟨rfl, (Below.refl _ _).alloc (Nat.le_refl _) _⟩

theorem z4_any (w : World) :
    Calls Tryz.prog 30 #[] w fun e w' => e = .returned (.agg #[.bool true, .bool false, .string ⟨#[]⟩]) ∧ Below w.heap.size w w' := by
  go_enter Tryz.func30, Tryz.ntmps30
  go_wp2
  exact bodyPost_ret (v := .agg #[.bool true, .bool false, .string ⟨#[]⟩]) (by simp [results, Tryz.results30, go_sem]) rfl ⟨rfl, (Below.refl _ _).alloc (Nat.le_refl _) _⟩

theorem z6noz_any (w : World) :
    Calls Tryz.prog 49 #[] w fun e w' => e = .returned (.agg #[.bool true, .bool true, .string ⟨#[]⟩]) ∧ Below w.heap.size w w' := by
  go_enter Tryz.func49, Tryz.ntmps49
  go_wp2
  exact bodyPost_ret (v := .agg #[.bool true, .bool true, .string ⟨#[]⟩]) (by simp [results, Tryz.results49, go_sem]) rfl ⟨rfl, (Below.refl _ _).alloc (Nat.le_refl _) _⟩


set_option maxHeartbeats 400000 in
theorem is6_any (v6 : Bool) (hi lo : Int) (w : World) :
    Calls Tryz.prog 53 #[.agg #[.int .u64 (hi), .int .u64 (lo), .bool true, .bool v6, .string ⟨#[]⟩]] w fun e w' => e = .returned (.bool v6) ∧ Below w.heap.size w w' := by
  cases v6
  all_goals
    go_enter Tryz.func53, Tryz.ntmps53
    go_wp2
    refine wp_region_quiet_below (by kernel_rfl) (by kernel_rfl) ?_
    repeat quiet_step (fail)
    quiet_step (with_reducible exact Calls.regrown_of (z0_any _))
    repeat quiet_step (fail)
    quiet_step (with_reducible exact Calls.regrown_of (z4_any _))
    repeat quiet_step (fail)
    refine wpQuiet_nil ?_
    intro w1 hb1
    replace hb1 := below_of hb1
    obtain ⟨hc1, hf1⟩ := rules hb1
    have hs1 := hb1.size
    try simp only [World.size_alloc, World.size_setCell, World.size_drew] at hs1
    go_wp2
    go_ret
    exact ⟨rfl, ((Below.refl _ _).alloc (Nat.le_refl _) _).trans (hb1.mono (by simp))⟩

set_option maxHeartbeats 400000 in
theorem isValid_any (v6 : Bool) (hi lo : Int) (w : World) :
    Calls Tryz.prog 29 #[.agg #[.int .u64 (hi), .int .u64 (lo), .bool true, .bool v6, .string ⟨#[]⟩]] w fun e w' => e = .returned (.bool true) ∧ Below w.heap.size w w' := by
  cases v6
  all_goals
    go_enter Tryz.func29, Tryz.ntmps29
    go_wp2
    refine wp_region_quiet_below (by kernel_rfl) (by kernel_rfl) ?_
    repeat quiet_step (fail)
    quiet_step (with_reducible exact Calls.regrown_of (z0_any _))
    repeat quiet_step (fail)
    refine wpQuiet_nil ?_
    intro w1 hb1
    replace hb1 := below_of hb1
    obtain ⟨hc1, hf1⟩ := rules hb1
    have hs1 := hb1.size
    try simp only [World.size_alloc, World.size_setCell, World.size_drew] at hs1
    go_wp2
    go_ret
    exact ⟨rfl, ((Below.refl _ _).alloc (Nat.le_refl _) _).trans (hb1.mono (by simp))⟩

set_option maxHeartbeats 400000 in
theorem isValid_zero (w : World) :
    Calls Tryz.prog 29 #[.agg #[.int .u64 0, .int .u64 0, .bool false, .bool false, .string ⟨#[]⟩]] w fun e w' => e = .returned (.bool false) ∧ Below w.heap.size w w' := by
  go_enter Tryz.func29, Tryz.ntmps29
  go_wp2
  refine wp_region_quiet_below (by kernel_rfl) (by kernel_rfl) ?_
  repeat quiet_step (fail)
  quiet_step (with_reducible exact Calls.regrown_of (z0_any _))
  repeat quiet_step (fail)
  refine wpQuiet_nil ?_
  intro w1 hb1
  replace hb1 := below_of hb1
  obtain ⟨hc1, hf1⟩ := rules hb1
  have hs1 := hb1.size
  try simp only [World.size_alloc, World.size_setCell, World.size_drew] at hs1
  go_wp2
  go_ret
  exact ⟨rfl, ((Below.refl _ _).alloc (Nat.le_refl _) _).trans (hb1.mono (by simp))⟩

set_option maxHeartbeats 400000 in
theorem addrFrom4_any (a b c d : Int) (w : World) (ha : 0 ≤ a ∧ a < 256) (hb : 0 ≤ b ∧ b < 256) (hc : 0 ≤ c ∧ c < 256) (hd : 0 ≤ d ∧ d < 256) :
    Calls Tryz.prog 27 #[.agg #[.int .u8 a, .int .u8 b, .int .u8 c, .int .u8 d]] w fun e w' => e = .returned (.agg #[.int .u64 0, .int .u64 (281470681743360 + (a * 16777216 + b * 65536 + c * 256 + d)), .bool true, .bool false, .string ⟨#[]⟩]) ∧ Below w.heap.size w w' := by
  go_enter Tryz.func27, Tryz.ntmps27
  go_wp2
  refine region_tail 22 (by kernel_rfl) (by kernel_rfl) ?_
  simp only [List.take_succ_cons, List.take_zero, List.drop_succ_cons, List.drop_zero]
  repeat quiet_step (fail)
  quiet_step (with_reducible exact Calls.regrown_of (z4_any _))
  repeat quiet_step (fail)
  refine wpQuiet_nil ?_
  intro w1 hb1
  obtain ⟨hc1, hf1⟩ := rules hb1
  have hs1 := hb1.size
  try simp only [World.size_alloc, World.size_setCell, World.size_drew] at hs1
  go_wp2
  refine bodyPost_ret (v := .agg #[.int .u64 0, .int .u64 (bits .or .u64 (bits .or .u64 (bits .or .u64 (bits .or .u64 281470681743360 (a * 16777216)) (b * 65536)) (c * 256)) d), .bool true, .bool false, .string ⟨#[]⟩]) ?_ rfl ⟨by rw [lo4_eq a b c d ha hb hc hd], ?_⟩
  · simp [results, Tryz.results27, go_sem, hc1]
  repeat (first | with_reducible exact Below.refl _ _ | with_reducible refine Below.setCell ?_ (by first | omega | (simp only [World.size_alloc, World.size_setCell, World.size_drew]; omega)) _ | with_reducible refine Below.alloc ?_ (by first | omega | (simp only [World.size_alloc, World.size_setCell, World.size_drew]; omega)) _ | with_reducible refine Below.drew ?_ | with_reducible refine Below.trans ?_ (hb1.mono (by first | omega | (simp only [World.size_alloc, World.size_setCell, World.size_drew]; omega))))
end Go.Proofs.YtkploaapcpjkbaaGreatDoor
