/- Contracts: the reference's Addr, Mapped, Kinds, Same. -/
import Derived.Test.YtkploaapcpjkbaaB4
namespace Go.Proofs.Ytkploaapcpjkbaa
open Go Go.RowKit Go.Sort
set_option linter.unusedVariables false
set_option linter.unusedSimpArgs false
attribute [local go_sem] cell_gr

theorem low32 (x : Int) (h0 : 0 ≤ x) (h1 : x < 18446744073709551616) : bits .and .u64 x 4294967295 = x % 4294967296 :=
  u64_low 32 (by decide) x _ h0 (by omega) (by decide)

set_option maxHeartbeats 400000 in
theorem specAddr_no (hi lo : Int) (w : World) (hl : 0 ≤ lo) (hl2 : lo < 18446744073709551616) :
    Calls Try.prog 5 #[.bool false, .int .u64 hi, .int .u64 lo] w fun e w' => e = .returned (.agg #[.bool false, .int .u64 (0), .int .u64 (lo % 4294967296)]) ∧ Below w.heap.size w w' := by
  have HL := Lib.hid (low32 lo hl hl2)
  go_enter Try.func5, Try.ntmps5
  go_wp2
  refine bodyPost_ret (v := .agg #[.bool false, .int .u64 (0), .int .u64 (bits .and .u64 lo 4294967295)]) ?_ rfl ⟨by rw [HL.out], ?_⟩
  · simp [results, Try.results5, go_sem]
  repeat (first | with_reducible exact Below.refl _ _ | with_reducible refine Below.setCell ?_ (by first | omega | (simp only [World.size_alloc, World.size_setCell, World.size_drew]; omega)) _ | with_reducible refine Below.alloc ?_ (by first | omega | (simp only [World.size_alloc, World.size_setCell, World.size_drew]; omega)) _ | with_reducible refine Below.drew ?_)

set_option maxHeartbeats 400000 in
theorem specAddr_yes (hi lo : Int) (w : World) :
    Calls Try.prog 5 #[.bool true, .int .u64 hi, .int .u64 lo] w fun e w' => e = .returned (.agg #[.bool true, .int .u64 (hi), .int .u64 (lo)]) ∧ Below w.heap.size w w' := by
  go_enter Try.func5, Try.ntmps5
  go_wp2
  refine bodyPost_ret (v := .agg #[.bool true, .int .u64 (hi), .int .u64 (lo)]) ?_ rfl ⟨rfl, ?_⟩
  · simp [results, Try.results5, go_sem]
  repeat (first | with_reducible exact Below.refl _ _ | with_reducible refine Below.setCell ?_ (by first | omega | (simp only [World.size_alloc, World.size_setCell, World.size_drew]; omega)) _ | with_reducible refine Below.alloc ?_ (by first | omega | (simp only [World.size_alloc, World.size_setCell, World.size_drew]; omega)) _ | with_reducible refine Below.drew ?_)

set_option maxHeartbeats 400000 in
theorem specMapped_no (hi lo : Int) (w : World) :
    Calls Try.prog 6 #[.agg #[.bool false, .int .u64 (hi), .int .u64 (lo)]] w fun e w' => e = .returned (.bool false) ∧ Below w.heap.size w w' := by
  go_enter Try.func6, Try.ntmps6
  go_wp2
  go_ret
  refine ⟨rfl, ?_⟩
  repeat (first | with_reducible exact Below.refl _ _ | with_reducible refine Below.setCell ?_ (by first | omega | (simp only [World.size_alloc, World.size_setCell, World.size_drew]; omega)) _ | with_reducible refine Below.alloc ?_ (by first | omega | (simp only [World.size_alloc, World.size_setCell, World.size_drew]; omega)) _ | with_reducible refine Below.drew ?_)

set_option maxHeartbeats 400000 in
theorem specMapped_yes (hi lo : Int) (w : World) (hl : 0 ≤ lo) (hl2 : lo < 18446744073709551616) :
    Calls Try.prog 6 #[.agg #[.bool true, .int .u64 (hi), .int .u64 (lo)]] w fun e w' => e = .returned (.bool (mappedB hi lo)) ∧ Below w.heap.size w w' := by
  cases c0 : (hi == 0)
  all_goals
    have HM := Lib.hid (show mappedB hi lo = _ from congrArg (fun b => b && lo / 4294967296 == 65535) c0)
    go_enter Try.func6, Try.ntmps6
    go_wp2
    go_ret
    refine ⟨by rw [HM.out]; rfl, ?_⟩
    repeat (first | with_reducible exact Below.refl _ _ | with_reducible refine Below.setCell ?_ (by first | omega | (simp only [World.size_alloc, World.size_setCell, World.size_drew]; omega)) _ | with_reducible refine Below.alloc ?_ (by first | omega | (simp only [World.size_alloc, World.size_setCell, World.size_drew]; omega)) _ | with_reducible refine Below.drew ?_)


set_option maxHeartbeats 400000 in
theorem specIn_4 (six : Bool) (hi lo c : Int) (w : World) (hl : 0 ≤ lo) (hl2 : lo < 18446744073709551616) (hc : 0 ≤ c) (hc2 : c < 18446744073709551616) :
    Calls Try.prog 22 #[.agg #[.bool six, .int .u64 (hi), .int .u64 (lo)], .int .u64 c, .int .i64 4] w fun e w' => e = .returned (.bool (lo / 268435456 == c / 268435456)) ∧ Below w.heap.size w w' := by
  have hw : IntKind.i64.wrap 28 = 28 := by decide
  go_enter Try.func22, Try.ntmps22
  go_wp2
  refine wp_region_quiet_below (by kernel_rfl) (by kernel_rfl) ?_
  repeat quiet_step (fail)
  refine wpQuiet_nil ?_
  intro w1 hb1
  replace hb1 := below_of hb1
  obtain ⟨hc1, hf1⟩ := rules hb1
  have hs1 := hb1.size
  try simp only [World.size_alloc, World.size_setCell, World.size_drew] at hs1
  go_wp2
  go_ret
  refine ⟨rfl, ?_⟩
  repeat (first | with_reducible exact Below.refl _ _ | with_reducible refine Below.setCell ?_ (by first | omega | (simp only [World.size_alloc, World.size_setCell, World.size_drew]; omega)) _ | with_reducible refine Below.alloc ?_ (by first | omega | (simp only [World.size_alloc, World.size_setCell, World.size_drew]; omega)) _ | with_reducible refine Below.drew ?_ | with_reducible refine Below.trans ?_ (hb1.mono (by first | omega | (simp only [World.size_alloc, World.size_setCell, World.size_drew]; omega))))

set_option maxHeartbeats 400000 in
theorem specIn_8 (six : Bool) (hi lo c : Int) (w : World) (hl : 0 ≤ lo) (hl2 : lo < 18446744073709551616) (hc : 0 ≤ c) (hc2 : c < 18446744073709551616) :
    Calls Try.prog 22 #[.agg #[.bool six, .int .u64 (hi), .int .u64 (lo)], .int .u64 c, .int .i64 8] w fun e w' => e = .returned (.bool (lo / 16777216 == c / 16777216)) ∧ Below w.heap.size w w' := by
  have hw : IntKind.i64.wrap 24 = 24 := by decide
  go_enter Try.func22, Try.ntmps22
  go_wp2
  refine wp_region_quiet_below (by kernel_rfl) (by kernel_rfl) ?_
  repeat quiet_step (fail)
  refine wpQuiet_nil ?_
  intro w1 hb1
  replace hb1 := below_of hb1
  obtain ⟨hc1, hf1⟩ := rules hb1
  have hs1 := hb1.size
  try simp only [World.size_alloc, World.size_setCell, World.size_drew] at hs1
  go_wp2
  go_ret
  refine ⟨rfl, ?_⟩
  repeat (first | with_reducible exact Below.refl _ _ | with_reducible refine Below.setCell ?_ (by first | omega | (simp only [World.size_alloc, World.size_setCell, World.size_drew]; omega)) _ | with_reducible refine Below.alloc ?_ (by first | omega | (simp only [World.size_alloc, World.size_setCell, World.size_drew]; omega)) _ | with_reducible refine Below.drew ?_ | with_reducible refine Below.trans ?_ (hb1.mono (by first | omega | (simp only [World.size_alloc, World.size_setCell, World.size_drew]; omega))))

set_option maxHeartbeats 400000 in
theorem specIn_12 (six : Bool) (hi lo c : Int) (w : World) (hl : 0 ≤ lo) (hl2 : lo < 18446744073709551616) (hc : 0 ≤ c) (hc2 : c < 18446744073709551616) :
    Calls Try.prog 22 #[.agg #[.bool six, .int .u64 (hi), .int .u64 (lo)], .int .u64 c, .int .i64 12] w fun e w' => e = .returned (.bool (lo / 1048576 == c / 1048576)) ∧ Below w.heap.size w w' := by
  have hw : IntKind.i64.wrap 20 = 20 := by decide
  go_enter Try.func22, Try.ntmps22
  go_wp2
  refine wp_region_quiet_below (by kernel_rfl) (by kernel_rfl) ?_
  repeat quiet_step (fail)
  refine wpQuiet_nil ?_
  intro w1 hb1
  replace hb1 := below_of hb1
  obtain ⟨hc1, hf1⟩ := rules hb1
  have hs1 := hb1.size
  try simp only [World.size_alloc, World.size_setCell, World.size_drew] at hs1
  go_wp2
  go_ret
  refine ⟨rfl, ?_⟩
  repeat (first | with_reducible exact Below.refl _ _ | with_reducible refine Below.setCell ?_ (by first | omega | (simp only [World.size_alloc, World.size_setCell, World.size_drew]; omega)) _ | with_reducible refine Below.alloc ?_ (by first | omega | (simp only [World.size_alloc, World.size_setCell, World.size_drew]; omega)) _ | with_reducible refine Below.drew ?_ | with_reducible refine Below.trans ?_ (hb1.mono (by first | omega | (simp only [World.size_alloc, World.size_setCell, World.size_drew]; omega))))

set_option maxHeartbeats 400000 in
theorem specIn_16 (six : Bool) (hi lo c : Int) (w : World) (hl : 0 ≤ lo) (hl2 : lo < 18446744073709551616) (hc : 0 ≤ c) (hc2 : c < 18446744073709551616) :
    Calls Try.prog 22 #[.agg #[.bool six, .int .u64 (hi), .int .u64 (lo)], .int .u64 c, .int .i64 16] w fun e w' => e = .returned (.bool (lo / 65536 == c / 65536)) ∧ Below w.heap.size w w' := by
  have hw : IntKind.i64.wrap 16 = 16 := by decide
  go_enter Try.func22, Try.ntmps22
  go_wp2
  refine wp_region_quiet_below (by kernel_rfl) (by kernel_rfl) ?_
  repeat quiet_step (fail)
  refine wpQuiet_nil ?_
  intro w1 hb1
  replace hb1 := below_of hb1
  obtain ⟨hc1, hf1⟩ := rules hb1
  have hs1 := hb1.size
  try simp only [World.size_alloc, World.size_setCell, World.size_drew] at hs1
  go_wp2
  go_ret
  refine ⟨rfl, ?_⟩
  repeat (first | with_reducible exact Below.refl _ _ | with_reducible refine Below.setCell ?_ (by first | omega | (simp only [World.size_alloc, World.size_setCell, World.size_drew]; omega)) _ | with_reducible refine Below.alloc ?_ (by first | omega | (simp only [World.size_alloc, World.size_setCell, World.size_drew]; omega)) _ | with_reducible refine Below.drew ?_ | with_reducible refine Below.trans ?_ (hb1.mono (by first | omega | (simp only [World.size_alloc, World.size_setCell, World.size_drew]; omega))))


def skinds4 (lo : Int) (i : Nat) : Bool := [lo / 16777216 == 127, lo / 16777216 == 10 || (lo / 1048576 == 2753 || lo / 65536 == 49320), lo / 65536 == 43518, lo / 268435456 == 14, lo == 0, false].getD i false
def skinds6 (hi lo : Int) (i : Nat) : Bool := [hi == 0 && lo == 1, hi / 144115188075855872 == 126, hi / 18014398509481984 == 1018, hi / 72057594037927936 == 255, hi == 0 && lo == 0, false].getD i false

set_option maxHeartbeats 1600000 in
theorem specKinds_v4 (hi lo : Int) (w : World) (hl : 0 ≤ lo) (hl2 : lo < 18446744073709551616) :
    Calls Try.prog 9 #[.agg #[.bool false, .int .u64 (hi), .int .u64 (lo)]] w (GivesBools w (skinds4 lo) 6) := by
  cases c0 : (lo / 16777216 == 10)
  · cases c1 : (lo / 1048576 == 2753)
    · go_enter Try.func9, Try.ntmps9
      go_wp2
      refine region_tail 19 (by kernel_rfl) (by kernel_rfl) ?_
      simp only [List.take_succ_cons, List.take_zero, List.drop_succ_cons, List.drop_zero]
      repeat quiet_step (fail)
      quiet_step (with_reducible exact Calls.regrown_of (specIn_8 _ _ _ _ _ hl hl2 (by decide) (by decide)))
      repeat quiet_step (fail)
      quiet_step (with_reducible exact Calls.regrown_of (specIn_8 _ _ _ _ _ hl hl2 (by decide) (by decide)))
      repeat quiet_step (fail)
      quiet_step (with_reducible exact Calls.regrown_of (specIn_12 _ _ _ _ _ hl hl2 (by decide) (by decide)))
      repeat quiet_step (fail)
      quiet_step (with_reducible exact Calls.regrown_of (specIn_16 _ _ _ _ _ hl hl2 (by decide) (by decide)))
      repeat quiet_step (fail)
      quiet_step (with_reducible exact Calls.regrown_of (specIn_16 _ _ _ _ _ hl hl2 (by decide) (by decide)))
      repeat quiet_step (fail)
      quiet_step (with_reducible exact Calls.regrown_of (specIn_4 _ _ _ _ _ hl hl2 (by decide) (by decide)))
      repeat quiet_step (fail)
      refine wpQuiet_nil ?_
      intro w1 hb1
      obtain ⟨hc1, hf1⟩ := rules hb1
      have hs1 := hb1.size
      try simp only [World.size_alloc, World.size_setCell, World.size_drew] at hs1
      go_wp2
      go_ret
      refine ⟨w1.heap.size, rfl, by omega, by simp only [World.size_alloc]; omega, fun i hi => ?_, ?_⟩
      · match i, hi with
        | 0, _ | 1, _ | 2, _ | 3, _ | 4, _ | 5, _ => simp [go_sem, skinds4, c0, c1]
      repeat (first | with_reducible exact Below.refl _ _ | with_reducible refine Below.setCell ?_ (by first | omega | (simp only [World.size_alloc, World.size_setCell, World.size_drew]; omega)) _ | with_reducible refine Below.alloc ?_ (by first | omega | (simp only [World.size_alloc, World.size_setCell, World.size_drew]; omega)) _ | with_reducible refine Below.drew ?_ | with_reducible refine Below.trans ?_ (hb1.mono (by first | omega | (simp only [World.size_alloc, World.size_setCell, World.size_drew]; omega))))

    · go_enter Try.func9, Try.ntmps9
      go_wp2
      refine region_tail 19 (by kernel_rfl) (by kernel_rfl) ?_
      simp only [List.take_succ_cons, List.take_zero, List.drop_succ_cons, List.drop_zero]
      repeat quiet_step (fail)
      quiet_step (with_reducible exact Calls.regrown_of (specIn_8 _ _ _ _ _ hl hl2 (by decide) (by decide)))
      repeat quiet_step (fail)
      quiet_step (with_reducible exact Calls.regrown_of (specIn_8 _ _ _ _ _ hl hl2 (by decide) (by decide)))
      repeat quiet_step (fail)
      quiet_step (with_reducible exact Calls.regrown_of (specIn_12 _ _ _ _ _ hl hl2 (by decide) (by decide)))
      repeat quiet_step (fail)
      quiet_step (with_reducible exact Calls.regrown_of (specIn_16 _ _ _ _ _ hl hl2 (by decide) (by decide)))
      repeat quiet_step (fail)
      quiet_step (with_reducible exact Calls.regrown_of (specIn_4 _ _ _ _ _ hl hl2 (by decide) (by decide)))
      repeat quiet_step (fail)
      refine wpQuiet_nil ?_
      intro w1 hb1
      obtain ⟨hc1, hf1⟩ := rules hb1
      have hs1 := hb1.size
      try simp only [World.size_alloc, World.size_setCell, World.size_drew] at hs1
      go_wp2
      go_ret
      refine ⟨w1.heap.size, rfl, by omega, by simp only [World.size_alloc]; omega, fun i hi => ?_, ?_⟩
      · match i, hi with
        | 0, _ | 1, _ | 2, _ | 3, _ | 4, _ | 5, _ => simp [go_sem, skinds4, c0, c1]
      repeat (first | with_reducible exact Below.refl _ _ | with_reducible refine Below.setCell ?_ (by first | omega | (simp only [World.size_alloc, World.size_setCell, World.size_drew]; omega)) _ | with_reducible refine Below.alloc ?_ (by first | omega | (simp only [World.size_alloc, World.size_setCell, World.size_drew]; omega)) _ | with_reducible refine Below.drew ?_ | with_reducible refine Below.trans ?_ (hb1.mono (by first | omega | (simp only [World.size_alloc, World.size_setCell, World.size_drew]; omega))))

  · go_enter Try.func9, Try.ntmps9
    go_wp2
    refine region_tail 19 (by kernel_rfl) (by kernel_rfl) ?_
    simp only [List.take_succ_cons, List.take_zero, List.drop_succ_cons, List.drop_zero]
    repeat quiet_step (fail)
    quiet_step (with_reducible exact Calls.regrown_of (specIn_8 _ _ _ _ _ hl hl2 (by decide) (by decide)))
    repeat quiet_step (fail)
    quiet_step (with_reducible exact Calls.regrown_of (specIn_8 _ _ _ _ _ hl hl2 (by decide) (by decide)))
    repeat quiet_step (fail)
    quiet_step (with_reducible exact Calls.regrown_of (specIn_16 _ _ _ _ _ hl hl2 (by decide) (by decide)))
    repeat quiet_step (fail)
    quiet_step (with_reducible exact Calls.regrown_of (specIn_4 _ _ _ _ _ hl hl2 (by decide) (by decide)))
    repeat quiet_step (fail)
    refine wpQuiet_nil ?_
    intro w1 hb1
    obtain ⟨hc1, hf1⟩ := rules hb1
    have hs1 := hb1.size
    try simp only [World.size_alloc, World.size_setCell, World.size_drew] at hs1
    go_wp2
    go_ret
    refine ⟨w1.heap.size, rfl, by omega, by simp only [World.size_alloc]; omega, fun i hi => ?_, ?_⟩
    · match i, hi with
      | 0, _ | 1, _ | 2, _ | 3, _ | 4, _ | 5, _ => simp [go_sem, skinds4, c0]
    repeat (first | with_reducible exact Below.refl _ _ | with_reducible refine Below.setCell ?_ (by first | omega | (simp only [World.size_alloc, World.size_setCell, World.size_drew]; omega)) _ | with_reducible refine Below.alloc ?_ (by first | omega | (simp only [World.size_alloc, World.size_setCell, World.size_drew]; omega)) _ | with_reducible refine Below.drew ?_ | with_reducible refine Below.trans ?_ (hb1.mono (by first | omega | (simp only [World.size_alloc, World.size_setCell, World.size_drew]; omega))))


set_option maxHeartbeats 1600000 in
theorem specKinds_v6 (hi lo : Int) (w : World) (hh : 0 ≤ hi) (hh2 : hi < 18446744073709551616) (hl : 0 ≤ lo) (hl2 : lo < 18446744073709551616) :
    Calls Try.prog 9 #[.agg #[.bool true, .int .u64 (hi), .int .u64 (lo)]] w (GivesBools w (skinds6 hi lo) 6) := by
  cases c0 : (hi == 0)
  all_goals
    go_enter Try.func9, Try.ntmps9
    go_wp2
    go_ret
    refine ⟨w.heap.size + 1, rfl, by omega, by simp only [World.size_alloc]; omega, fun i hi => ?_, ?_⟩
    · match i, hi with
      | 0, _ | 1, _ | 2, _ | 3, _ | 4, _ | 5, _ => simp [go_sem, skinds6, c0]
    repeat (first | with_reducible exact Below.refl _ _ | with_reducible refine Below.setCell ?_ (by first | omega | (simp only [World.size_alloc, World.size_setCell, World.size_drew]; omega)) _ | with_reducible refine Below.alloc ?_ (by first | omega | (simp only [World.size_alloc, World.size_setCell, World.size_drew]; omega)) _ | with_reducible refine Below.drew ?_)
end Go.Proofs.Ytkploaapcpjkbaa
