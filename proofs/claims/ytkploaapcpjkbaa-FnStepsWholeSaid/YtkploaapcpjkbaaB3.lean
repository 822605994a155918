/- Contracts: the unspecified addresses; Kinds. -/
import Derived.Test.YtkploaapcpjkbaaB2
namespace Go.Proofs.Ytkploaapcpjkbaa
open Go Go.RowKit Go.Sort
set_option linter.unusedVariables false
set_option linter.unusedSimpArgs false
attribute [local go_sem] cell_gr

set_option maxHeartbeats 400000 in
theorem ipv6Unspecified_any (w : World) :
    Calls Try.prog 40 #[] w fun e w' => e = .returned (.agg #[.int .u64 (0), .int .u64 (0), .bool true, .bool true, .string ⟨#[]⟩]) ∧ Below w.heap.size w w' := by
  go_enter Try.func40, Try.ntmps40
  go_wp2_with fail
  refine (z6noz_any _).mono ?_
  rintro e w1 ⟨rfl, hb1⟩
  obtain ⟨hc1, hf1⟩ := rulesB (B := w.heap.size + 1) hb1 (by first | omega | (simp only [World.size_alloc, World.size_setCell, World.size_drew]; omega))
  have hs1 := hb1.size
  try simp only [World.size_alloc, World.size_setCell, World.size_drew] at hs1
  go_wp2
  refine bodyPost_ret (v := .agg #[.int .u64 (0), .int .u64 (0), .bool true, .bool true, .string ⟨#[]⟩]) ?_ rfl ⟨rfl, ?_⟩
  · simp [results, Try.results40, go_sem, hc1]
  repeat (first | with_reducible exact Below.refl _ _ | with_reducible refine Below.setCell ?_ (by first | omega | (simp only [World.size_alloc, World.size_setCell, World.size_drew]; omega)) _ | with_reducible refine Below.alloc ?_ (by first | omega | (simp only [World.size_alloc, World.size_setCell, World.size_drew]; omega)) _ | with_reducible refine Below.drew ?_ | with_reducible refine Below.trans ?_ (hb1.mono (by first | omega | (simp only [World.size_alloc, World.size_setCell, World.size_drew]; omega))))

set_option maxHeartbeats 400000 in
theorem ipv4Unspecified_any (w : World) :
    Calls Try.prog 39 #[] w fun e w' => e = .returned (.agg #[.int .u64 0, .int .u64 (281470681743360), .bool true, .bool false, .string ⟨#[]⟩]) ∧ Below w.heap.size w w' := by
  go_enter Try.func39, Try.ntmps39
  go_wp2_with fail
  refine (addrFrom4_any 0 0 0 0 _ (by omega) (by omega) (by omega) (by omega)).mono ?_
  rintro e w1 ⟨rfl, hb1⟩
  obtain ⟨hc1, hf1⟩ := rulesB (B := w.heap.size + 1) hb1 (by first | omega | (simp only [World.size_alloc, World.size_setCell, World.size_drew]; omega))
  have hs1 := hb1.size
  try simp only [World.size_alloc, World.size_setCell, World.size_drew] at hs1
  go_wp2
  refine bodyPost_ret (v := .agg #[.int .u64 0, .int .u64 (281470681743360), .bool true, .bool false, .string ⟨#[]⟩]) ?_ rfl ⟨rfl, ?_⟩
  · simp [results, Try.results39, go_sem, hc1]
  repeat (first | with_reducible exact Below.refl _ _ | with_reducible refine Below.setCell ?_ (by first | omega | (simp only [World.size_alloc, World.size_setCell, World.size_drew]; omega)) _ | with_reducible refine Below.alloc ?_ (by first | omega | (simp only [World.size_alloc, World.size_setCell, World.size_drew]; omega)) _ | with_reducible refine Below.drew ?_ | with_reducible refine Below.trans ?_ (hb1.mono (by first | omega | (simp only [World.size_alloc, World.size_setCell, World.size_drew]; omega))))

def unspec4 (lo : Int) : Bool := lo == 281470681743360
def unspec6 (hi lo : Int) : Bool := hi == 0 && lo == 0

set_option maxHeartbeats 400000 in
theorem isUnspecified_v4 (lo : Int) (w : World) (hl : 281470681743360 ≤ lo) :
    Calls Try.prog 20 #[.agg #[.int .u64 0, .int .u64 (lo), .bool true, .bool false, .string ⟨#[]⟩]] w fun e w' => e = .returned (.bool (unspec4 lo)) ∧ Below w.heap.size w w' := by
  have c1 : (lo == 0) = false := by rw [beq_eq_false_iff_ne]; omega
  cases c0 : (lo == 281470681743360)
  · have HM : Hid (unspec4 lo = false) := Lib.hid c0
    go_enter Try.func20, Try.ntmps20
    go_wp2
    refine wp_region_quiet_below (by kernel_rfl) (by kernel_rfl) ?_
    repeat quiet_step (fail)
    quiet_step (with_reducible exact Calls.regrown_of (ipv4Unspecified_any _))
    repeat quiet_step (fail)
    quiet_step (with_reducible exact Calls.regrown_of (ipv6Unspecified_any _))
    repeat quiet_step (fail)
    refine wpQuiet_nil ?_
    intro w1 hb1
    replace hb1 := below_of hb1
    obtain ⟨hc1, hf1⟩ := rules hb1
    have hs1 := hb1.size
    try simp only [World.size_alloc, World.size_setCell, World.size_drew] at hs1
    go_wp2
    go_ret
    refine ⟨by rw [HM.out]; rfl, ?_⟩
    repeat (first | with_reducible exact Below.refl _ _ | with_reducible refine Below.setCell ?_ (by first | omega | (simp only [World.size_alloc, World.size_setCell, World.size_drew]; omega)) _ | with_reducible refine Below.alloc ?_ (by first | omega | (simp only [World.size_alloc, World.size_setCell, World.size_drew]; omega)) _ | with_reducible refine Below.drew ?_ | with_reducible refine Below.trans ?_ (hb1.mono (by first | omega | (simp only [World.size_alloc, World.size_setCell, World.size_drew]; omega))))
  · have HM : Hid (unspec4 lo = true) := Lib.hid c0
    go_enter Try.func20, Try.ntmps20
    go_wp2
    refine wp_region_quiet_below (by kernel_rfl) (by kernel_rfl) ?_
    repeat quiet_step (fail)
    quiet_step (with_reducible exact Calls.regrown_of (ipv4Unspecified_any _))
    repeat quiet_step (fail)
    refine wpQuiet_nil ?_
    intro w1 hb1
    replace hb1 := below_of hb1
    obtain ⟨hc1, hf1⟩ := rules hb1
    have hs1 := hb1.size
    try simp only [World.size_alloc, World.size_setCell, World.size_drew] at hs1
    go_wp2
    go_ret
    refine ⟨by rw [HM.out]; rfl, ?_⟩
    repeat (first | with_reducible exact Below.refl _ _ | with_reducible refine Below.setCell ?_ (by first | omega | (simp only [World.size_alloc, World.size_setCell, World.size_drew]; omega)) _ | with_reducible refine Below.alloc ?_ (by first | omega | (simp only [World.size_alloc, World.size_setCell, World.size_drew]; omega)) _ | with_reducible refine Below.drew ?_ | with_reducible refine Below.trans ?_ (hb1.mono (by first | omega | (simp only [World.size_alloc, World.size_setCell, World.size_drew]; omega))))

set_option maxHeartbeats 800000 in
theorem isUnspecified_v6 (hi lo : Int) (w : World) :
    Calls Try.prog 20 #[.agg #[.int .u64 (hi), .int .u64 (lo), .bool true, .bool true, .string ⟨#[]⟩]] w fun e w' => e = .returned (.bool (unspec6 hi lo)) ∧ Below w.heap.size w w' := by
  cases c0 : (hi == 0)
  · have HM : Hid (unspec6 hi lo = false) := Lib.hid (by simp [unspec6, c0])
    go_enter Try.func20, Try.ntmps20
    go_wp2
    refine wp_region_quiet_below (by kernel_rfl) (by kernel_rfl) ?_
    repeat quiet_step (fail)
    quiet_step (with_reducible exact Calls.regrown_of (ipv4Unspecified_any _))
    repeat quiet_step (fail)
    quiet_step (with_reducible exact Calls.regrown_of (ipv6Unspecified_any _))
    repeat quiet_step (fail)
    refine wpQuiet_nil ?_
    intro w1 hb1
    replace hb1 := below_of hb1
    obtain ⟨hc1, hf1⟩ := rules hb1
    have hs1 := hb1.size
    try simp only [World.size_alloc, World.size_setCell, World.size_drew] at hs1
    go_wp2
    go_ret
    refine ⟨by rw [HM.out]; rfl, ?_⟩
    repeat (first | with_reducible exact Below.refl _ _ | with_reducible refine Below.setCell ?_ (by first | omega | (simp only [World.size_alloc, World.size_setCell, World.size_drew]; omega)) _ | with_reducible refine Below.alloc ?_ (by first | omega | (simp only [World.size_alloc, World.size_setCell, World.size_drew]; omega)) _ | with_reducible refine Below.drew ?_ | with_reducible refine Below.trans ?_ (hb1.mono (by first | omega | (simp only [World.size_alloc, World.size_setCell, World.size_drew]; omega))))
  · cases c1 : (lo == 0)
    · have HM : Hid (unspec6 hi lo = false) := Lib.hid (by simp [unspec6, c0, c1])
      cases c2 : (lo == 281470681743360)
      all_goals
        go_enter Try.func20, Try.ntmps20
        go_wp2
        refine wp_region_quiet_below (by kernel_rfl) (by kernel_rfl) ?_
        repeat quiet_step (fail)
        quiet_step (with_reducible exact Calls.regrown_of (ipv4Unspecified_any _))
        repeat quiet_step (fail)
        quiet_step (with_reducible exact Calls.regrown_of (ipv6Unspecified_any _))
        repeat quiet_step (fail)
        refine wpQuiet_nil ?_
        intro w1 hb1
        replace hb1 := below_of hb1
        obtain ⟨hc1, hf1⟩ := rules hb1
        have hs1 := hb1.size
        try simp only [World.size_alloc, World.size_setCell, World.size_drew] at hs1
        go_wp2
        go_ret
        refine ⟨by rw [HM.out]; rfl, ?_⟩
        repeat (first | with_reducible exact Below.refl _ _ | with_reducible refine Below.setCell ?_ (by first | omega | (simp only [World.size_alloc, World.size_setCell, World.size_drew]; omega)) _ | with_reducible refine Below.alloc ?_ (by first | omega | (simp only [World.size_alloc, World.size_setCell, World.size_drew]; omega)) _ | with_reducible refine Below.drew ?_ | with_reducible refine Below.trans ?_ (hb1.mono (by first | omega | (simp only [World.size_alloc, World.size_setCell, World.size_drew]; omega))))
    · have c2 : (lo == 281470681743360) = false := by rw [beq_iff_eq] at c1; rw [c1]; rfl
      have HM : Hid (unspec6 hi lo = true) := Lib.hid (by simp [unspec6, c0, c1])
      go_enter Try.func20, Try.ntmps20
      go_wp2
      refine wp_region_quiet_below (by kernel_rfl) (by kernel_rfl) ?_
      repeat quiet_step (fail)
      quiet_step (with_reducible exact Calls.regrown_of (ipv4Unspecified_any _))
      repeat quiet_step (fail)
      quiet_step (with_reducible exact Calls.regrown_of (ipv6Unspecified_any _))
      repeat quiet_step (fail)
      refine wpQuiet_nil ?_
      intro w1 hb1
      replace hb1 := below_of hb1
      obtain ⟨hc1, hf1⟩ := rules hb1
      have hs1 := hb1.size
      try simp only [World.size_alloc, World.size_setCell, World.size_drew] at hs1
      go_wp2
      go_ret
      refine ⟨by rw [HM.out]; rfl, ?_⟩
      repeat (first | with_reducible exact Below.refl _ _ | with_reducible refine Below.setCell ?_ (by first | omega | (simp only [World.size_alloc, World.size_setCell, World.size_drew]; omega)) _ | with_reducible refine Below.alloc ?_ (by first | omega | (simp only [World.size_alloc, World.size_setCell, World.size_drew]; omega)) _ | with_reducible refine Below.drew ?_ | with_reducible refine Below.trans ?_ (hb1.mono (by first | omega | (simp only [World.size_alloc, World.size_setCell, World.size_drew]; omega))))
end Go.Proofs.Ytkploaapcpjkbaa
