/- Contracts: the bytes and the groups of an address; whether it is a mapped one; Unmap. -/
import Derived.Test.YtkploaapcpjkbaaGreatDoorA3
namespace Go.Proofs.YtkploaapcpjkbaaGreatDoor
open Go Go.RowKit Go.Sort
set_option linter.unusedVariables false
set_option linter.unusedSimpArgs false
attribute [local go_sem] cell_gr


set_option maxHeartbeats 400000 in
theorem v4_0 (hi lo : Int) (z : Bool) (w : World) (hl : 0 ≤ lo) (hl2 : lo < 18446744073709551616) :
    Calls Tryz.prog 52 #[.agg #[.int .u64 (hi), .int .u64 (lo), .bool true, .bool z, .string ⟨#[]⟩], .int .u8 0] w fun e w' => e = .returned (.int .u8 (byteAt lo 3)) ∧ Below w.heap.size w w' := by
  go_enter Tryz.func52, Tryz.ntmps52
  go_wp2
  go_ret
  exact ⟨by simp [byteAt], (Below.refl _ _).alloc (Nat.le_refl _) _⟩

set_option maxHeartbeats 400000 in
theorem v4_1 (hi lo : Int) (z : Bool) (w : World) (hl : 0 ≤ lo) (hl2 : lo < 18446744073709551616) :
    Calls Tryz.prog 52 #[.agg #[.int .u64 (hi), .int .u64 (lo), .bool true, .bool z, .string ⟨#[]⟩], .int .u8 1] w fun e w' => e = .returned (.int .u8 (byteAt lo 2)) ∧ Below w.heap.size w w' := by
  go_enter Tryz.func52, Tryz.ntmps52
  go_wp2
  go_ret
  exact ⟨by simp [byteAt], (Below.refl _ _).alloc (Nat.le_refl _) _⟩

set_option maxHeartbeats 400000 in
theorem v4_2 (hi lo : Int) (z : Bool) (w : World) (hl : 0 ≤ lo) (hl2 : lo < 18446744073709551616) :
    Calls Tryz.prog 52 #[.agg #[.int .u64 (hi), .int .u64 (lo), .bool true, .bool z, .string ⟨#[]⟩], .int .u8 2] w fun e w' => e = .returned (.int .u8 (byteAt lo 1)) ∧ Below w.heap.size w w' := by
  go_enter Tryz.func52, Tryz.ntmps52
  go_wp2
  go_ret
  exact ⟨by simp [byteAt], (Below.refl _ _).alloc (Nat.le_refl _) _⟩

set_option maxHeartbeats 400000 in
theorem v4_3 (hi lo : Int) (z : Bool) (w : World) (hl : 0 ≤ lo) (hl2 : lo < 18446744073709551616) :
    Calls Tryz.prog 52 #[.agg #[.int .u64 (hi), .int .u64 (lo), .bool true, .bool z, .string ⟨#[]⟩], .int .u8 3] w fun e w' => e = .returned (.int .u8 (byteAt lo 0)) ∧ Below w.heap.size w w' := by
  go_enter Tryz.func52, Tryz.ntmps52
  go_wp2
  go_ret
  exact ⟨by simp [byteAt], (Below.refl _ _).alloc (Nat.le_refl _) _⟩


set_option maxHeartbeats 400000 in
theorem halves_any (b off : Nat) (w : World) :
    Calls Tryz.prog 72 #[.pointer (some ⟨b, off, none⟩)] w fun e w' => e = .returned (.agg #[.pointer (some ⟨b, off, none⟩), .pointer (some ⟨b, off + 1, none⟩)]) ∧ Below w.heap.size w w' := by
  go_enter Tryz.func72, Tryz.ntmps72
  go_wp2
  refine region_tail 7 (by kernel_rfl) (by kernel_rfl) ?_
  simp only [List.take_succ_cons, List.take_zero, List.drop_succ_cons, List.drop_zero]
  repeat quiet_step (fail)
  refine wpQuiet_nil ?_
  intro w1 hb1
  obtain ⟨hc1, hf1⟩ := rules hb1
  have hs1 := hb1.size
  try simp only [World.size_alloc, World.size_setCell, World.size_drew] at hs1
  go_wp2
  refine bodyPost_ret (v := .agg #[.pointer (some ⟨b, off, none⟩), .pointer (some ⟨b, off + 1, none⟩)]) ?_ rfl ⟨rfl, ?_⟩
  · simp [results, Tryz.results72, go_sem, hc1]
  repeat (first | with_reducible exact Below.refl _ _ | with_reducible refine Below.setCell ?_ (by first | omega | (simp only [World.size_alloc, World.size_setCell, World.size_drew]; omega)) _ | with_reducible refine Below.alloc ?_ (by first | omega | (simp only [World.size_alloc, World.size_setCell, World.size_drew]; omega)) _ | with_reducible refine Below.drew ?_ | with_reducible refine Below.trans ?_ (hb1.mono (by first | omega | (simp only [World.size_alloc, World.size_setCell, World.size_drew]; omega))))

theorem index0 (b o : Nat) (w : World) : (Instr.index 99 (.agg #[.pointer (some ⟨b, o, none⟩), .pointer (some ⟨b, o + 1, none⟩)]) (.int .u8 0)).run Tryz.prog w = .ok (.pointer (some ⟨b, o, none⟩)) w := by kernel_rfl
theorem index1 (b o : Nat) (w : World) : (Instr.index 99 (.agg #[.pointer (some ⟨b, o, none⟩), .pointer (some ⟨b, o + 1, none⟩)]) (.int .u8 1)).run Tryz.prog w = .ok (.pointer (some ⟨b, o + 1, none⟩)) w := by kernel_rfl

/-- The group of an address with number j. -/
def grp (hi lo : Int) (j : Nat) : Int := if j < 4 then hi / 65536 ^ (3 - j) % 65536 else lo / 65536 ^ (7 - j) % 65536
theorem grp_bd (hi lo : Int) (j : Nat) : 0 ≤ grp hi lo j ∧ grp hi lo j < 65536 := by
  unfold grp; split <;> omega

set_option maxHeartbeats 400000 in
theorem v6u16_0 (hi lo : Int) (z : Bool) (w : World) (hh : 0 ≤ hi) (hh2 : hi < 18446744073709551616) (hl : 0 ≤ lo) (hl2 : lo < 18446744073709551616) :
    Calls Tryz.prog 48 #[.agg #[.int .u64 (hi), .int .u64 (lo), .bool true, .bool z, .string ⟨#[]⟩], .int .u8 0] w fun e w' => e = .returned (.int .u16 (grp hi lo 0)) ∧ Below w.heap.size w w' := by
  have i0 := index0
  have i1 := index1
  go_enter Tryz.func48, Tryz.ntmps48
  go_wp2_with fail
  refine (halves_any _ _ _).mono ?_
  rintro e w1 ⟨rfl, hb1⟩
  obtain ⟨hc1, hf1⟩ := rulesB (B := w.heap.size + 1) hb1 (by first | omega | (simp only [World.size_alloc, World.size_setCell, World.size_drew]; omega))
  have hs1 := hb1.size
  try simp only [World.size_alloc, World.size_setCell, World.size_drew] at hs1
  go_wp2
  go_ret
  exact ⟨by first | (simp [grp, wrap_u16]; done) | (simp [grp, wrap_u16]; omega), ((Below.refl _ _).alloc (Nat.le_refl _) _).trans (hb1.mono (by simp))⟩

set_option maxHeartbeats 400000 in
theorem v6u16_1 (hi lo : Int) (z : Bool) (w : World) (hh : 0 ≤ hi) (hh2 : hi < 18446744073709551616) (hl : 0 ≤ lo) (hl2 : lo < 18446744073709551616) :
    Calls Tryz.prog 48 #[.agg #[.int .u64 (hi), .int .u64 (lo), .bool true, .bool z, .string ⟨#[]⟩], .int .u8 1] w fun e w' => e = .returned (.int .u16 (grp hi lo 1)) ∧ Below w.heap.size w w' := by
  have i0 := index0
  have i1 := index1
  go_enter Tryz.func48, Tryz.ntmps48
  go_wp2_with fail
  refine (halves_any _ _ _).mono ?_
  rintro e w1 ⟨rfl, hb1⟩
  obtain ⟨hc1, hf1⟩ := rulesB (B := w.heap.size + 1) hb1 (by first | omega | (simp only [World.size_alloc, World.size_setCell, World.size_drew]; omega))
  have hs1 := hb1.size
  try simp only [World.size_alloc, World.size_setCell, World.size_drew] at hs1
  go_wp2
  go_ret
  exact ⟨by first | (simp [grp, wrap_u16]; done) | (simp [grp, wrap_u16]; omega), ((Below.refl _ _).alloc (Nat.le_refl _) _).trans (hb1.mono (by simp))⟩

set_option maxHeartbeats 400000 in
theorem v6u16_2 (hi lo : Int) (z : Bool) (w : World) (hh : 0 ≤ hi) (hh2 : hi < 18446744073709551616) (hl : 0 ≤ lo) (hl2 : lo < 18446744073709551616) :
    Calls Tryz.prog 48 #[.agg #[.int .u64 (hi), .int .u64 (lo), .bool true, .bool z, .string ⟨#[]⟩], .int .u8 2] w fun e w' => e = .returned (.int .u16 (grp hi lo 2)) ∧ Below w.heap.size w w' := by
  have i0 := index0
  have i1 := index1
  go_enter Tryz.func48, Tryz.ntmps48
  go_wp2_with fail
  refine (halves_any _ _ _).mono ?_
  rintro e w1 ⟨rfl, hb1⟩
  obtain ⟨hc1, hf1⟩ := rulesB (B := w.heap.size + 1) hb1 (by first | omega | (simp only [World.size_alloc, World.size_setCell, World.size_drew]; omega))
  have hs1 := hb1.size
  try simp only [World.size_alloc, World.size_setCell, World.size_drew] at hs1
  go_wp2
  go_ret
  exact ⟨by first | (simp [grp, wrap_u16]; done) | (simp [grp, wrap_u16]; omega), ((Below.refl _ _).alloc (Nat.le_refl _) _).trans (hb1.mono (by simp))⟩

set_option maxHeartbeats 400000 in
theorem v6u16_3 (hi lo : Int) (z : Bool) (w : World) (hh : 0 ≤ hi) (hh2 : hi < 18446744073709551616) (hl : 0 ≤ lo) (hl2 : lo < 18446744073709551616) :
    Calls Tryz.prog 48 #[.agg #[.int .u64 (hi), .int .u64 (lo), .bool true, .bool z, .string ⟨#[]⟩], .int .u8 3] w fun e w' => e = .returned (.int .u16 (grp hi lo 3)) ∧ Below w.heap.size w w' := by
  have i0 := index0
  have i1 := index1
  go_enter Tryz.func48, Tryz.ntmps48
  go_wp2_with fail
  refine (halves_any _ _ _).mono ?_
  rintro e w1 ⟨rfl, hb1⟩
  obtain ⟨hc1, hf1⟩ := rulesB (B := w.heap.size + 1) hb1 (by first | omega | (simp only [World.size_alloc, World.size_setCell, World.size_drew]; omega))
  have hs1 := hb1.size
  try simp only [World.size_alloc, World.size_setCell, World.size_drew] at hs1
  go_wp2
  go_ret
  exact ⟨by first | (simp [grp, wrap_u16]; done) | (simp [grp, wrap_u16]; omega), ((Below.refl _ _).alloc (Nat.le_refl _) _).trans (hb1.mono (by simp))⟩

set_option maxHeartbeats 400000 in
theorem v6u16_4 (hi lo : Int) (z : Bool) (w : World) (hh : 0 ≤ hi) (hh2 : hi < 18446744073709551616) (hl : 0 ≤ lo) (hl2 : lo < 18446744073709551616) :
    Calls Tryz.prog 48 #[.agg #[.int .u64 (hi), .int .u64 (lo), .bool true, .bool z, .string ⟨#[]⟩], .int .u8 4] w fun e w' => e = .returned (.int .u16 (grp hi lo 4)) ∧ Below w.heap.size w w' := by
  have i0 := index0
  have i1 := index1
  go_enter Tryz.func48, Tryz.ntmps48
  go_wp2_with fail
  refine (halves_any _ _ _).mono ?_
  rintro e w1 ⟨rfl, hb1⟩
  obtain ⟨hc1, hf1⟩ := rulesB (B := w.heap.size + 1) hb1 (by first | omega | (simp only [World.size_alloc, World.size_setCell, World.size_drew]; omega))
  have hs1 := hb1.size
  try simp only [World.size_alloc, World.size_setCell, World.size_drew] at hs1
  go_wp2
  go_ret
  exact ⟨by first | (simp [grp, wrap_u16]; done) | (simp [grp, wrap_u16]; omega), ((Below.refl _ _).alloc (Nat.le_refl _) _).trans (hb1.mono (by simp))⟩

set_option maxHeartbeats 400000 in
theorem v6u16_5 (hi lo : Int) (z : Bool) (w : World) (hh : 0 ≤ hi) (hh2 : hi < 18446744073709551616) (hl : 0 ≤ lo) (hl2 : lo < 18446744073709551616) :
    Calls Tryz.prog 48 #[.agg #[.int .u64 (hi), .int .u64 (lo), .bool true, .bool z, .string ⟨#[]⟩], .int .u8 5] w fun e w' => e = .returned (.int .u16 (grp hi lo 5)) ∧ Below w.heap.size w w' := by
  have i0 := index0
  have i1 := index1
  go_enter Tryz.func48, Tryz.ntmps48
  go_wp2_with fail
  refine (halves_any _ _ _).mono ?_
  rintro e w1 ⟨rfl, hb1⟩
  obtain ⟨hc1, hf1⟩ := rulesB (B := w.heap.size + 1) hb1 (by first | omega | (simp only [World.size_alloc, World.size_setCell, World.size_drew]; omega))
  have hs1 := hb1.size
  try simp only [World.size_alloc, World.size_setCell, World.size_drew] at hs1
  go_wp2
  go_ret
  exact ⟨by first | (simp [grp, wrap_u16]; done) | (simp [grp, wrap_u16]; omega), ((Below.refl _ _).alloc (Nat.le_refl _) _).trans (hb1.mono (by simp))⟩

set_option maxHeartbeats 400000 in
theorem v6u16_6 (hi lo : Int) (z : Bool) (w : World) (hh : 0 ≤ hi) (hh2 : hi < 18446744073709551616) (hl : 0 ≤ lo) (hl2 : lo < 18446744073709551616) :
    Calls Tryz.prog 48 #[.agg #[.int .u64 (hi), .int .u64 (lo), .bool true, .bool z, .string ⟨#[]⟩], .int .u8 6] w fun e w' => e = .returned (.int .u16 (grp hi lo 6)) ∧ Below w.heap.size w w' := by
  have i0 := index0
  have i1 := index1
  go_enter Tryz.func48, Tryz.ntmps48
  go_wp2_with fail
  refine (halves_any _ _ _).mono ?_
  rintro e w1 ⟨rfl, hb1⟩
  obtain ⟨hc1, hf1⟩ := rulesB (B := w.heap.size + 1) hb1 (by first | omega | (simp only [World.size_alloc, World.size_setCell, World.size_drew]; omega))
  have hs1 := hb1.size
  try simp only [World.size_alloc, World.size_setCell, World.size_drew] at hs1
  go_wp2
  go_ret
  exact ⟨by first | (simp [grp, wrap_u16]; done) | (simp [grp, wrap_u16]; omega), ((Below.refl _ _).alloc (Nat.le_refl _) _).trans (hb1.mono (by simp))⟩

set_option maxHeartbeats 400000 in
theorem v6u16_7 (hi lo : Int) (z : Bool) (w : World) (hh : 0 ≤ hi) (hh2 : hi < 18446744073709551616) (hl : 0 ≤ lo) (hl2 : lo < 18446744073709551616) :
    Calls Tryz.prog 48 #[.agg #[.int .u64 (hi), .int .u64 (lo), .bool true, .bool z, .string ⟨#[]⟩], .int .u8 7] w fun e w' => e = .returned (.int .u16 (grp hi lo 7)) ∧ Below w.heap.size w w' := by
  have i0 := index0
  have i1 := index1
  go_enter Tryz.func48, Tryz.ntmps48
  go_wp2_with fail
  refine (halves_any _ _ _).mono ?_
  rintro e w1 ⟨rfl, hb1⟩
  obtain ⟨hc1, hf1⟩ := rulesB (B := w.heap.size + 1) hb1 (by first | omega | (simp only [World.size_alloc, World.size_setCell, World.size_drew]; omega))
  have hs1 := hb1.size
  try simp only [World.size_alloc, World.size_setCell, World.size_drew] at hs1
  go_wp2
  go_ret
  exact ⟨by first | (simp [grp, wrap_u16]; done) | (simp [grp, wrap_u16]; omega), ((Below.refl _ _).alloc (Nat.le_refl _) _).trans (hb1.mono (by simp))⟩



/-- Is an address of 16 bytes a mapped one? -/
def mappedB (hi lo : Int) : Bool := hi == 0 && lo / 4294967296 == 65535

set_option maxHeartbeats 400000 in
theorem is4In6_v4 (lo : Int) (w : World) :
    Calls Tryz.prog 32 #[.agg #[.int .u64 0, .int .u64 (lo), .bool true, .bool false, .string ⟨#[]⟩]] w fun e w' => e = .returned (.bool false) ∧ Below w.heap.size w w' := by
  go_enter Tryz.func32, Tryz.ntmps32
  go_wp2_with fail
  refine (is6_any false _ _ _).mono ?_
  rintro e w1 ⟨rfl, hb1⟩
  obtain ⟨hc1, hf1⟩ := rulesB (B := w.heap.size + 1) hb1 (by first | omega | (simp only [World.size_alloc, World.size_setCell, World.size_drew]; omega))
  have hs1 := hb1.size
  try simp only [World.size_alloc, World.size_setCell, World.size_drew] at hs1
  go_wp2
  go_ret
  exact ⟨rfl, ((Below.refl _ _).alloc (Nat.le_refl _) _).trans (hb1.mono (by simp))⟩

set_option maxHeartbeats 400000 in
theorem is4In6_v6 (hi lo : Int) (w : World) (hh : 0 ≤ hi) (hl : 0 ≤ lo) (hl2 : lo < 18446744073709551616) :
    Calls Tryz.prog 32 #[.agg #[.int .u64 (hi), .int .u64 (lo), .bool true, .bool true, .string ⟨#[]⟩]] w fun e w' => e = .returned (.bool (mappedB hi lo)) ∧ Below w.heap.size w w' := by
  by_cases c1 : hi = 0
  · subst c1
    by_cases c2 : lo / 4294967296 = 65535
    · have HM : Hid (mappedB 0 lo = true) := Lib.hid (by simp [mappedB, c2])
      have c3 : (lo / 4294967296 == 65535) = true := by simp [c2]
      clear c2
      go_enter Tryz.func32, Tryz.ntmps32
      go_wp2_with fail
      refine (is6_any true _ _ _).mono ?_
      rintro e w1 ⟨rfl, hb1⟩
      obtain ⟨hc1, hf1⟩ := rulesB (B := w.heap.size + 1) hb1 (by first | omega | (simp only [World.size_alloc, World.size_setCell, World.size_drew]; omega))
      have hs1 := hb1.size
      try simp only [World.size_alloc, World.size_setCell, World.size_drew] at hs1
      go_wp2
      go_ret
      exact ⟨by rw [HM.out]; rfl, ((Below.refl _ _).alloc (Nat.le_refl _) _).trans (hb1.mono (by simp))⟩
    · have HM : Hid (mappedB 0 lo = false) := Lib.hid (by simp [mappedB, c2])
      have c3 : (lo / 4294967296 == 65535) = false := by simp [c2]
      clear c2
      go_enter Tryz.func32, Tryz.ntmps32
      go_wp2_with fail
      refine (is6_any true _ _ _).mono ?_
      rintro e w1 ⟨rfl, hb1⟩
      obtain ⟨hc1, hf1⟩ := rulesB (B := w.heap.size + 1) hb1 (by first | omega | (simp only [World.size_alloc, World.size_setCell, World.size_drew]; omega))
      have hs1 := hb1.size
      try simp only [World.size_alloc, World.size_setCell, World.size_drew] at hs1
      go_wp2
      go_ret
      exact ⟨by rw [HM.out]; rfl, ((Below.refl _ _).alloc (Nat.le_refl _) _).trans (hb1.mono (by simp))⟩
  · have HM : Hid (mappedB hi lo = false) := Lib.hid (by simp [mappedB, c1])
    have c3 : (hi == 0) = false := by simp [c1]
    clear c1
    go_enter Tryz.func32, Tryz.ntmps32
    go_wp2_with fail
    refine (is6_any true _ _ _).mono ?_
    rintro e w1 ⟨rfl, hb1⟩
    obtain ⟨hc1, hf1⟩ := rulesB (B := w.heap.size + 1) hb1 (by first | omega | (simp only [World.size_alloc, World.size_setCell, World.size_drew]; omega))
    have hs1 := hb1.size
    try simp only [World.size_alloc, World.size_setCell, World.size_drew] at hs1
    go_wp2
    go_ret
    exact ⟨by rw [HM.out]; rfl, ((Below.refl _ _).alloc (Nat.le_refl _) _).trans (hb1.mono (by simp))⟩

theorem is4In6_no (hi lo : Int) (w : World) (hh : 0 ≤ hi) (hl : 0 ≤ lo) (hl2 : lo < 18446744073709551616) (H : Hid (mappedB hi lo = false)) :
    Calls Tryz.prog 32 #[.agg #[.int .u64 (hi), .int .u64 (lo), .bool true, .bool true, .string ⟨#[]⟩]] w fun e w' => e = .returned (.bool false) ∧ Below w.heap.size w w' := by
  have := is4In6_v6 hi lo w hh hl hl2
  rwa [H.out] at this
theorem is4In6_yes (hi lo : Int) (w : World) (hh : 0 ≤ hi) (hl : 0 ≤ lo) (hl2 : lo < 18446744073709551616) (H : Hid (mappedB hi lo = true)) :
    Calls Tryz.prog 32 #[.agg #[.int .u64 (hi), .int .u64 (lo), .bool true, .bool true, .string ⟨#[]⟩]] w fun e w' => e = .returned (.bool true) ∧ Below w.heap.size w w' := by
  have := is4In6_v6 hi lo w hh hl hl2
  rwa [H.out] at this

set_option maxHeartbeats 400000 in
theorem unmap_yes (hi lo : Int) (w : World) (hh : 0 ≤ hi) (hl : 0 ≤ lo) (hl2 : lo < 18446744073709551616) (H : Hid (mappedB hi lo = true)) :
    Calls Tryz.prog 54 #[.agg #[.int .u64 (hi), .int .u64 (lo), .bool true, .bool true, .string ⟨#[]⟩]] w fun e w' => e = .returned (.agg #[.int .u64 (hi), .int .u64 (lo), .bool true, .bool false, .string ⟨#[]⟩]) ∧ Below w.heap.size w w' := by
  go_enter Tryz.func54, Tryz.ntmps54
  go_wp2_with fail
  refine (is4In6_yes _ _ _ hh hl hl2 H).mono ?_
  rintro e w1 ⟨rfl, hb1⟩
  obtain ⟨hc1, hf1⟩ := rulesB (B := w.heap.size + 1 + 1) hb1 (by first | omega | (simp only [World.size_alloc, World.size_setCell, World.size_drew]; omega))
  have hs1 := hb1.size
  try simp only [World.size_alloc, World.size_setCell, World.size_drew] at hs1
  go_wp2_with fail
  refine (z4_any _).mono ?_
  rintro e w2 ⟨rfl, hb2⟩
  obtain ⟨hc2, hf2⟩ := rulesB (B := w.heap.size + 1 + 1) hb2 (by first | omega | (simp only [World.size_alloc, World.size_setCell, World.size_drew]; omega))
  have hs2 := hb2.size
  try simp only [World.size_alloc, World.size_setCell, World.size_drew] at hs2
  have q2 : w2.cell? ⟨w.heap.size, 2, none⟩ = some (.bool true) := by rw [hc2 _ _ (by omega), hc1 _ _ (by omega)]; simp [go_sem]
  have q3 : w2.cell? ⟨w.heap.size, 3, none⟩ = some (.bool true) := by rw [hc2 _ _ (by omega), hc1 _ _ (by omega)]; simp [go_sem]
  have q4 : w2.cell? ⟨w.heap.size, 4, none⟩ = some (.string ⟨#[]⟩) := by rw [hc2 _ _ (by omega), hc1 _ _ (by omega)]; simp [go_sem]
  go_wp2
  refine bodyPost_ret (v := .agg #[.int .u64 (hi), .int .u64 (lo), .bool true, .bool false, .string ⟨#[]⟩]) ?_ rfl ⟨rfl, ?_⟩
  · simp [results, Tryz.results54, go_sem, hc1, hc2]
  repeat (first | with_reducible exact Below.refl _ _ | with_reducible refine Below.setCell ?_ (by first | omega | (simp only [World.size_alloc, World.size_setCell, World.size_drew]; omega)) _ | with_reducible refine Below.alloc ?_ (by first | omega | (simp only [World.size_alloc, World.size_setCell, World.size_drew]; omega)) _ | with_reducible refine Below.drew ?_ | with_reducible refine Below.trans ?_ (hb2.mono (by first | omega | (simp only [World.size_alloc, World.size_setCell, World.size_drew]; omega))) | with_reducible refine Below.trans ?_ (hb1.mono (by first | omega | (simp only [World.size_alloc, World.size_setCell, World.size_drew]; omega))))
end Go.Proofs.YtkploaapcpjkbaaGreatDoor
