/- Contracts: loopback, link-local, multicast, private. -/
import Derived.Test.YtkploaapcpjkbaaB1
namespace Go.Proofs.Ytkploaapcpjkbaa
open Go Go.RowKit Go.Sort
set_option linter.unusedVariables false
set_option linter.unusedSimpArgs false
attribute [local go_sem] cell_gr

def loop4 (lo : Int) : Bool := byteAt lo 3 == 127
def loop6 (hi lo : Int) : Bool := hi == 0 && lo == 1

set_option maxHeartbeats 400000 in
theorem isLoopback_v4 (lo : Int) (w : World) (hl : 0 ≤ lo) (hl2 : lo < 18446744073709551616) :
    Calls Try.prog 16 #[.agg #[.int .u64 0, .int .u64 (lo), .bool true, .bool false, .string ⟨#[]⟩]] w fun e w' => e = .returned (.bool (loop4 lo)) ∧ Below w.heap.size w w' := by
  go_enter Try.func16, Try.ntmps16
  go_wp2_with fail
  refine (is4In6_v4 _ _).mono ?_
  rintro e w1 ⟨rfl, hb1⟩
  obtain ⟨hc1, hf1⟩ := rulesB (B := w.heap.size + 1) hb1 (by first | omega | (simp only [World.size_alloc, World.size_setCell, World.size_drew]; omega))
  have hs1 := hb1.size
  try simp only [World.size_alloc, World.size_setCell, World.size_drew] at hs1
  go_wp2_with fail
  refine (is4_any false _ _ _).mono ?_
  rintro e w2 ⟨rfl, hb2⟩
  obtain ⟨hc2, hf2⟩ := rulesB (B := w.heap.size + 1) hb2 (by first | omega | (simp only [World.size_alloc, World.size_setCell, World.size_drew]; omega))
  have hs2 := hb2.size
  try simp only [World.size_alloc, World.size_setCell, World.size_drew] at hs2
  go_wp2_with fail
  refine (v4_0 _ _ _ _ hl hl2).mono ?_
  rintro e w3 ⟨rfl, hb3⟩
  obtain ⟨hc3, hf3⟩ := rulesB (B := w.heap.size + 1) hb3 (by first | omega | (simp only [World.size_alloc, World.size_setCell, World.size_drew]; omega))
  have hs3 := hb3.size
  try simp only [World.size_alloc, World.size_setCell, World.size_drew] at hs3
  go_wp2
  go_ret
  refine ⟨by rfl, ?_⟩
  repeat (first | with_reducible exact Below.refl _ _ | with_reducible refine Below.setCell ?_ (by first | omega | (simp only [World.size_alloc, World.size_setCell, World.size_drew]; omega)) _ | with_reducible refine Below.alloc ?_ (by first | omega | (simp only [World.size_alloc, World.size_setCell, World.size_drew]; omega)) _ | with_reducible refine Below.drew ?_ | with_reducible refine Below.trans ?_ (hb3.mono (by first | omega | (simp only [World.size_alloc, World.size_setCell, World.size_drew]; omega))) | with_reducible refine Below.trans ?_ (hb2.mono (by first | omega | (simp only [World.size_alloc, World.size_setCell, World.size_drew]; omega))) | with_reducible refine Below.trans ?_ (hb1.mono (by first | omega | (simp only [World.size_alloc, World.size_setCell, World.size_drew]; omega))))

set_option maxHeartbeats 400000 in
theorem isLoopback_v6 (hi lo : Int) (w : World) (hh : 0 ≤ hi) (hl : 0 ≤ lo) (hl2 : lo < 18446744073709551616) (H : Hid (mappedB hi lo = false)) :
    Calls Try.prog 16 #[.agg #[.int .u64 (hi), .int .u64 (lo), .bool true, .bool true, .string ⟨#[]⟩]] w fun e w' => e = .returned (.bool (loop6 hi lo)) ∧ Below w.heap.size w w' := by
  have HM : Hid (loop6 hi lo = (hi == 0 && lo == 1)) := Lib.hid rfl
  by_cases c : hi = 0
  all_goals
    first | (have c' : (hi == 0) = true := by simp [c]) | (have c' : (hi == 0) = false := by simp [c])
    rw [c'] at HM
    clear c
    go_enter Try.func16, Try.ntmps16
    go_wp2_with fail
    refine (is4In6_no _ _ _ hh hl hl2 H).mono ?_
    rintro e w1 ⟨rfl, hb1⟩
    obtain ⟨hc1, hf1⟩ := rulesB (B := w.heap.size + 1) hb1 (by first | omega | (simp only [World.size_alloc, World.size_setCell, World.size_drew]; omega))
    have hs1 := hb1.size
    try simp only [World.size_alloc, World.size_setCell, World.size_drew] at hs1
    go_wp2_with fail
    refine (is4_any true _ _ _).mono ?_
    rintro e w2 ⟨rfl, hb2⟩
    obtain ⟨hc2, hf2⟩ := rulesB (B := w.heap.size + 1) hb2 (by first | omega | (simp only [World.size_alloc, World.size_setCell, World.size_drew]; omega))
    have hs2 := hb2.size
    try simp only [World.size_alloc, World.size_setCell, World.size_drew] at hs2
    go_wp2_with fail
    refine (is6_any true _ _ _).mono ?_
    rintro e w3 ⟨rfl, hb3⟩
    obtain ⟨hc3, hf3⟩ := rulesB (B := w.heap.size + 1) hb3 (by first | omega | (simp only [World.size_alloc, World.size_setCell, World.size_drew]; omega))
    have hs3 := hb3.size
    try simp only [World.size_alloc, World.size_setCell, World.size_drew] at hs3
    go_wp2
    go_ret
    refine ⟨by rw [HM.out]; rfl, ?_⟩
    repeat (first | with_reducible exact Below.refl _ _ | with_reducible refine Below.setCell ?_ (by first | omega | (simp only [World.size_alloc, World.size_setCell, World.size_drew]; omega)) _ | with_reducible refine Below.alloc ?_ (by first | omega | (simp only [World.size_alloc, World.size_setCell, World.size_drew]; omega)) _ | with_reducible refine Below.drew ?_ | with_reducible refine Below.trans ?_ (hb3.mono (by first | omega | (simp only [World.size_alloc, World.size_setCell, World.size_drew]; omega))) | with_reducible refine Below.trans ?_ (hb2.mono (by first | omega | (simp only [World.size_alloc, World.size_setCell, World.size_drew]; omega))) | with_reducible refine Below.trans ?_ (hb1.mono (by first | omega | (simp only [World.size_alloc, World.size_setCell, World.size_drew]; omega))))

set_option maxHeartbeats 800000 in
theorem isLoopback_map (hi lo : Int) (w : World) (hh : 0 ≤ hi) (hl : 0 ≤ lo) (hl2 : lo < 18446744073709551616) (H : Hid (mappedB hi lo = true)) :
    Calls Try.prog 16 #[.agg #[.int .u64 (hi), .int .u64 (lo), .bool true, .bool true, .string ⟨#[]⟩]] w fun e w' => e = .returned (.bool (loop4 lo)) ∧ Below w.heap.size w w' := by
  go_enter Try.func16, Try.ntmps16
  go_wp2_with fail
  refine (is4In6_yes _ _ _ hh hl hl2 H).mono ?_
  rintro e w1 ⟨rfl, hb1⟩
  obtain ⟨hc1, hf1⟩ := rulesB (B := w.heap.size + 1) hb1 (by first | omega | (simp only [World.size_alloc, World.size_setCell, World.size_drew]; omega))
  have hs1 := hb1.size
  try simp only [World.size_alloc, World.size_setCell, World.size_drew] at hs1
  go_wp2_with fail
  refine (unmap_yes _ _ _ hh hl hl2 H).mono ?_
  rintro e w2 ⟨rfl, hb2⟩
  obtain ⟨hc2, hf2⟩ := rulesB (B := w.heap.size + 1) hb2 (by first | omega | (simp only [World.size_alloc, World.size_setCell, World.size_drew]; omega))
  have hs2 := hb2.size
  try simp only [World.size_alloc, World.size_setCell, World.size_drew] at hs2
  have q0 : w2.cell? ⟨w.heap.size, 0, none⟩ = some (.int .u64 hi) := by rw [hc2 _ _ (by omega), hc1 _ _ (by omega)]; simp [go_sem]
  have q1 : w2.cell? ⟨w.heap.size, 1, none⟩ = some (.int .u64 lo) := by rw [hc2 _ _ (by omega), hc1 _ _ (by omega)]; simp [go_sem]
  have q2 : w2.cell? ⟨w.heap.size, 2, none⟩ = some (.bool true) := by rw [hc2 _ _ (by omega), hc1 _ _ (by omega)]; simp [go_sem]
  have q3 : w2.cell? ⟨w.heap.size, 3, none⟩ = some (.bool true) := by rw [hc2 _ _ (by omega), hc1 _ _ (by omega)]; simp [go_sem]
  have q4 : w2.cell? ⟨w.heap.size, 4, none⟩ = some (.string ⟨#[]⟩) := by rw [hc2 _ _ (by omega), hc1 _ _ (by omega)]; simp [go_sem]
  go_wp2_with fail
  refine (is4_any false _ _ _).mono ?_
  rintro e w3 ⟨rfl, hb3⟩
  obtain ⟨hc3, hf3⟩ := rulesB (B := w.heap.size + 1) hb3 (by first | omega | (simp only [World.size_alloc, World.size_setCell, World.size_drew]; omega))
  have hs3 := hb3.size
  try simp only [World.size_alloc, World.size_setCell, World.size_drew] at hs3
  go_wp2_with fail
  refine (v4_0 _ _ _ _ hl hl2).mono ?_
  rintro e w4 ⟨rfl, hb4⟩
  obtain ⟨hc4, hf4⟩ := rulesB (B := w.heap.size + 1) hb4 (by first | omega | (simp only [World.size_alloc, World.size_setCell, World.size_drew]; omega))
  have hs4 := hb4.size
  try simp only [World.size_alloc, World.size_setCell, World.size_drew] at hs4
  go_wp2
  go_ret
  refine ⟨by rfl, ?_⟩
  repeat (first | with_reducible exact Below.refl _ _ | with_reducible refine Below.setCell ?_ (by first | omega | (simp only [World.size_alloc, World.size_setCell, World.size_drew]; omega)) _ | with_reducible refine Below.alloc ?_ (by first | omega | (simp only [World.size_alloc, World.size_setCell, World.size_drew]; omega)) _ | with_reducible refine Below.drew ?_ | with_reducible refine Below.trans ?_ (hb4.mono (by first | omega | (simp only [World.size_alloc, World.size_setCell, World.size_drew]; omega))) | with_reducible refine Below.trans ?_ (hb3.mono (by first | omega | (simp only [World.size_alloc, World.size_setCell, World.size_drew]; omega))) | with_reducible refine Below.trans ?_ (hb2.mono (by first | omega | (simp only [World.size_alloc, World.size_setCell, World.size_drew]; omega))) | with_reducible refine Below.trans ?_ (hb1.mono (by first | omega | (simp only [World.size_alloc, World.size_setCell, World.size_drew]; omega))))

def link4 (lo : Int) : Bool := byteAt lo 3 == 169 && byteAt lo 2 == 254
def link6 (hi lo : Int) : Bool := bits .and .u16 (grp hi lo 0) 65472 == 65152
set_option maxHeartbeats 1600000 in
theorem isLink_v4 (hi lo : Int) (w : World) (hl : 0 ≤ lo) (hl2 : lo < 18446744073709551616) :
    Calls Try.prog 18 #[.agg #[.int .u64 0, .int .u64 (lo), .bool true, .bool false, .string ⟨#[]⟩]] w fun e w' => e = .returned (.bool (link4 lo)) ∧ Below w.heap.size w w' := by
  cases c0 : (byteAt lo 3 == 169) with
  | true =>
    go_enter Try.func18, Try.ntmps18
    go_wp2_with fail
    refine (is4In6_v4 _ _).mono ?_
    rintro e w1 ⟨rfl, hb1⟩
    obtain ⟨hc1, hf1⟩ := rulesB (B := w.heap.size + 1) hb1 (by first | omega | (simp only [World.size_alloc, World.size_setCell, World.size_drew]; omega))
    have hs1 := hb1.size
    try simp only [World.size_alloc, World.size_setCell, World.size_drew] at hs1
    go_wp2_with fail
    refine (is4_any false _ _ _).mono ?_
    rintro e w2 ⟨rfl, hb2⟩
    obtain ⟨hc2, hf2⟩ := rulesB (B := w.heap.size + 1) hb2 (by first | omega | (simp only [World.size_alloc, World.size_setCell, World.size_drew]; omega))
    have hs2 := hb2.size
    try simp only [World.size_alloc, World.size_setCell, World.size_drew] at hs2
    go_wp2_with fail
    refine (v4_0 _ _ _ _ hl hl2).mono ?_
    rintro e w3 ⟨rfl, hb3⟩
    obtain ⟨hc3, hf3⟩ := rulesB (B := w.heap.size + 1) hb3 (by first | omega | (simp only [World.size_alloc, World.size_setCell, World.size_drew]; omega))
    have hs3 := hb3.size
    try simp only [World.size_alloc, World.size_setCell, World.size_drew] at hs3
    go_wp2_with fail
    refine (v4_1 _ _ _ _ hl hl2).mono ?_
    rintro e w4 ⟨rfl, hb4⟩
    obtain ⟨hc4, hf4⟩ := rulesB (B := w.heap.size + 1) hb4 (by first | omega | (simp only [World.size_alloc, World.size_setCell, World.size_drew]; omega))
    have hs4 := hb4.size
    try simp only [World.size_alloc, World.size_setCell, World.size_drew] at hs4
    go_wp2
    go_ret
    refine ⟨by simp [link4, c0], ?_⟩
    repeat (first | with_reducible exact Below.refl _ _ | with_reducible refine Below.setCell ?_ (by first | omega | (simp only [World.size_alloc, World.size_setCell, World.size_drew]; omega)) _ | with_reducible refine Below.alloc ?_ (by first | omega | (simp only [World.size_alloc, World.size_setCell, World.size_drew]; omega)) _ | with_reducible refine Below.drew ?_ | with_reducible refine Below.trans ?_ (hb4.mono (by first | omega | (simp only [World.size_alloc, World.size_setCell, World.size_drew]; omega))) | with_reducible refine Below.trans ?_ (hb3.mono (by first | omega | (simp only [World.size_alloc, World.size_setCell, World.size_drew]; omega))) | with_reducible refine Below.trans ?_ (hb2.mono (by first | omega | (simp only [World.size_alloc, World.size_setCell, World.size_drew]; omega))) | with_reducible refine Below.trans ?_ (hb1.mono (by first | omega | (simp only [World.size_alloc, World.size_setCell, World.size_drew]; omega))))
  | false =>
    go_enter Try.func18, Try.ntmps18
    go_wp2_with fail
    refine (is4In6_v4 _ _).mono ?_
    rintro e w1 ⟨rfl, hb1⟩
    obtain ⟨hc1, hf1⟩ := rulesB (B := w.heap.size + 1) hb1 (by first | omega | (simp only [World.size_alloc, World.size_setCell, World.size_drew]; omega))
    have hs1 := hb1.size
    try simp only [World.size_alloc, World.size_setCell, World.size_drew] at hs1
    go_wp2_with fail
    refine (is4_any false _ _ _).mono ?_
    rintro e w2 ⟨rfl, hb2⟩
    obtain ⟨hc2, hf2⟩ := rulesB (B := w.heap.size + 1) hb2 (by first | omega | (simp only [World.size_alloc, World.size_setCell, World.size_drew]; omega))
    have hs2 := hb2.size
    try simp only [World.size_alloc, World.size_setCell, World.size_drew] at hs2
    go_wp2_with fail
    refine (v4_0 _ _ _ _ hl hl2).mono ?_
    rintro e w3 ⟨rfl, hb3⟩
    obtain ⟨hc3, hf3⟩ := rulesB (B := w.heap.size + 1) hb3 (by first | omega | (simp only [World.size_alloc, World.size_setCell, World.size_drew]; omega))
    have hs3 := hb3.size
    try simp only [World.size_alloc, World.size_setCell, World.size_drew] at hs3
    go_wp2
    go_ret
    refine ⟨by simp [link4, c0], ?_⟩
    repeat (first | with_reducible exact Below.refl _ _ | with_reducible refine Below.setCell ?_ (by first | omega | (simp only [World.size_alloc, World.size_setCell, World.size_drew]; omega)) _ | with_reducible refine Below.alloc ?_ (by first | omega | (simp only [World.size_alloc, World.size_setCell, World.size_drew]; omega)) _ | with_reducible refine Below.drew ?_ | with_reducible refine Below.trans ?_ (hb3.mono (by first | omega | (simp only [World.size_alloc, World.size_setCell, World.size_drew]; omega))) | with_reducible refine Below.trans ?_ (hb2.mono (by first | omega | (simp only [World.size_alloc, World.size_setCell, World.size_drew]; omega))) | with_reducible refine Below.trans ?_ (hb1.mono (by first | omega | (simp only [World.size_alloc, World.size_setCell, World.size_drew]; omega))))

set_option maxHeartbeats 1600000 in
theorem isLink_v6 (hi lo : Int) (w : World) (hh : 0 ≤ hi) (hh2 : hi < 18446744073709551616) (hl : 0 ≤ lo) (hl2 : lo < 18446744073709551616) (H : Hid (mappedB hi lo = false)) :
    Calls Try.prog 18 #[.agg #[.int .u64 (hi), .int .u64 (lo), .bool true, .bool true, .string ⟨#[]⟩]] w fun e w' => e = .returned (.bool (link6 hi lo)) ∧ Below w.heap.size w w' := by
  go_enter Try.func18, Try.ntmps18
  go_wp2_with fail
  refine (is4In6_no _ _ _ hh hl hl2 H).mono ?_
  rintro e w1 ⟨rfl, hb1⟩
  obtain ⟨hc1, hf1⟩ := rulesB (B := w.heap.size + 1) hb1 (by first | omega | (simp only [World.size_alloc, World.size_setCell, World.size_drew]; omega))
  have hs1 := hb1.size
  try simp only [World.size_alloc, World.size_setCell, World.size_drew] at hs1
  go_wp2_with fail
  refine (is4_any true _ _ _).mono ?_
  rintro e w2 ⟨rfl, hb2⟩
  obtain ⟨hc2, hf2⟩ := rulesB (B := w.heap.size + 1) hb2 (by first | omega | (simp only [World.size_alloc, World.size_setCell, World.size_drew]; omega))
  have hs2 := hb2.size
  try simp only [World.size_alloc, World.size_setCell, World.size_drew] at hs2
  go_wp2_with fail
  refine (is6_any true _ _ _).mono ?_
  rintro e w3 ⟨rfl, hb3⟩
  obtain ⟨hc3, hf3⟩ := rulesB (B := w.heap.size + 1) hb3 (by first | omega | (simp only [World.size_alloc, World.size_setCell, World.size_drew]; omega))
  have hs3 := hb3.size
  try simp only [World.size_alloc, World.size_setCell, World.size_drew] at hs3
  go_wp2_with fail
  refine (v6u16_0 _ _ _ _ hh hh2 hl hl2).mono ?_
  rintro e w4 ⟨rfl, hb4⟩
  obtain ⟨hc4, hf4⟩ := rulesB (B := w.heap.size + 1) hb4 (by first | omega | (simp only [World.size_alloc, World.size_setCell, World.size_drew]; omega))
  have hs4 := hb4.size
  try simp only [World.size_alloc, World.size_setCell, World.size_drew] at hs4
  go_wp2
  go_ret
  refine ⟨by rfl, ?_⟩
  repeat (first | with_reducible exact Below.refl _ _ | with_reducible refine Below.setCell ?_ (by first | omega | (simp only [World.size_alloc, World.size_setCell, World.size_drew]; omega)) _ | with_reducible refine Below.alloc ?_ (by first | omega | (simp only [World.size_alloc, World.size_setCell, World.size_drew]; omega)) _ | with_reducible refine Below.drew ?_ | with_reducible refine Below.trans ?_ (hb4.mono (by first | omega | (simp only [World.size_alloc, World.size_setCell, World.size_drew]; omega))) | with_reducible refine Below.trans ?_ (hb3.mono (by first | omega | (simp only [World.size_alloc, World.size_setCell, World.size_drew]; omega))) | with_reducible refine Below.trans ?_ (hb2.mono (by first | omega | (simp only [World.size_alloc, World.size_setCell, World.size_drew]; omega))) | with_reducible refine Below.trans ?_ (hb1.mono (by first | omega | (simp only [World.size_alloc, World.size_setCell, World.size_drew]; omega))))

set_option maxHeartbeats 1600000 in
theorem isLink_map (hi lo : Int) (w : World) (hh : 0 ≤ hi) (hh2 : hi < 18446744073709551616) (hl : 0 ≤ lo) (hl2 : lo < 18446744073709551616) (H : Hid (mappedB hi lo = true)) :
    Calls Try.prog 18 #[.agg #[.int .u64 (hi), .int .u64 (lo), .bool true, .bool true, .string ⟨#[]⟩]] w fun e w' => e = .returned (.bool (link4 lo)) ∧ Below w.heap.size w w' := by
  cases c0 : (byteAt lo 3 == 169) with
  | true =>
    go_enter Try.func18, Try.ntmps18
    go_wp2_with fail
    refine (is4In6_yes _ _ _ hh hl hl2 H).mono ?_
    rintro e w1 ⟨rfl, hb1⟩
    obtain ⟨hc1, hf1⟩ := rulesB (B := w.heap.size + 1) hb1 (by first | omega | (simp only [World.size_alloc, World.size_setCell, World.size_drew]; omega))
    have hs1 := hb1.size
    try simp only [World.size_alloc, World.size_setCell, World.size_drew] at hs1
    go_wp2_with fail
    refine (unmap_yes _ _ _ hh hl hl2 H).mono ?_
    rintro e w2 ⟨rfl, hb2⟩
    obtain ⟨hc2, hf2⟩ := rulesB (B := w.heap.size + 1) hb2 (by first | omega | (simp only [World.size_alloc, World.size_setCell, World.size_drew]; omega))
    have hs2 := hb2.size
    try simp only [World.size_alloc, World.size_setCell, World.size_drew] at hs2
    have q0 : w2.cell? ⟨w.heap.size, 0, none⟩ = some (.int .u64 hi) := by rw [hc2 _ _ (by omega), hc1 _ _ (by omega)]; simp [go_sem]
    have q1 : w2.cell? ⟨w.heap.size, 1, none⟩ = some (.int .u64 lo) := by rw [hc2 _ _ (by omega), hc1 _ _ (by omega)]; simp [go_sem]
    have q2 : w2.cell? ⟨w.heap.size, 2, none⟩ = some (.bool true) := by rw [hc2 _ _ (by omega), hc1 _ _ (by omega)]; simp [go_sem]
    have q3 : w2.cell? ⟨w.heap.size, 3, none⟩ = some (.bool true) := by rw [hc2 _ _ (by omega), hc1 _ _ (by omega)]; simp [go_sem]
    have q4 : w2.cell? ⟨w.heap.size, 4, none⟩ = some (.string ⟨#[]⟩) := by rw [hc2 _ _ (by omega), hc1 _ _ (by omega)]; simp [go_sem]
    go_wp2_with fail
    refine (is4_any false _ _ _).mono ?_
    rintro e w3 ⟨rfl, hb3⟩
    obtain ⟨hc3, hf3⟩ := rulesB (B := w.heap.size + 1) hb3 (by first | omega | (simp only [World.size_alloc, World.size_setCell, World.size_drew]; omega))
    have hs3 := hb3.size
    try simp only [World.size_alloc, World.size_setCell, World.size_drew] at hs3
    go_wp2_with fail
    refine (v4_0 _ _ _ _ hl hl2).mono ?_
    rintro e w4 ⟨rfl, hb4⟩
    obtain ⟨hc4, hf4⟩ := rulesB (B := w.heap.size + 1) hb4 (by first | omega | (simp only [World.size_alloc, World.size_setCell, World.size_drew]; omega))
    have hs4 := hb4.size
    try simp only [World.size_alloc, World.size_setCell, World.size_drew] at hs4
    go_wp2_with fail
    refine (v4_1 _ _ _ _ hl hl2).mono ?_
    rintro e w5 ⟨rfl, hb5⟩
    obtain ⟨hc5, hf5⟩ := rulesB (B := w.heap.size + 1) hb5 (by first | omega | (simp only [World.size_alloc, World.size_setCell, World.size_drew]; omega))
    have hs5 := hb5.size
    try simp only [World.size_alloc, World.size_setCell, World.size_drew] at hs5
    go_wp2
    go_ret
    refine ⟨by simp [link4, c0], ?_⟩
    repeat (first | with_reducible exact Below.refl _ _ | with_reducible refine Below.setCell ?_ (by first | omega | (simp only [World.size_alloc, World.size_setCell, World.size_drew]; omega)) _ | with_reducible refine Below.alloc ?_ (by first | omega | (simp only [World.size_alloc, World.size_setCell, World.size_drew]; omega)) _ | with_reducible refine Below.drew ?_ | with_reducible refine Below.trans ?_ (hb5.mono (by first | omega | (simp only [World.size_alloc, World.size_setCell, World.size_drew]; omega))) | with_reducible refine Below.trans ?_ (hb4.mono (by first | omega | (simp only [World.size_alloc, World.size_setCell, World.size_drew]; omega))) | with_reducible refine Below.trans ?_ (hb3.mono (by first | omega | (simp only [World.size_alloc, World.size_setCell, World.size_drew]; omega))) | with_reducible refine Below.trans ?_ (hb2.mono (by first | omega | (simp only [World.size_alloc, World.size_setCell, World.size_drew]; omega))) | with_reducible refine Below.trans ?_ (hb1.mono (by first | omega | (simp only [World.size_alloc, World.size_setCell, World.size_drew]; omega))))
  | false =>
    go_enter Try.func18, Try.ntmps18
    go_wp2_with fail
    refine (is4In6_yes _ _ _ hh hl hl2 H).mono ?_
    rintro e w1 ⟨rfl, hb1⟩
    obtain ⟨hc1, hf1⟩ := rulesB (B := w.heap.size + 1) hb1 (by first | omega | (simp only [World.size_alloc, World.size_setCell, World.size_drew]; omega))
    have hs1 := hb1.size
    try simp only [World.size_alloc, World.size_setCell, World.size_drew] at hs1
    go_wp2_with fail
    refine (unmap_yes _ _ _ hh hl hl2 H).mono ?_
    rintro e w2 ⟨rfl, hb2⟩
    obtain ⟨hc2, hf2⟩ := rulesB (B := w.heap.size + 1) hb2 (by first | omega | (simp only [World.size_alloc, World.size_setCell, World.size_drew]; omega))
    have hs2 := hb2.size
    try simp only [World.size_alloc, World.size_setCell, World.size_drew] at hs2
    have q0 : w2.cell? ⟨w.heap.size, 0, none⟩ = some (.int .u64 hi) := by rw [hc2 _ _ (by omega), hc1 _ _ (by omega)]; simp [go_sem]
    have q1 : w2.cell? ⟨w.heap.size, 1, none⟩ = some (.int .u64 lo) := by rw [hc2 _ _ (by omega), hc1 _ _ (by omega)]; simp [go_sem]
    have q2 : w2.cell? ⟨w.heap.size, 2, none⟩ = some (.bool true) := by rw [hc2 _ _ (by omega), hc1 _ _ (by omega)]; simp [go_sem]
    have q3 : w2.cell? ⟨w.heap.size, 3, none⟩ = some (.bool true) := by rw [hc2 _ _ (by omega), hc1 _ _ (by omega)]; simp [go_sem]
    have q4 : w2.cell? ⟨w.heap.size, 4, none⟩ = some (.string ⟨#[]⟩) := by rw [hc2 _ _ (by omega), hc1 _ _ (by omega)]; simp [go_sem]
    go_wp2_with fail
    refine (is4_any false _ _ _).mono ?_
    rintro e w3 ⟨rfl, hb3⟩
    obtain ⟨hc3, hf3⟩ := rulesB (B := w.heap.size + 1) hb3 (by first | omega | (simp only [World.size_alloc, World.size_setCell, World.size_drew]; omega))
    have hs3 := hb3.size
    try simp only [World.size_alloc, World.size_setCell, World.size_drew] at hs3
    go_wp2_with fail
    refine (v4_0 _ _ _ _ hl hl2).mono ?_
    rintro e w4 ⟨rfl, hb4⟩
    obtain ⟨hc4, hf4⟩ := rulesB (B := w.heap.size + 1) hb4 (by first | omega | (simp only [World.size_alloc, World.size_setCell, World.size_drew]; omega))
    have hs4 := hb4.size
    try simp only [World.size_alloc, World.size_setCell, World.size_drew] at hs4
    go_wp2
    go_ret
    refine ⟨by simp [link4, c0], ?_⟩
    repeat (first | with_reducible exact Below.refl _ _ | with_reducible refine Below.setCell ?_ (by first | omega | (simp only [World.size_alloc, World.size_setCell, World.size_drew]; omega)) _ | with_reducible refine Below.alloc ?_ (by first | omega | (simp only [World.size_alloc, World.size_setCell, World.size_drew]; omega)) _ | with_reducible refine Below.drew ?_ | with_reducible refine Below.trans ?_ (hb4.mono (by first | omega | (simp only [World.size_alloc, World.size_setCell, World.size_drew]; omega))) | with_reducible refine Below.trans ?_ (hb3.mono (by first | omega | (simp only [World.size_alloc, World.size_setCell, World.size_drew]; omega))) | with_reducible refine Below.trans ?_ (hb2.mono (by first | omega | (simp only [World.size_alloc, World.size_setCell, World.size_drew]; omega))) | with_reducible refine Below.trans ?_ (hb1.mono (by first | omega | (simp only [World.size_alloc, World.size_setCell, World.size_drew]; omega))))


def multi4 (lo : Int) : Bool := bits .and .u8 (byteAt lo 3) 240 == 224
def multi6 (hi : Int) : Bool := hi / 72057594037927936 == 255
set_option maxHeartbeats 1600000 in
theorem isMulti_v4 (hi lo : Int) (w : World) (hl : 0 ≤ lo) (hl2 : lo < 18446744073709551616) :
    Calls Try.prog 19 #[.agg #[.int .u64 0, .int .u64 (lo), .bool true, .bool false, .string ⟨#[]⟩]] w fun e w' => e = .returned (.bool (multi4 lo)) ∧ Below w.heap.size w w' := by
  go_enter Try.func19, Try.ntmps19
  go_wp2_with fail
  refine (is4In6_v4 _ _).mono ?_
  rintro e w1 ⟨rfl, hb1⟩
  obtain ⟨hc1, hf1⟩ := rulesB (B := w.heap.size + 1) hb1 (by first | omega | (simp only [World.size_alloc, World.size_setCell, World.size_drew]; omega))
  have hs1 := hb1.size
  try simp only [World.size_alloc, World.size_setCell, World.size_drew] at hs1
  go_wp2_with fail
  refine (is4_any false _ _ _).mono ?_
  rintro e w2 ⟨rfl, hb2⟩
  obtain ⟨hc2, hf2⟩ := rulesB (B := w.heap.size + 1) hb2 (by first | omega | (simp only [World.size_alloc, World.size_setCell, World.size_drew]; omega))
  have hs2 := hb2.size
  try simp only [World.size_alloc, World.size_setCell, World.size_drew] at hs2
  go_wp2_with fail
  refine (v4_0 _ _ _ _ hl hl2).mono ?_
  rintro e w3 ⟨rfl, hb3⟩
  obtain ⟨hc3, hf3⟩ := rulesB (B := w.heap.size + 1) hb3 (by first | omega | (simp only [World.size_alloc, World.size_setCell, World.size_drew]; omega))
  have hs3 := hb3.size
  try simp only [World.size_alloc, World.size_setCell, World.size_drew] at hs3
  go_wp2
  go_ret
  refine ⟨by rfl, ?_⟩
  repeat (first | with_reducible exact Below.refl _ _ | with_reducible refine Below.setCell ?_ (by first | omega | (simp only [World.size_alloc, World.size_setCell, World.size_drew]; omega)) _ | with_reducible refine Below.alloc ?_ (by first | omega | (simp only [World.size_alloc, World.size_setCell, World.size_drew]; omega)) _ | with_reducible refine Below.drew ?_ | with_reducible refine Below.trans ?_ (hb3.mono (by first | omega | (simp only [World.size_alloc, World.size_setCell, World.size_drew]; omega))) | with_reducible refine Below.trans ?_ (hb2.mono (by first | omega | (simp only [World.size_alloc, World.size_setCell, World.size_drew]; omega))) | with_reducible refine Below.trans ?_ (hb1.mono (by first | omega | (simp only [World.size_alloc, World.size_setCell, World.size_drew]; omega))))

set_option maxHeartbeats 1600000 in
theorem isMulti_v6 (hi lo : Int) (w : World) (hh : 0 ≤ hi) (hh2 : hi < 18446744073709551616) (hl : 0 ≤ lo) (hl2 : lo < 18446744073709551616) (H : Hid (mappedB hi lo = false)) :
    Calls Try.prog 19 #[.agg #[.int .u64 (hi), .int .u64 (lo), .bool true, .bool true, .string ⟨#[]⟩]] w fun e w' => e = .returned (.bool (multi6 hi)) ∧ Below w.heap.size w w' := by
  go_enter Try.func19, Try.ntmps19
  go_wp2_with fail
  refine (is4In6_no _ _ _ hh hl hl2 H).mono ?_
  rintro e w1 ⟨rfl, hb1⟩
  obtain ⟨hc1, hf1⟩ := rulesB (B := w.heap.size + 1) hb1 (by first | omega | (simp only [World.size_alloc, World.size_setCell, World.size_drew]; omega))
  have hs1 := hb1.size
  try simp only [World.size_alloc, World.size_setCell, World.size_drew] at hs1
  go_wp2_with fail
  refine (is4_any true _ _ _).mono ?_
  rintro e w2 ⟨rfl, hb2⟩
  obtain ⟨hc2, hf2⟩ := rulesB (B := w.heap.size + 1) hb2 (by first | omega | (simp only [World.size_alloc, World.size_setCell, World.size_drew]; omega))
  have hs2 := hb2.size
  try simp only [World.size_alloc, World.size_setCell, World.size_drew] at hs2
  go_wp2_with fail
  refine (is6_any true _ _ _).mono ?_
  rintro e w3 ⟨rfl, hb3⟩
  obtain ⟨hc3, hf3⟩ := rulesB (B := w.heap.size + 1) hb3 (by first | omega | (simp only [World.size_alloc, World.size_setCell, World.size_drew]; omega))
  have hs3 := hb3.size
  try simp only [World.size_alloc, World.size_setCell, World.size_drew] at hs3

  go_wp2
  go_ret
  refine ⟨by rfl, ?_⟩
  repeat (first | with_reducible exact Below.refl _ _ | with_reducible refine Below.setCell ?_ (by first | omega | (simp only [World.size_alloc, World.size_setCell, World.size_drew]; omega)) _ | with_reducible refine Below.alloc ?_ (by first | omega | (simp only [World.size_alloc, World.size_setCell, World.size_drew]; omega)) _ | with_reducible refine Below.drew ?_ | with_reducible refine Below.trans ?_ (hb3.mono (by first | omega | (simp only [World.size_alloc, World.size_setCell, World.size_drew]; omega))) | with_reducible refine Below.trans ?_ (hb2.mono (by first | omega | (simp only [World.size_alloc, World.size_setCell, World.size_drew]; omega))) | with_reducible refine Below.trans ?_ (hb1.mono (by first | omega | (simp only [World.size_alloc, World.size_setCell, World.size_drew]; omega))))

set_option maxHeartbeats 1600000 in
theorem isMulti_map (hi lo : Int) (w : World) (hh : 0 ≤ hi) (hh2 : hi < 18446744073709551616) (hl : 0 ≤ lo) (hl2 : lo < 18446744073709551616) (H : Hid (mappedB hi lo = true)) :
    Calls Try.prog 19 #[.agg #[.int .u64 (hi), .int .u64 (lo), .bool true, .bool true, .string ⟨#[]⟩]] w fun e w' => e = .returned (.bool (multi4 lo)) ∧ Below w.heap.size w w' := by
  go_enter Try.func19, Try.ntmps19
  go_wp2_with fail
  refine (is4In6_yes _ _ _ hh hl hl2 H).mono ?_
  rintro e w1 ⟨rfl, hb1⟩
  obtain ⟨hc1, hf1⟩ := rulesB (B := w.heap.size + 1) hb1 (by first | omega | (simp only [World.size_alloc, World.size_setCell, World.size_drew]; omega))
  have hs1 := hb1.size
  try simp only [World.size_alloc, World.size_setCell, World.size_drew] at hs1
  go_wp2_with fail
  refine (unmap_yes _ _ _ hh hl hl2 H).mono ?_
  rintro e w2 ⟨rfl, hb2⟩
  obtain ⟨hc2, hf2⟩ := rulesB (B := w.heap.size + 1) hb2 (by first | omega | (simp only [World.size_alloc, World.size_setCell, World.size_drew]; omega))
  have hs2 := hb2.size
  try simp only [World.size_alloc, World.size_setCell, World.size_drew] at hs2
  have q0 : w2.cell? ⟨w.heap.size, 0, none⟩ = some (.int .u64 hi) := by rw [hc2 _ _ (by omega), hc1 _ _ (by omega)]; simp [go_sem]
  have q1 : w2.cell? ⟨w.heap.size, 1, none⟩ = some (.int .u64 lo) := by rw [hc2 _ _ (by omega), hc1 _ _ (by omega)]; simp [go_sem]
  have q2 : w2.cell? ⟨w.heap.size, 2, none⟩ = some (.bool true) := by rw [hc2 _ _ (by omega), hc1 _ _ (by omega)]; simp [go_sem]
  have q3 : w2.cell? ⟨w.heap.size, 3, none⟩ = some (.bool true) := by rw [hc2 _ _ (by omega), hc1 _ _ (by omega)]; simp [go_sem]
  have q4 : w2.cell? ⟨w.heap.size, 4, none⟩ = some (.string ⟨#[]⟩) := by rw [hc2 _ _ (by omega), hc1 _ _ (by omega)]; simp [go_sem]
  go_wp2_with fail
  refine (is4_any false _ _ _).mono ?_
  rintro e w3 ⟨rfl, hb3⟩
  obtain ⟨hc3, hf3⟩ := rulesB (B := w.heap.size + 1) hb3 (by first | omega | (simp only [World.size_alloc, World.size_setCell, World.size_drew]; omega))
  have hs3 := hb3.size
  try simp only [World.size_alloc, World.size_setCell, World.size_drew] at hs3
  go_wp2_with fail
  refine (v4_0 _ _ _ _ hl hl2).mono ?_
  rintro e w4 ⟨rfl, hb4⟩
  obtain ⟨hc4, hf4⟩ := rulesB (B := w.heap.size + 1) hb4 (by first | omega | (simp only [World.size_alloc, World.size_setCell, World.size_drew]; omega))
  have hs4 := hb4.size
  try simp only [World.size_alloc, World.size_setCell, World.size_drew] at hs4
  go_wp2
  go_ret
  refine ⟨by rfl, ?_⟩
  repeat (first | with_reducible exact Below.refl _ _ | with_reducible refine Below.setCell ?_ (by first | omega | (simp only [World.size_alloc, World.size_setCell, World.size_drew]; omega)) _ | with_reducible refine Below.alloc ?_ (by first | omega | (simp only [World.size_alloc, World.size_setCell, World.size_drew]; omega)) _ | with_reducible refine Below.drew ?_ | with_reducible refine Below.trans ?_ (hb4.mono (by first | omega | (simp only [World.size_alloc, World.size_setCell, World.size_drew]; omega))) | with_reducible refine Below.trans ?_ (hb3.mono (by first | omega | (simp only [World.size_alloc, World.size_setCell, World.size_drew]; omega))) | with_reducible refine Below.trans ?_ (hb2.mono (by first | omega | (simp only [World.size_alloc, World.size_setCell, World.size_drew]; omega))) | with_reducible refine Below.trans ?_ (hb1.mono (by first | omega | (simp only [World.size_alloc, World.size_setCell, World.size_drew]; omega))))


def priv4 (lo : Int) : Bool := byteAt lo 3 == 10 || (byteAt lo 3 == 172 && bits .and .u8 (byteAt lo 2) 240 == 16 || byteAt lo 3 == 192 && byteAt lo 2 == 168)
def priv6 (hi : Int) : Bool := bits .and .u8 (hi / 72057594037927936 % 256) 254 == 252
set_option maxHeartbeats 1600000 in
theorem isPriv_v4 (hi lo : Int) (w : World) (hl : 0 ≤ lo) (hl2 : lo < 18446744073709551616) :
    Calls Try.prog 17 #[.agg #[.int .u64 0, .int .u64 (lo), .bool true, .bool false, .string ⟨#[]⟩]] w fun e w' => e = .returned (.bool (priv4 lo)) ∧ Below w.heap.size w w' := by
  cases c0 : (byteAt lo 3 == 10) with
  | true =>
    go_enter Try.func17, Try.ntmps17
    go_wp2_with fail
    refine (is4In6_v4 _ _).mono ?_
    rintro e w1 ⟨rfl, hb1⟩
    obtain ⟨hc1, hf1⟩ := rulesB (B := w.heap.size + 1) hb1 (by first | omega | (simp only [World.size_alloc, World.size_setCell, World.size_drew]; omega))
    have hs1 := hb1.size
    try simp only [World.size_alloc, World.size_setCell, World.size_drew] at hs1
    go_wp2_with fail
    refine (is4_any false _ _ _).mono ?_
    rintro e w2 ⟨rfl, hb2⟩
    obtain ⟨hc2, hf2⟩ := rulesB (B := w.heap.size + 1) hb2 (by first | omega | (simp only [World.size_alloc, World.size_setCell, World.size_drew]; omega))
    have hs2 := hb2.size
    try simp only [World.size_alloc, World.size_setCell, World.size_drew] at hs2
    go_wp2_with fail
    refine (v4_0 _ _ _ _ hl hl2).mono ?_
    rintro e w3 ⟨rfl, hb3⟩
    obtain ⟨hc3, hf3⟩ := rulesB (B := w.heap.size + 1) hb3 (by first | omega | (simp only [World.size_alloc, World.size_setCell, World.size_drew]; omega))
    have hs3 := hb3.size
    try simp only [World.size_alloc, World.size_setCell, World.size_drew] at hs3
    go_wp2
    go_ret
    refine ⟨by simp [priv4, c0], ?_⟩
    repeat (first | with_reducible exact Below.refl _ _ | with_reducible refine Below.setCell ?_ (by first | omega | (simp only [World.size_alloc, World.size_setCell, World.size_drew]; omega)) _ | with_reducible refine Below.alloc ?_ (by first | omega | (simp only [World.size_alloc, World.size_setCell, World.size_drew]; omega)) _ | with_reducible refine Below.drew ?_ | with_reducible refine Below.trans ?_ (hb3.mono (by first | omega | (simp only [World.size_alloc, World.size_setCell, World.size_drew]; omega))) | with_reducible refine Below.trans ?_ (hb2.mono (by first | omega | (simp only [World.size_alloc, World.size_setCell, World.size_drew]; omega))) | with_reducible refine Below.trans ?_ (hb1.mono (by first | omega | (simp only [World.size_alloc, World.size_setCell, World.size_drew]; omega))))
  | false =>
    cases c1 : (byteAt lo 3 == 172) with
    | true =>
      have c3 : (byteAt lo 3 == 192) = false := by rw [beq_iff_eq] at c1; rw [c1]; rfl
      cases c2 : (bits .and .u8 (byteAt lo 2) 240 == 16) with
      | true =>
        go_enter Try.func17, Try.ntmps17
        go_wp2_with fail
        refine (is4In6_v4 _ _).mono ?_
        rintro e w1 ⟨rfl, hb1⟩
        obtain ⟨hc1, hf1⟩ := rulesB (B := w.heap.size + 1) hb1 (by first | omega | (simp only [World.size_alloc, World.size_setCell, World.size_drew]; omega))
        have hs1 := hb1.size
        try simp only [World.size_alloc, World.size_setCell, World.size_drew] at hs1
        go_wp2_with fail
        refine (is4_any false _ _ _).mono ?_
        rintro e w2 ⟨rfl, hb2⟩
        obtain ⟨hc2, hf2⟩ := rulesB (B := w.heap.size + 1) hb2 (by first | omega | (simp only [World.size_alloc, World.size_setCell, World.size_drew]; omega))
        have hs2 := hb2.size
        try simp only [World.size_alloc, World.size_setCell, World.size_drew] at hs2
        go_wp2_with fail
        refine (v4_0 _ _ _ _ hl hl2).mono ?_
        rintro e w3 ⟨rfl, hb3⟩
        obtain ⟨hc3, hf3⟩ := rulesB (B := w.heap.size + 1) hb3 (by first | omega | (simp only [World.size_alloc, World.size_setCell, World.size_drew]; omega))
        have hs3 := hb3.size
        try simp only [World.size_alloc, World.size_setCell, World.size_drew] at hs3
        go_wp2_with fail
        refine (v4_0 _ _ _ _ hl hl2).mono ?_
        rintro e w4 ⟨rfl, hb4⟩
        obtain ⟨hc4, hf4⟩ := rulesB (B := w.heap.size + 1) hb4 (by first | omega | (simp only [World.size_alloc, World.size_setCell, World.size_drew]; omega))
        have hs4 := hb4.size
        try simp only [World.size_alloc, World.size_setCell, World.size_drew] at hs4
        go_wp2_with fail
        refine (v4_1 _ _ _ _ hl hl2).mono ?_
        rintro e w5 ⟨rfl, hb5⟩
        obtain ⟨hc5, hf5⟩ := rulesB (B := w.heap.size + 1) hb5 (by first | omega | (simp only [World.size_alloc, World.size_setCell, World.size_drew]; omega))
        have hs5 := hb5.size
        try simp only [World.size_alloc, World.size_setCell, World.size_drew] at hs5
        go_wp2
        go_ret
        refine ⟨by simp [priv4, c0, c1, c2], ?_⟩
        repeat (first | with_reducible exact Below.refl _ _ | with_reducible refine Below.setCell ?_ (by first | omega | (simp only [World.size_alloc, World.size_setCell, World.size_drew]; omega)) _ | with_reducible refine Below.alloc ?_ (by first | omega | (simp only [World.size_alloc, World.size_setCell, World.size_drew]; omega)) _ | with_reducible refine Below.drew ?_ | with_reducible refine Below.trans ?_ (hb5.mono (by first | omega | (simp only [World.size_alloc, World.size_setCell, World.size_drew]; omega))) | with_reducible refine Below.trans ?_ (hb4.mono (by first | omega | (simp only [World.size_alloc, World.size_setCell, World.size_drew]; omega))) | with_reducible refine Below.trans ?_ (hb3.mono (by first | omega | (simp only [World.size_alloc, World.size_setCell, World.size_drew]; omega))) | with_reducible refine Below.trans ?_ (hb2.mono (by first | omega | (simp only [World.size_alloc, World.size_setCell, World.size_drew]; omega))) | with_reducible refine Below.trans ?_ (hb1.mono (by first | omega | (simp only [World.size_alloc, World.size_setCell, World.size_drew]; omega))))
      | false =>
        go_enter Try.func17, Try.ntmps17
        go_wp2_with fail
        refine (is4In6_v4 _ _).mono ?_
        rintro e w1 ⟨rfl, hb1⟩
        obtain ⟨hc1, hf1⟩ := rulesB (B := w.heap.size + 1) hb1 (by first | omega | (simp only [World.size_alloc, World.size_setCell, World.size_drew]; omega))
        have hs1 := hb1.size
        try simp only [World.size_alloc, World.size_setCell, World.size_drew] at hs1
        go_wp2_with fail
        refine (is4_any false _ _ _).mono ?_
        rintro e w2 ⟨rfl, hb2⟩
        obtain ⟨hc2, hf2⟩ := rulesB (B := w.heap.size + 1) hb2 (by first | omega | (simp only [World.size_alloc, World.size_setCell, World.size_drew]; omega))
        have hs2 := hb2.size
        try simp only [World.size_alloc, World.size_setCell, World.size_drew] at hs2
        go_wp2_with fail
        refine (v4_0 _ _ _ _ hl hl2).mono ?_
        rintro e w3 ⟨rfl, hb3⟩
        obtain ⟨hc3, hf3⟩ := rulesB (B := w.heap.size + 1) hb3 (by first | omega | (simp only [World.size_alloc, World.size_setCell, World.size_drew]; omega))
        have hs3 := hb3.size
        try simp only [World.size_alloc, World.size_setCell, World.size_drew] at hs3
        go_wp2_with fail
        refine (v4_0 _ _ _ _ hl hl2).mono ?_
        rintro e w4 ⟨rfl, hb4⟩
        obtain ⟨hc4, hf4⟩ := rulesB (B := w.heap.size + 1) hb4 (by first | omega | (simp only [World.size_alloc, World.size_setCell, World.size_drew]; omega))
        have hs4 := hb4.size
        try simp only [World.size_alloc, World.size_setCell, World.size_drew] at hs4
        go_wp2_with fail
        refine (v4_1 _ _ _ _ hl hl2).mono ?_
        rintro e w5 ⟨rfl, hb5⟩
        obtain ⟨hc5, hf5⟩ := rulesB (B := w.heap.size + 1) hb5 (by first | omega | (simp only [World.size_alloc, World.size_setCell, World.size_drew]; omega))
        have hs5 := hb5.size
        try simp only [World.size_alloc, World.size_setCell, World.size_drew] at hs5
        go_wp2_with fail
        refine (v4_0 _ _ _ _ hl hl2).mono ?_
        rintro e w6 ⟨rfl, hb6⟩
        obtain ⟨hc6, hf6⟩ := rulesB (B := w.heap.size + 1) hb6 (by first | omega | (simp only [World.size_alloc, World.size_setCell, World.size_drew]; omega))
        have hs6 := hb6.size
        try simp only [World.size_alloc, World.size_setCell, World.size_drew] at hs6
        go_wp2
        go_ret
        refine ⟨by simp [priv4, c0, c1, c2, c3], ?_⟩
        repeat (first | with_reducible exact Below.refl _ _ | with_reducible refine Below.setCell ?_ (by first | omega | (simp only [World.size_alloc, World.size_setCell, World.size_drew]; omega)) _ | with_reducible refine Below.alloc ?_ (by first | omega | (simp only [World.size_alloc, World.size_setCell, World.size_drew]; omega)) _ | with_reducible refine Below.drew ?_ | with_reducible refine Below.trans ?_ (hb6.mono (by first | omega | (simp only [World.size_alloc, World.size_setCell, World.size_drew]; omega))) | with_reducible refine Below.trans ?_ (hb5.mono (by first | omega | (simp only [World.size_alloc, World.size_setCell, World.size_drew]; omega))) | with_reducible refine Below.trans ?_ (hb4.mono (by first | omega | (simp only [World.size_alloc, World.size_setCell, World.size_drew]; omega))) | with_reducible refine Below.trans ?_ (hb3.mono (by first | omega | (simp only [World.size_alloc, World.size_setCell, World.size_drew]; omega))) | with_reducible refine Below.trans ?_ (hb2.mono (by first | omega | (simp only [World.size_alloc, World.size_setCell, World.size_drew]; omega))) | with_reducible refine Below.trans ?_ (hb1.mono (by first | omega | (simp only [World.size_alloc, World.size_setCell, World.size_drew]; omega))))
    | false =>
      cases c3 : (byteAt lo 3 == 192) with
      | true =>
        go_enter Try.func17, Try.ntmps17
        go_wp2_with fail
        refine (is4In6_v4 _ _).mono ?_
        rintro e w1 ⟨rfl, hb1⟩
        obtain ⟨hc1, hf1⟩ := rulesB (B := w.heap.size + 1) hb1 (by first | omega | (simp only [World.size_alloc, World.size_setCell, World.size_drew]; omega))
        have hs1 := hb1.size
        try simp only [World.size_alloc, World.size_setCell, World.size_drew] at hs1
        go_wp2_with fail
        refine (is4_any false _ _ _).mono ?_
        rintro e w2 ⟨rfl, hb2⟩
        obtain ⟨hc2, hf2⟩ := rulesB (B := w.heap.size + 1) hb2 (by first | omega | (simp only [World.size_alloc, World.size_setCell, World.size_drew]; omega))
        have hs2 := hb2.size
        try simp only [World.size_alloc, World.size_setCell, World.size_drew] at hs2
        go_wp2_with fail
        refine (v4_0 _ _ _ _ hl hl2).mono ?_
        rintro e w3 ⟨rfl, hb3⟩
        obtain ⟨hc3, hf3⟩ := rulesB (B := w.heap.size + 1) hb3 (by first | omega | (simp only [World.size_alloc, World.size_setCell, World.size_drew]; omega))
        have hs3 := hb3.size
        try simp only [World.size_alloc, World.size_setCell, World.size_drew] at hs3
        go_wp2_with fail
        refine (v4_0 _ _ _ _ hl hl2).mono ?_
        rintro e w4 ⟨rfl, hb4⟩
        obtain ⟨hc4, hf4⟩ := rulesB (B := w.heap.size + 1) hb4 (by first | omega | (simp only [World.size_alloc, World.size_setCell, World.size_drew]; omega))
        have hs4 := hb4.size
        try simp only [World.size_alloc, World.size_setCell, World.size_drew] at hs4
        go_wp2_with fail
        refine (v4_0 _ _ _ _ hl hl2).mono ?_
        rintro e w5 ⟨rfl, hb5⟩
        obtain ⟨hc5, hf5⟩ := rulesB (B := w.heap.size + 1) hb5 (by first | omega | (simp only [World.size_alloc, World.size_setCell, World.size_drew]; omega))
        have hs5 := hb5.size
        try simp only [World.size_alloc, World.size_setCell, World.size_drew] at hs5
        go_wp2_with fail
        refine (v4_1 _ _ _ _ hl hl2).mono ?_
        rintro e w6 ⟨rfl, hb6⟩
        obtain ⟨hc6, hf6⟩ := rulesB (B := w.heap.size + 1) hb6 (by first | omega | (simp only [World.size_alloc, World.size_setCell, World.size_drew]; omega))
        have hs6 := hb6.size
        try simp only [World.size_alloc, World.size_setCell, World.size_drew] at hs6
        go_wp2
        go_ret
        refine ⟨by simp [priv4, c0, c1, c3], ?_⟩
        repeat (first | with_reducible exact Below.refl _ _ | with_reducible refine Below.setCell ?_ (by first | omega | (simp only [World.size_alloc, World.size_setCell, World.size_drew]; omega)) _ | with_reducible refine Below.alloc ?_ (by first | omega | (simp only [World.size_alloc, World.size_setCell, World.size_drew]; omega)) _ | with_reducible refine Below.drew ?_ | with_reducible refine Below.trans ?_ (hb6.mono (by first | omega | (simp only [World.size_alloc, World.size_setCell, World.size_drew]; omega))) | with_reducible refine Below.trans ?_ (hb5.mono (by first | omega | (simp only [World.size_alloc, World.size_setCell, World.size_drew]; omega))) | with_reducible refine Below.trans ?_ (hb4.mono (by first | omega | (simp only [World.size_alloc, World.size_setCell, World.size_drew]; omega))) | with_reducible refine Below.trans ?_ (hb3.mono (by first | omega | (simp only [World.size_alloc, World.size_setCell, World.size_drew]; omega))) | with_reducible refine Below.trans ?_ (hb2.mono (by first | omega | (simp only [World.size_alloc, World.size_setCell, World.size_drew]; omega))) | with_reducible refine Below.trans ?_ (hb1.mono (by first | omega | (simp only [World.size_alloc, World.size_setCell, World.size_drew]; omega))))
      | false =>
        go_enter Try.func17, Try.ntmps17
        go_wp2_with fail
        refine (is4In6_v4 _ _).mono ?_
        rintro e w1 ⟨rfl, hb1⟩
        obtain ⟨hc1, hf1⟩ := rulesB (B := w.heap.size + 1) hb1 (by first | omega | (simp only [World.size_alloc, World.size_setCell, World.size_drew]; omega))
        have hs1 := hb1.size
        try simp only [World.size_alloc, World.size_setCell, World.size_drew] at hs1
        go_wp2_with fail
        refine (is4_any false _ _ _).mono ?_
        rintro e w2 ⟨rfl, hb2⟩
        obtain ⟨hc2, hf2⟩ := rulesB (B := w.heap.size + 1) hb2 (by first | omega | (simp only [World.size_alloc, World.size_setCell, World.size_drew]; omega))
        have hs2 := hb2.size
        try simp only [World.size_alloc, World.size_setCell, World.size_drew] at hs2
        go_wp2_with fail
        refine (v4_0 _ _ _ _ hl hl2).mono ?_
        rintro e w3 ⟨rfl, hb3⟩
        obtain ⟨hc3, hf3⟩ := rulesB (B := w.heap.size + 1) hb3 (by first | omega | (simp only [World.size_alloc, World.size_setCell, World.size_drew]; omega))
        have hs3 := hb3.size
        try simp only [World.size_alloc, World.size_setCell, World.size_drew] at hs3
        go_wp2_with fail
        refine (v4_0 _ _ _ _ hl hl2).mono ?_
        rintro e w4 ⟨rfl, hb4⟩
        obtain ⟨hc4, hf4⟩ := rulesB (B := w.heap.size + 1) hb4 (by first | omega | (simp only [World.size_alloc, World.size_setCell, World.size_drew]; omega))
        have hs4 := hb4.size
        try simp only [World.size_alloc, World.size_setCell, World.size_drew] at hs4
        go_wp2_with fail
        refine (v4_0 _ _ _ _ hl hl2).mono ?_
        rintro e w5 ⟨rfl, hb5⟩
        obtain ⟨hc5, hf5⟩ := rulesB (B := w.heap.size + 1) hb5 (by first | omega | (simp only [World.size_alloc, World.size_setCell, World.size_drew]; omega))
        have hs5 := hb5.size
        try simp only [World.size_alloc, World.size_setCell, World.size_drew] at hs5
        go_wp2
        go_ret
        refine ⟨by simp [priv4, c0, c1, c3], ?_⟩
        repeat (first | with_reducible exact Below.refl _ _ | with_reducible refine Below.setCell ?_ (by first | omega | (simp only [World.size_alloc, World.size_setCell, World.size_drew]; omega)) _ | with_reducible refine Below.alloc ?_ (by first | omega | (simp only [World.size_alloc, World.size_setCell, World.size_drew]; omega)) _ | with_reducible refine Below.drew ?_ | with_reducible refine Below.trans ?_ (hb5.mono (by first | omega | (simp only [World.size_alloc, World.size_setCell, World.size_drew]; omega))) | with_reducible refine Below.trans ?_ (hb4.mono (by first | omega | (simp only [World.size_alloc, World.size_setCell, World.size_drew]; omega))) | with_reducible refine Below.trans ?_ (hb3.mono (by first | omega | (simp only [World.size_alloc, World.size_setCell, World.size_drew]; omega))) | with_reducible refine Below.trans ?_ (hb2.mono (by first | omega | (simp only [World.size_alloc, World.size_setCell, World.size_drew]; omega))) | with_reducible refine Below.trans ?_ (hb1.mono (by first | omega | (simp only [World.size_alloc, World.size_setCell, World.size_drew]; omega))))

set_option maxHeartbeats 1600000 in
theorem isPriv_v6 (hi lo : Int) (w : World) (hh : 0 ≤ hi) (hh2 : hi < 18446744073709551616) (hl : 0 ≤ lo) (hl2 : lo < 18446744073709551616) (H : Hid (mappedB hi lo = false)) :
    Calls Try.prog 17 #[.agg #[.int .u64 (hi), .int .u64 (lo), .bool true, .bool true, .string ⟨#[]⟩]] w fun e w' => e = .returned (.bool (priv6 hi)) ∧ Below w.heap.size w w' := by
  go_enter Try.func17, Try.ntmps17
  go_wp2_with fail
  refine (is4In6_no _ _ _ hh hl hl2 H).mono ?_
  rintro e w1 ⟨rfl, hb1⟩
  obtain ⟨hc1, hf1⟩ := rulesB (B := w.heap.size + 1) hb1 (by first | omega | (simp only [World.size_alloc, World.size_setCell, World.size_drew]; omega))
  have hs1 := hb1.size
  try simp only [World.size_alloc, World.size_setCell, World.size_drew] at hs1
  go_wp2_with fail
  refine (is4_any true _ _ _).mono ?_
  rintro e w2 ⟨rfl, hb2⟩
  obtain ⟨hc2, hf2⟩ := rulesB (B := w.heap.size + 1) hb2 (by first | omega | (simp only [World.size_alloc, World.size_setCell, World.size_drew]; omega))
  have hs2 := hb2.size
  try simp only [World.size_alloc, World.size_setCell, World.size_drew] at hs2
  go_wp2_with fail
  refine (is6_any true _ _ _).mono ?_
  rintro e w3 ⟨rfl, hb3⟩
  obtain ⟨hc3, hf3⟩ := rulesB (B := w.heap.size + 1) hb3 (by first | omega | (simp only [World.size_alloc, World.size_setCell, World.size_drew]; omega))
  have hs3 := hb3.size
  try simp only [World.size_alloc, World.size_setCell, World.size_drew] at hs3
  go_wp2_with fail
  refine (v6_0 _ _ _ _ hh hh2).mono ?_
  rintro e w4 ⟨rfl, hb4⟩
  obtain ⟨hc4, hf4⟩ := rulesB (B := w.heap.size + 1) hb4 (by first | omega | (simp only [World.size_alloc, World.size_setCell, World.size_drew]; omega))
  have hs4 := hb4.size
  try simp only [World.size_alloc, World.size_setCell, World.size_drew] at hs4
  go_wp2
  go_ret
  refine ⟨by rfl, ?_⟩
  repeat (first | with_reducible exact Below.refl _ _ | with_reducible refine Below.setCell ?_ (by first | omega | (simp only [World.size_alloc, World.size_setCell, World.size_drew]; omega)) _ | with_reducible refine Below.alloc ?_ (by first | omega | (simp only [World.size_alloc, World.size_setCell, World.size_drew]; omega)) _ | with_reducible refine Below.drew ?_ | with_reducible refine Below.trans ?_ (hb4.mono (by first | omega | (simp only [World.size_alloc, World.size_setCell, World.size_drew]; omega))) | with_reducible refine Below.trans ?_ (hb3.mono (by first | omega | (simp only [World.size_alloc, World.size_setCell, World.size_drew]; omega))) | with_reducible refine Below.trans ?_ (hb2.mono (by first | omega | (simp only [World.size_alloc, World.size_setCell, World.size_drew]; omega))) | with_reducible refine Below.trans ?_ (hb1.mono (by first | omega | (simp only [World.size_alloc, World.size_setCell, World.size_drew]; omega))))

set_option maxHeartbeats 1600000 in
theorem isPriv_map (hi lo : Int) (w : World) (hh : 0 ≤ hi) (hh2 : hi < 18446744073709551616) (hl : 0 ≤ lo) (hl2 : lo < 18446744073709551616) (H : Hid (mappedB hi lo = true)) :
    Calls Try.prog 17 #[.agg #[.int .u64 (hi), .int .u64 (lo), .bool true, .bool true, .string ⟨#[]⟩]] w fun e w' => e = .returned (.bool (priv4 lo)) ∧ Below w.heap.size w w' := by
  cases c0 : (byteAt lo 3 == 10) with
  | true =>
    go_enter Try.func17, Try.ntmps17
    go_wp2_with fail
    refine (is4In6_yes _ _ _ hh hl hl2 H).mono ?_
    rintro e w1 ⟨rfl, hb1⟩
    obtain ⟨hc1, hf1⟩ := rulesB (B := w.heap.size + 1) hb1 (by first | omega | (simp only [World.size_alloc, World.size_setCell, World.size_drew]; omega))
    have hs1 := hb1.size
    try simp only [World.size_alloc, World.size_setCell, World.size_drew] at hs1
    go_wp2_with fail
    refine (unmap_yes _ _ _ hh hl hl2 H).mono ?_
    rintro e w2 ⟨rfl, hb2⟩
    obtain ⟨hc2, hf2⟩ := rulesB (B := w.heap.size + 1) hb2 (by first | omega | (simp only [World.size_alloc, World.size_setCell, World.size_drew]; omega))
    have hs2 := hb2.size
    try simp only [World.size_alloc, World.size_setCell, World.size_drew] at hs2
    have q0 : w2.cell? ⟨w.heap.size, 0, none⟩ = some (.int .u64 hi) := by rw [hc2 _ _ (by omega), hc1 _ _ (by omega)]; simp [go_sem]
    have q1 : w2.cell? ⟨w.heap.size, 1, none⟩ = some (.int .u64 lo) := by rw [hc2 _ _ (by omega), hc1 _ _ (by omega)]; simp [go_sem]
    have q2 : w2.cell? ⟨w.heap.size, 2, none⟩ = some (.bool true) := by rw [hc2 _ _ (by omega), hc1 _ _ (by omega)]; simp [go_sem]
    have q3 : w2.cell? ⟨w.heap.size, 3, none⟩ = some (.bool true) := by rw [hc2 _ _ (by omega), hc1 _ _ (by omega)]; simp [go_sem]
    have q4 : w2.cell? ⟨w.heap.size, 4, none⟩ = some (.string ⟨#[]⟩) := by rw [hc2 _ _ (by omega), hc1 _ _ (by omega)]; simp [go_sem]
    go_wp2_with fail
    refine (is4_any false _ _ _).mono ?_
    rintro e w3 ⟨rfl, hb3⟩
    obtain ⟨hc3, hf3⟩ := rulesB (B := w.heap.size + 1) hb3 (by first | omega | (simp only [World.size_alloc, World.size_setCell, World.size_drew]; omega))
    have hs3 := hb3.size
    try simp only [World.size_alloc, World.size_setCell, World.size_drew] at hs3
    go_wp2_with fail
    refine (v4_0 _ _ _ _ hl hl2).mono ?_
    rintro e w4 ⟨rfl, hb4⟩
    obtain ⟨hc4, hf4⟩ := rulesB (B := w.heap.size + 1) hb4 (by first | omega | (simp only [World.size_alloc, World.size_setCell, World.size_drew]; omega))
    have hs4 := hb4.size
    try simp only [World.size_alloc, World.size_setCell, World.size_drew] at hs4
    go_wp2
    go_ret
    refine ⟨by simp [priv4, c0], ?_⟩
    repeat (first | with_reducible exact Below.refl _ _ | with_reducible refine Below.setCell ?_ (by first | omega | (simp only [World.size_alloc, World.size_setCell, World.size_drew]; omega)) _ | with_reducible refine Below.alloc ?_ (by first | omega | (simp only [World.size_alloc, World.size_setCell, World.size_drew]; omega)) _ | with_reducible refine Below.drew ?_ | with_reducible refine Below.trans ?_ (hb4.mono (by first | omega | (simp only [World.size_alloc, World.size_setCell, World.size_drew]; omega))) | with_reducible refine Below.trans ?_ (hb3.mono (by first | omega | (simp only [World.size_alloc, World.size_setCell, World.size_drew]; omega))) | with_reducible refine Below.trans ?_ (hb2.mono (by first | omega | (simp only [World.size_alloc, World.size_setCell, World.size_drew]; omega))) | with_reducible refine Below.trans ?_ (hb1.mono (by first | omega | (simp only [World.size_alloc, World.size_setCell, World.size_drew]; omega))))
  | false =>
    cases c1 : (byteAt lo 3 == 172) with
    | true =>
      have c3 : (byteAt lo 3 == 192) = false := by rw [beq_iff_eq] at c1; rw [c1]; rfl
      cases c2 : (bits .and .u8 (byteAt lo 2) 240 == 16) with
      | true =>
        go_enter Try.func17, Try.ntmps17
        go_wp2_with fail
        refine (is4In6_yes _ _ _ hh hl hl2 H).mono ?_
        rintro e w1 ⟨rfl, hb1⟩
        obtain ⟨hc1, hf1⟩ := rulesB (B := w.heap.size + 1) hb1 (by first | omega | (simp only [World.size_alloc, World.size_setCell, World.size_drew]; omega))
        have hs1 := hb1.size
        try simp only [World.size_alloc, World.size_setCell, World.size_drew] at hs1
        go_wp2_with fail
        refine (unmap_yes _ _ _ hh hl hl2 H).mono ?_
        rintro e w2 ⟨rfl, hb2⟩
        obtain ⟨hc2, hf2⟩ := rulesB (B := w.heap.size + 1) hb2 (by first | omega | (simp only [World.size_alloc, World.size_setCell, World.size_drew]; omega))
        have hs2 := hb2.size
        try simp only [World.size_alloc, World.size_setCell, World.size_drew] at hs2
        have q0 : w2.cell? ⟨w.heap.size, 0, none⟩ = some (.int .u64 hi) := by rw [hc2 _ _ (by omega), hc1 _ _ (by omega)]; simp [go_sem]
        have q1 : w2.cell? ⟨w.heap.size, 1, none⟩ = some (.int .u64 lo) := by rw [hc2 _ _ (by omega), hc1 _ _ (by omega)]; simp [go_sem]
        have q2 : w2.cell? ⟨w.heap.size, 2, none⟩ = some (.bool true) := by rw [hc2 _ _ (by omega), hc1 _ _ (by omega)]; simp [go_sem]
        have q3 : w2.cell? ⟨w.heap.size, 3, none⟩ = some (.bool true) := by rw [hc2 _ _ (by omega), hc1 _ _ (by omega)]; simp [go_sem]
        have q4 : w2.cell? ⟨w.heap.size, 4, none⟩ = some (.string ⟨#[]⟩) := by rw [hc2 _ _ (by omega), hc1 _ _ (by omega)]; simp [go_sem]
        go_wp2_with fail
        refine (is4_any false _ _ _).mono ?_
        rintro e w3 ⟨rfl, hb3⟩
        obtain ⟨hc3, hf3⟩ := rulesB (B := w.heap.size + 1) hb3 (by first | omega | (simp only [World.size_alloc, World.size_setCell, World.size_drew]; omega))
        have hs3 := hb3.size
        try simp only [World.size_alloc, World.size_setCell, World.size_drew] at hs3
        go_wp2_with fail
        refine (v4_0 _ _ _ _ hl hl2).mono ?_
        rintro e w4 ⟨rfl, hb4⟩
        obtain ⟨hc4, hf4⟩ := rulesB (B := w.heap.size + 1) hb4 (by first | omega | (simp only [World.size_alloc, World.size_setCell, World.size_drew]; omega))
        have hs4 := hb4.size
        try simp only [World.size_alloc, World.size_setCell, World.size_drew] at hs4
        go_wp2_with fail
        refine (v4_0 _ _ _ _ hl hl2).mono ?_
        rintro e w5 ⟨rfl, hb5⟩
        obtain ⟨hc5, hf5⟩ := rulesB (B := w.heap.size + 1) hb5 (by first | omega | (simp only [World.size_alloc, World.size_setCell, World.size_drew]; omega))
        have hs5 := hb5.size
        try simp only [World.size_alloc, World.size_setCell, World.size_drew] at hs5
        go_wp2_with fail
        refine (v4_1 _ _ _ _ hl hl2).mono ?_
        rintro e w6 ⟨rfl, hb6⟩
        obtain ⟨hc6, hf6⟩ := rulesB (B := w.heap.size + 1) hb6 (by first | omega | (simp only [World.size_alloc, World.size_setCell, World.size_drew]; omega))
        have hs6 := hb6.size
        try simp only [World.size_alloc, World.size_setCell, World.size_drew] at hs6
        go_wp2
        go_ret
        refine ⟨by simp [priv4, c0, c1, c2], ?_⟩
        repeat (first | with_reducible exact Below.refl _ _ | with_reducible refine Below.setCell ?_ (by first | omega | (simp only [World.size_alloc, World.size_setCell, World.size_drew]; omega)) _ | with_reducible refine Below.alloc ?_ (by first | omega | (simp only [World.size_alloc, World.size_setCell, World.size_drew]; omega)) _ | with_reducible refine Below.drew ?_ | with_reducible refine Below.trans ?_ (hb6.mono (by first | omega | (simp only [World.size_alloc, World.size_setCell, World.size_drew]; omega))) | with_reducible refine Below.trans ?_ (hb5.mono (by first | omega | (simp only [World.size_alloc, World.size_setCell, World.size_drew]; omega))) | with_reducible refine Below.trans ?_ (hb4.mono (by first | omega | (simp only [World.size_alloc, World.size_setCell, World.size_drew]; omega))) | with_reducible refine Below.trans ?_ (hb3.mono (by first | omega | (simp only [World.size_alloc, World.size_setCell, World.size_drew]; omega))) | with_reducible refine Below.trans ?_ (hb2.mono (by first | omega | (simp only [World.size_alloc, World.size_setCell, World.size_drew]; omega))) | with_reducible refine Below.trans ?_ (hb1.mono (by first | omega | (simp only [World.size_alloc, World.size_setCell, World.size_drew]; omega))))
      | false =>
        go_enter Try.func17, Try.ntmps17
        go_wp2_with fail
        refine (is4In6_yes _ _ _ hh hl hl2 H).mono ?_
        rintro e w1 ⟨rfl, hb1⟩
        obtain ⟨hc1, hf1⟩ := rulesB (B := w.heap.size + 1) hb1 (by first | omega | (simp only [World.size_alloc, World.size_setCell, World.size_drew]; omega))
        have hs1 := hb1.size
        try simp only [World.size_alloc, World.size_setCell, World.size_drew] at hs1
        go_wp2_with fail
        refine (unmap_yes _ _ _ hh hl hl2 H).mono ?_
        rintro e w2 ⟨rfl, hb2⟩
        obtain ⟨hc2, hf2⟩ := rulesB (B := w.heap.size + 1) hb2 (by first | omega | (simp only [World.size_alloc, World.size_setCell, World.size_drew]; omega))
        have hs2 := hb2.size
        try simp only [World.size_alloc, World.size_setCell, World.size_drew] at hs2
        have q0 : w2.cell? ⟨w.heap.size, 0, none⟩ = some (.int .u64 hi) := by rw [hc2 _ _ (by omega), hc1 _ _ (by omega)]; simp [go_sem]
        have q1 : w2.cell? ⟨w.heap.size, 1, none⟩ = some (.int .u64 lo) := by rw [hc2 _ _ (by omega), hc1 _ _ (by omega)]; simp [go_sem]
        have q2 : w2.cell? ⟨w.heap.size, 2, none⟩ = some (.bool true) := by rw [hc2 _ _ (by omega), hc1 _ _ (by omega)]; simp [go_sem]
        have q3 : w2.cell? ⟨w.heap.size, 3, none⟩ = some (.bool true) := by rw [hc2 _ _ (by omega), hc1 _ _ (by omega)]; simp [go_sem]
        have q4 : w2.cell? ⟨w.heap.size, 4, none⟩ = some (.string ⟨#[]⟩) := by rw [hc2 _ _ (by omega), hc1 _ _ (by omega)]; simp [go_sem]
        go_wp2_with fail
        refine (is4_any false _ _ _).mono ?_
        rintro e w3 ⟨rfl, hb3⟩
        obtain ⟨hc3, hf3⟩ := rulesB (B := w.heap.size + 1) hb3 (by first | omega | (simp only [World.size_alloc, World.size_setCell, World.size_drew]; omega))
        have hs3 := hb3.size
        try simp only [World.size_alloc, World.size_setCell, World.size_drew] at hs3
        go_wp2_with fail
        refine (v4_0 _ _ _ _ hl hl2).mono ?_
        rintro e w4 ⟨rfl, hb4⟩
        obtain ⟨hc4, hf4⟩ := rulesB (B := w.heap.size + 1) hb4 (by first | omega | (simp only [World.size_alloc, World.size_setCell, World.size_drew]; omega))
        have hs4 := hb4.size
        try simp only [World.size_alloc, World.size_setCell, World.size_drew] at hs4
        go_wp2_with fail
        refine (v4_0 _ _ _ _ hl hl2).mono ?_
        rintro e w5 ⟨rfl, hb5⟩
        obtain ⟨hc5, hf5⟩ := rulesB (B := w.heap.size + 1) hb5 (by first | omega | (simp only [World.size_alloc, World.size_setCell, World.size_drew]; omega))
        have hs5 := hb5.size
        try simp only [World.size_alloc, World.size_setCell, World.size_drew] at hs5
        go_wp2_with fail
        refine (v4_1 _ _ _ _ hl hl2).mono ?_
        rintro e w6 ⟨rfl, hb6⟩
        obtain ⟨hc6, hf6⟩ := rulesB (B := w.heap.size + 1) hb6 (by first | omega | (simp only [World.size_alloc, World.size_setCell, World.size_drew]; omega))
        have hs6 := hb6.size
        try simp only [World.size_alloc, World.size_setCell, World.size_drew] at hs6
        go_wp2_with fail
        refine (v4_0 _ _ _ _ hl hl2).mono ?_
        rintro e w7 ⟨rfl, hb7⟩
        obtain ⟨hc7, hf7⟩ := rulesB (B := w.heap.size + 1) hb7 (by first | omega | (simp only [World.size_alloc, World.size_setCell, World.size_drew]; omega))
        have hs7 := hb7.size
        try simp only [World.size_alloc, World.size_setCell, World.size_drew] at hs7
        go_wp2
        go_ret
        refine ⟨by simp [priv4, c0, c1, c2, c3], ?_⟩
        repeat (first | with_reducible exact Below.refl _ _ | with_reducible refine Below.setCell ?_ (by first | omega | (simp only [World.size_alloc, World.size_setCell, World.size_drew]; omega)) _ | with_reducible refine Below.alloc ?_ (by first | omega | (simp only [World.size_alloc, World.size_setCell, World.size_drew]; omega)) _ | with_reducible refine Below.drew ?_ | with_reducible refine Below.trans ?_ (hb7.mono (by first | omega | (simp only [World.size_alloc, World.size_setCell, World.size_drew]; omega))) | with_reducible refine Below.trans ?_ (hb6.mono (by first | omega | (simp only [World.size_alloc, World.size_setCell, World.size_drew]; omega))) | with_reducible refine Below.trans ?_ (hb5.mono (by first | omega | (simp only [World.size_alloc, World.size_setCell, World.size_drew]; omega))) | with_reducible refine Below.trans ?_ (hb4.mono (by first | omega | (simp only [World.size_alloc, World.size_setCell, World.size_drew]; omega))) | with_reducible refine Below.trans ?_ (hb3.mono (by first | omega | (simp only [World.size_alloc, World.size_setCell, World.size_drew]; omega))) | with_reducible refine Below.trans ?_ (hb2.mono (by first | omega | (simp only [World.size_alloc, World.size_setCell, World.size_drew]; omega))) | with_reducible refine Below.trans ?_ (hb1.mono (by first | omega | (simp only [World.size_alloc, World.size_setCell, World.size_drew]; omega))))
    | false =>
      cases c3 : (byteAt lo 3 == 192) with
      | true =>
        go_enter Try.func17, Try.ntmps17
        go_wp2_with fail
        refine (is4In6_yes _ _ _ hh hl hl2 H).mono ?_
        rintro e w1 ⟨rfl, hb1⟩
        obtain ⟨hc1, hf1⟩ := rulesB (B := w.heap.size + 1) hb1 (by first | omega | (simp only [World.size_alloc, World.size_setCell, World.size_drew]; omega))
        have hs1 := hb1.size
        try simp only [World.size_alloc, World.size_setCell, World.size_drew] at hs1
        go_wp2_with fail
        refine (unmap_yes _ _ _ hh hl hl2 H).mono ?_
        rintro e w2 ⟨rfl, hb2⟩
        obtain ⟨hc2, hf2⟩ := rulesB (B := w.heap.size + 1) hb2 (by first | omega | (simp only [World.size_alloc, World.size_setCell, World.size_drew]; omega))
        have hs2 := hb2.size
        try simp only [World.size_alloc, World.size_setCell, World.size_drew] at hs2
        have q0 : w2.cell? ⟨w.heap.size, 0, none⟩ = some (.int .u64 hi) := by rw [hc2 _ _ (by omega), hc1 _ _ (by omega)]; simp [go_sem]
        have q1 : w2.cell? ⟨w.heap.size, 1, none⟩ = some (.int .u64 lo) := by rw [hc2 _ _ (by omega), hc1 _ _ (by omega)]; simp [go_sem]
        have q2 : w2.cell? ⟨w.heap.size, 2, none⟩ = some (.bool true) := by rw [hc2 _ _ (by omega), hc1 _ _ (by omega)]; simp [go_sem]
        have q3 : w2.cell? ⟨w.heap.size, 3, none⟩ = some (.bool true) := by rw [hc2 _ _ (by omega), hc1 _ _ (by omega)]; simp [go_sem]
        have q4 : w2.cell? ⟨w.heap.size, 4, none⟩ = some (.string ⟨#[]⟩) := by rw [hc2 _ _ (by omega), hc1 _ _ (by omega)]; simp [go_sem]
        go_wp2_with fail
        refine (is4_any false _ _ _).mono ?_
        rintro e w3 ⟨rfl, hb3⟩
        obtain ⟨hc3, hf3⟩ := rulesB (B := w.heap.size + 1) hb3 (by first | omega | (simp only [World.size_alloc, World.size_setCell, World.size_drew]; omega))
        have hs3 := hb3.size
        try simp only [World.size_alloc, World.size_setCell, World.size_drew] at hs3
        go_wp2_with fail
        refine (v4_0 _ _ _ _ hl hl2).mono ?_
        rintro e w4 ⟨rfl, hb4⟩
        obtain ⟨hc4, hf4⟩ := rulesB (B := w.heap.size + 1) hb4 (by first | omega | (simp only [World.size_alloc, World.size_setCell, World.size_drew]; omega))
        have hs4 := hb4.size
        try simp only [World.size_alloc, World.size_setCell, World.size_drew] at hs4
        go_wp2_with fail
        refine (v4_0 _ _ _ _ hl hl2).mono ?_
        rintro e w5 ⟨rfl, hb5⟩
        obtain ⟨hc5, hf5⟩ := rulesB (B := w.heap.size + 1) hb5 (by first | omega | (simp only [World.size_alloc, World.size_setCell, World.size_drew]; omega))
        have hs5 := hb5.size
        try simp only [World.size_alloc, World.size_setCell, World.size_drew] at hs5
        go_wp2_with fail
        refine (v4_0 _ _ _ _ hl hl2).mono ?_
        rintro e w6 ⟨rfl, hb6⟩
        obtain ⟨hc6, hf6⟩ := rulesB (B := w.heap.size + 1) hb6 (by first | omega | (simp only [World.size_alloc, World.size_setCell, World.size_drew]; omega))
        have hs6 := hb6.size
        try simp only [World.size_alloc, World.size_setCell, World.size_drew] at hs6
        go_wp2_with fail
        refine (v4_1 _ _ _ _ hl hl2).mono ?_
        rintro e w7 ⟨rfl, hb7⟩
        obtain ⟨hc7, hf7⟩ := rulesB (B := w.heap.size + 1) hb7 (by first | omega | (simp only [World.size_alloc, World.size_setCell, World.size_drew]; omega))
        have hs7 := hb7.size
        try simp only [World.size_alloc, World.size_setCell, World.size_drew] at hs7
        go_wp2
        go_ret
        refine ⟨by simp [priv4, c0, c1, c3], ?_⟩
        repeat (first | with_reducible exact Below.refl _ _ | with_reducible refine Below.setCell ?_ (by first | omega | (simp only [World.size_alloc, World.size_setCell, World.size_drew]; omega)) _ | with_reducible refine Below.alloc ?_ (by first | omega | (simp only [World.size_alloc, World.size_setCell, World.size_drew]; omega)) _ | with_reducible refine Below.drew ?_ | with_reducible refine Below.trans ?_ (hb7.mono (by first | omega | (simp only [World.size_alloc, World.size_setCell, World.size_drew]; omega))) | with_reducible refine Below.trans ?_ (hb6.mono (by first | omega | (simp only [World.size_alloc, World.size_setCell, World.size_drew]; omega))) | with_reducible refine Below.trans ?_ (hb5.mono (by first | omega | (simp only [World.size_alloc, World.size_setCell, World.size_drew]; omega))) | with_reducible refine Below.trans ?_ (hb4.mono (by first | omega | (simp only [World.size_alloc, World.size_setCell, World.size_drew]; omega))) | with_reducible refine Below.trans ?_ (hb3.mono (by first | omega | (simp only [World.size_alloc, World.size_setCell, World.size_drew]; omega))) | with_reducible refine Below.trans ?_ (hb2.mono (by first | omega | (simp only [World.size_alloc, World.size_setCell, World.size_drew]; omega))) | with_reducible refine Below.trans ?_ (hb1.mono (by first | omega | (simp only [World.size_alloc, World.size_setCell, World.size_drew]; omega))))
      | false =>
        go_enter Try.func17, Try.ntmps17
        go_wp2_with fail
        refine (is4In6_yes _ _ _ hh hl hl2 H).mono ?_
        rintro e w1 ⟨rfl, hb1⟩
        obtain ⟨hc1, hf1⟩ := rulesB (B := w.heap.size + 1) hb1 (by first | omega | (simp only [World.size_alloc, World.size_setCell, World.size_drew]; omega))
        have hs1 := hb1.size
        try simp only [World.size_alloc, World.size_setCell, World.size_drew] at hs1
        go_wp2_with fail
        refine (unmap_yes _ _ _ hh hl hl2 H).mono ?_
        rintro e w2 ⟨rfl, hb2⟩
        obtain ⟨hc2, hf2⟩ := rulesB (B := w.heap.size + 1) hb2 (by first | omega | (simp only [World.size_alloc, World.size_setCell, World.size_drew]; omega))
        have hs2 := hb2.size
        try simp only [World.size_alloc, World.size_setCell, World.size_drew] at hs2
        have q0 : w2.cell? ⟨w.heap.size, 0, none⟩ = some (.int .u64 hi) := by rw [hc2 _ _ (by omega), hc1 _ _ (by omega)]; simp [go_sem]
        have q1 : w2.cell? ⟨w.heap.size, 1, none⟩ = some (.int .u64 lo) := by rw [hc2 _ _ (by omega), hc1 _ _ (by omega)]; simp [go_sem]
        have q2 : w2.cell? ⟨w.heap.size, 2, none⟩ = some (.bool true) := by rw [hc2 _ _ (by omega), hc1 _ _ (by omega)]; simp [go_sem]
        have q3 : w2.cell? ⟨w.heap.size, 3, none⟩ = some (.bool true) := by rw [hc2 _ _ (by omega), hc1 _ _ (by omega)]; simp [go_sem]
        have q4 : w2.cell? ⟨w.heap.size, 4, none⟩ = some (.string ⟨#[]⟩) := by rw [hc2 _ _ (by omega), hc1 _ _ (by omega)]; simp [go_sem]
        go_wp2_with fail
        refine (is4_any false _ _ _).mono ?_
        rintro e w3 ⟨rfl, hb3⟩
        obtain ⟨hc3, hf3⟩ := rulesB (B := w.heap.size + 1) hb3 (by first | omega | (simp only [World.size_alloc, World.size_setCell, World.size_drew]; omega))
        have hs3 := hb3.size
        try simp only [World.size_alloc, World.size_setCell, World.size_drew] at hs3
        go_wp2_with fail
        refine (v4_0 _ _ _ _ hl hl2).mono ?_
        rintro e w4 ⟨rfl, hb4⟩
        obtain ⟨hc4, hf4⟩ := rulesB (B := w.heap.size + 1) hb4 (by first | omega | (simp only [World.size_alloc, World.size_setCell, World.size_drew]; omega))
        have hs4 := hb4.size
        try simp only [World.size_alloc, World.size_setCell, World.size_drew] at hs4
        go_wp2_with fail
        refine (v4_0 _ _ _ _ hl hl2).mono ?_
        rintro e w5 ⟨rfl, hb5⟩
        obtain ⟨hc5, hf5⟩ := rulesB (B := w.heap.size + 1) hb5 (by first | omega | (simp only [World.size_alloc, World.size_setCell, World.size_drew]; omega))
        have hs5 := hb5.size
        try simp only [World.size_alloc, World.size_setCell, World.size_drew] at hs5
        go_wp2_with fail
        refine (v4_0 _ _ _ _ hl hl2).mono ?_
        rintro e w6 ⟨rfl, hb6⟩
        obtain ⟨hc6, hf6⟩ := rulesB (B := w.heap.size + 1) hb6 (by first | omega | (simp only [World.size_alloc, World.size_setCell, World.size_drew]; omega))
        have hs6 := hb6.size
        try simp only [World.size_alloc, World.size_setCell, World.size_drew] at hs6
        go_wp2
        go_ret
        refine ⟨by simp [priv4, c0, c1, c3], ?_⟩
        repeat (first | with_reducible exact Below.refl _ _ | with_reducible refine Below.setCell ?_ (by first | omega | (simp only [World.size_alloc, World.size_setCell, World.size_drew]; omega)) _ | with_reducible refine Below.alloc ?_ (by first | omega | (simp only [World.size_alloc, World.size_setCell, World.size_drew]; omega)) _ | with_reducible refine Below.drew ?_ | with_reducible refine Below.trans ?_ (hb6.mono (by first | omega | (simp only [World.size_alloc, World.size_setCell, World.size_drew]; omega))) | with_reducible refine Below.trans ?_ (hb5.mono (by first | omega | (simp only [World.size_alloc, World.size_setCell, World.size_drew]; omega))) | with_reducible refine Below.trans ?_ (hb4.mono (by first | omega | (simp only [World.size_alloc, World.size_setCell, World.size_drew]; omega))) | with_reducible refine Below.trans ?_ (hb3.mono (by first | omega | (simp only [World.size_alloc, World.size_setCell, World.size_drew]; omega))) | with_reducible refine Below.trans ?_ (hb2.mono (by first | omega | (simp only [World.size_alloc, World.size_setCell, World.size_drew]; omega))) | with_reducible refine Below.trans ?_ (hb1.mono (by first | omega | (simp only [World.size_alloc, World.size_setCell, World.size_drew]; omega))))

end Go.Proofs.Ytkploaapcpjkbaa
