/- Contracts: Next and Prev of an address. -/
import Derived.Test.YtkploaapcpjkbaaS4
namespace Go.Proofs.Ytkploaapcpjkbaa
open Go Go.RowKit Go.Sort
set_option linter.unusedVariables false
set_option linter.unusedSimpArgs false
attribute [local go_sem] cell_gr


set_option maxHeartbeats 1600000 in
theorem next4_ok (hi lo s c t : Int) (w : World) (hl : 0 ≤ lo) (h : lo + 1 = c * 18446744073709551616 + s) (h0 : 0 ≤ s) (h1 : s < 18446744073709551616) (ht : IntKind.u64.wrap (hi + c) = t) (ht0 : 0 ≤ t) (ht1 : t < 18446744073709551616)
    (hz : (s % 4294967296 == 0) = false) :
    Calls Try.prog 24 #[.agg #[.int .u64 (hi), .int .u64 (lo), .bool true, .bool false, .string ⟨#[]⟩]] w fun e w' => e = .returned (.agg #[.int .u64 (t), .int .u64 (s), .bool true, .bool false, .string ⟨#[]⟩]) ∧ Below w.heap.size w w' := by
  have HH := Lib.hid h
  have HT := Lib.hid ht
  clear h ht
  go_enter Try.func24, Try.ntmps24
  go_wp2_with fail
  refine (addOne_any hi lo s c t _ hl HH.out h0 h1 HT.out).mono ?_
  rintro e w1 ⟨rfl, hb1⟩
  obtain ⟨hc1, hf1⟩ := rulesB (B := w.heap.size + 1 + 1) hb1 (by first | omega | (simp only [World.size_alloc, World.size_setCell, World.size_drew]; omega))
  have hs1 := hb1.size
  try simp only [World.size_alloc, World.size_setCell, World.size_drew] at hs1
  have q0 : w1.cell? ⟨w.heap.size, 0, none⟩ = some (.int .u64 hi) := by rw [hc1 _ _ (by omega)]; simp [go_sem]
  have q1 : w1.cell? ⟨w.heap.size, 1, none⟩ = some (.int .u64 lo) := by rw [hc1 _ _ (by omega)]; simp [go_sem]
  go_wp2_with fail
  refine (is4_any false _ _ _).mono ?_
  rintro e w2 ⟨rfl, hb2⟩
  obtain ⟨hc2, hf2⟩ := rulesB (B := w.heap.size + 1 + 1) hb2 (by first | omega | (simp only [World.size_alloc, World.size_setCell, World.size_drew]; omega))
  have hs2 := hb2.size
  try simp only [World.size_alloc, World.size_setCell, World.size_drew] at hs2
  go_wp2
  refine bodyPost_ret (v := .agg #[.int .u64 (t), .int .u64 (s), .bool true, .bool false, .string ⟨#[]⟩]) ?_ rfl ⟨rfl, ?_⟩
  · simp [results, Try.results24, go_sem, hc2, hc1]
  repeat (first | with_reducible exact Below.refl _ _ | with_reducible refine Below.setCell ?_ (by first | omega | (simp only [World.size_alloc, World.size_setCell, World.size_drew]; omega)) _ | with_reducible refine Below.alloc ?_ (by first | omega | (simp only [World.size_alloc, World.size_setCell, World.size_drew]; omega)) _ | with_reducible refine Below.drew ?_ | with_reducible refine Below.trans ?_ (hb2.mono (by first | omega | (simp only [World.size_alloc, World.size_setCell, World.size_drew]; omega))) | with_reducible refine Below.trans ?_ (hb1.mono (by first | omega | (simp only [World.size_alloc, World.size_setCell, World.size_drew]; omega))))

set_option maxHeartbeats 1600000 in
theorem next4_no (hi lo s c t : Int) (w : World) (hl : 0 ≤ lo) (h : lo + 1 = c * 18446744073709551616 + s) (h0 : 0 ≤ s) (h1 : s < 18446744073709551616) (ht : IntKind.u64.wrap (hi + c) = t) (ht0 : 0 ≤ t) (ht1 : t < 18446744073709551616)
    (hz : (s % 4294967296 == 0) = true) :
    Calls Try.prog 24 #[.agg #[.int .u64 (hi), .int .u64 (lo), .bool true, .bool false, .string ⟨#[]⟩]] w fun e w' => e = .returned (.agg #[.int .u64 0, .int .u64 0, .bool false, .bool false, .string ⟨#[]⟩]) ∧ Below w.heap.size w w' := by
  have HH := Lib.hid h
  have HT := Lib.hid ht
  clear h ht
  go_enter Try.func24, Try.ntmps24
  go_wp2_with fail
  refine (addOne_any hi lo s c t _ hl HH.out h0 h1 HT.out).mono ?_
  rintro e w1 ⟨rfl, hb1⟩
  obtain ⟨hc1, hf1⟩ := rulesB (B := w.heap.size + 1 + 1) hb1 (by first | omega | (simp only [World.size_alloc, World.size_setCell, World.size_drew]; omega))
  have hs1 := hb1.size
  try simp only [World.size_alloc, World.size_setCell, World.size_drew] at hs1
  have q0 : w1.cell? ⟨w.heap.size, 0, none⟩ = some (.int .u64 hi) := by rw [hc1 _ _ (by omega)]; simp [go_sem]
  have q1 : w1.cell? ⟨w.heap.size, 1, none⟩ = some (.int .u64 lo) := by rw [hc1 _ _ (by omega)]; simp [go_sem]
  go_wp2_with fail
  refine (is4_any false _ _ _).mono ?_
  rintro e w2 ⟨rfl, hb2⟩
  obtain ⟨hc2, hf2⟩ := rulesB (B := w.heap.size + 1 + 1) hb2 (by first | omega | (simp only [World.size_alloc, World.size_setCell, World.size_drew]; omega))
  have hs2 := hb2.size
  try simp only [World.size_alloc, World.size_setCell, World.size_drew] at hs2
  go_wp2
  refine bodyPost_ret (v := .agg #[.int .u64 0, .int .u64 0, .bool false, .bool false, .string ⟨#[]⟩]) ?_ rfl ⟨rfl, ?_⟩
  · simp [results, Try.results24, go_sem, hc2, hc1]
  repeat (first | with_reducible exact Below.refl _ _ | with_reducible refine Below.setCell ?_ (by first | omega | (simp only [World.size_alloc, World.size_setCell, World.size_drew]; omega)) _ | with_reducible refine Below.alloc ?_ (by first | omega | (simp only [World.size_alloc, World.size_setCell, World.size_drew]; omega)) _ | with_reducible refine Below.drew ?_ | with_reducible refine Below.trans ?_ (hb2.mono (by first | omega | (simp only [World.size_alloc, World.size_setCell, World.size_drew]; omega))) | with_reducible refine Below.trans ?_ (hb1.mono (by first | omega | (simp only [World.size_alloc, World.size_setCell, World.size_drew]; omega))))

set_option maxHeartbeats 1600000 in
theorem next6_ok (hi lo s c t : Int) (w : World) (hl : 0 ≤ lo) (h : lo + 1 = c * 18446744073709551616 + s) (h0 : 0 ≤ s) (h1 : s < 18446744073709551616) (ht : IntKind.u64.wrap (hi + c) = t) (ht0 : 0 ≤ t) (ht1 : t < 18446744073709551616)
    (hz : Hid ((t == 0 && s == 0) = false)) :
    Calls Try.prog 24 #[.agg #[.int .u64 (hi), .int .u64 (lo), .bool true, .bool true, .string ⟨#[]⟩]] w fun e w' => e = .returned (.agg #[.int .u64 (t), .int .u64 (s), .bool true, .bool true, .string ⟨#[]⟩]) ∧ Below w.heap.size w w' := by
  have HH := Lib.hid h
  have HT := Lib.hid ht
  clear h ht
  go_enter Try.func24, Try.ntmps24
  go_wp2_with fail
  refine (addOne_any hi lo s c t _ hl HH.out h0 h1 HT.out).mono ?_
  rintro e w1 ⟨rfl, hb1⟩
  obtain ⟨hc1, hf1⟩ := rulesB (B := w.heap.size + 1 + 1) hb1 (by first | omega | (simp only [World.size_alloc, World.size_setCell, World.size_drew]; omega))
  have hs1 := hb1.size
  try simp only [World.size_alloc, World.size_setCell, World.size_drew] at hs1
  have q0 : w1.cell? ⟨w.heap.size, 0, none⟩ = some (.int .u64 hi) := by rw [hc1 _ _ (by omega)]; simp [go_sem]
  have q1 : w1.cell? ⟨w.heap.size, 1, none⟩ = some (.int .u64 lo) := by rw [hc1 _ _ (by omega)]; simp [go_sem]
  go_wp2_with fail
  refine (is4_any true _ _ _).mono ?_
  rintro e w2 ⟨rfl, hb2⟩
  obtain ⟨hc2, hf2⟩ := rulesB (B := w.heap.size + 1 + 1) hb2 (by first | omega | (simp only [World.size_alloc, World.size_setCell, World.size_drew]; omega))
  have hs2 := hb2.size
  try simp only [World.size_alloc, World.size_setCell, World.size_drew] at hs2
  go_wp2_with fail
  refine (isZero_any t s _ _ ht0 ht1 h0 h1 hz).mono ?_
  rintro e w3 ⟨rfl, hb3⟩
  obtain ⟨hc3, hf3⟩ := rulesB (B := w.heap.size + 1 + 1) hb3 (by first | omega | (simp only [World.size_alloc, World.size_setCell, World.size_drew]; omega))
  have hs3 := hb3.size
  try simp only [World.size_alloc, World.size_setCell, World.size_drew] at hs3
  go_wp2
  refine bodyPost_ret (v := .agg #[.int .u64 (t), .int .u64 (s), .bool true, .bool true, .string ⟨#[]⟩]) ?_ rfl ⟨rfl, ?_⟩
  · simp [results, Try.results24, go_sem, hc3, hc2, hc1]
  repeat (first | with_reducible exact Below.refl _ _ | with_reducible refine Below.setCell ?_ (by first | omega | (simp only [World.size_alloc, World.size_setCell, World.size_drew]; omega)) _ | with_reducible refine Below.alloc ?_ (by first | omega | (simp only [World.size_alloc, World.size_setCell, World.size_drew]; omega)) _ | with_reducible refine Below.drew ?_ | with_reducible refine Below.trans ?_ (hb3.mono (by first | omega | (simp only [World.size_alloc, World.size_setCell, World.size_drew]; omega))) | with_reducible refine Below.trans ?_ (hb2.mono (by first | omega | (simp only [World.size_alloc, World.size_setCell, World.size_drew]; omega))) | with_reducible refine Below.trans ?_ (hb1.mono (by first | omega | (simp only [World.size_alloc, World.size_setCell, World.size_drew]; omega))))

set_option maxHeartbeats 1600000 in
theorem next6_no (hi lo s c t : Int) (w : World) (hl : 0 ≤ lo) (h : lo + 1 = c * 18446744073709551616 + s) (h0 : 0 ≤ s) (h1 : s < 18446744073709551616) (ht : IntKind.u64.wrap (hi + c) = t) (ht0 : 0 ≤ t) (ht1 : t < 18446744073709551616)
    (hz : Hid ((t == 0 && s == 0) = true)) :
    Calls Try.prog 24 #[.agg #[.int .u64 (hi), .int .u64 (lo), .bool true, .bool true, .string ⟨#[]⟩]] w fun e w' => e = .returned (.agg #[.int .u64 0, .int .u64 0, .bool false, .bool false, .string ⟨#[]⟩]) ∧ Below w.heap.size w w' := by
  have HH := Lib.hid h
  have HT := Lib.hid ht
  clear h ht
  go_enter Try.func24, Try.ntmps24
  go_wp2_with fail
  refine (addOne_any hi lo s c t _ hl HH.out h0 h1 HT.out).mono ?_
  rintro e w1 ⟨rfl, hb1⟩
  obtain ⟨hc1, hf1⟩ := rulesB (B := w.heap.size + 1 + 1) hb1 (by first | omega | (simp only [World.size_alloc, World.size_setCell, World.size_drew]; omega))
  have hs1 := hb1.size
  try simp only [World.size_alloc, World.size_setCell, World.size_drew] at hs1
  have q0 : w1.cell? ⟨w.heap.size, 0, none⟩ = some (.int .u64 hi) := by rw [hc1 _ _ (by omega)]; simp [go_sem]
  have q1 : w1.cell? ⟨w.heap.size, 1, none⟩ = some (.int .u64 lo) := by rw [hc1 _ _ (by omega)]; simp [go_sem]
  go_wp2_with fail
  refine (is4_any true _ _ _).mono ?_
  rintro e w2 ⟨rfl, hb2⟩
  obtain ⟨hc2, hf2⟩ := rulesB (B := w.heap.size + 1 + 1) hb2 (by first | omega | (simp only [World.size_alloc, World.size_setCell, World.size_drew]; omega))
  have hs2 := hb2.size
  try simp only [World.size_alloc, World.size_setCell, World.size_drew] at hs2
  go_wp2_with fail
  refine (isZero_any t s _ _ ht0 ht1 h0 h1 hz).mono ?_
  rintro e w3 ⟨rfl, hb3⟩
  obtain ⟨hc3, hf3⟩ := rulesB (B := w.heap.size + 1 + 1) hb3 (by first | omega | (simp only [World.size_alloc, World.size_setCell, World.size_drew]; omega))
  have hs3 := hb3.size
  try simp only [World.size_alloc, World.size_setCell, World.size_drew] at hs3
  go_wp2
  refine bodyPost_ret (v := .agg #[.int .u64 0, .int .u64 0, .bool false, .bool false, .string ⟨#[]⟩]) ?_ rfl ⟨rfl, ?_⟩
  · simp [results, Try.results24, go_sem, hc3, hc2, hc1]
  repeat (first | with_reducible exact Below.refl _ _ | with_reducible refine Below.setCell ?_ (by first | omega | (simp only [World.size_alloc, World.size_setCell, World.size_drew]; omega)) _ | with_reducible refine Below.alloc ?_ (by first | omega | (simp only [World.size_alloc, World.size_setCell, World.size_drew]; omega)) _ | with_reducible refine Below.drew ?_ | with_reducible refine Below.trans ?_ (hb3.mono (by first | omega | (simp only [World.size_alloc, World.size_setCell, World.size_drew]; omega))) | with_reducible refine Below.trans ?_ (hb2.mono (by first | omega | (simp only [World.size_alloc, World.size_setCell, World.size_drew]; omega))) | with_reducible refine Below.trans ?_ (hb1.mono (by first | omega | (simp only [World.size_alloc, World.size_setCell, World.size_drew]; omega))))


set_option maxHeartbeats 1600000 in
theorem prev4_ok (hi lo s c t : Int) (w : World) (hl : 0 ≤ lo) (hl2 : lo < 18446744073709551616) (h : lo - 1 = s - c * 18446744073709551616) (h0 : 0 ≤ s) (h1 : s < 18446744073709551616) (ht : IntKind.u64.wrap (hi - c) = t)
    (hz : (lo % 4294967296 == 0) = false) :
    Calls Try.prog 28 #[.agg #[.int .u64 (hi), .int .u64 (lo), .bool true, .bool false, .string ⟨#[]⟩]] w fun e w' => e = .returned (.agg #[.int .u64 (t), .int .u64 (s), .bool true, .bool false, .string ⟨#[]⟩]) ∧ Below w.heap.size w w' := by
  have HH := Lib.hid h
  have HT := Lib.hid ht
  clear h ht
  go_enter Try.func28, Try.ntmps28
  go_wp2_with fail
  refine (is4_any false _ _ _).mono ?_
  rintro e w1 ⟨rfl, hb1⟩
  obtain ⟨hc1, hf1⟩ := rulesB (B := w.heap.size + 1 + 1) hb1 (by first | omega | (simp only [World.size_alloc, World.size_setCell, World.size_drew]; omega))
  have hs1 := hb1.size
  try simp only [World.size_alloc, World.size_setCell, World.size_drew] at hs1
  go_wp2_with fail
  refine (subOne_any hi lo s c t _ hl hl2 HH.out h0 h1 HT.out).mono ?_
  rintro e w2 ⟨rfl, hb2⟩
  obtain ⟨hc2, hf2⟩ := rulesB (B := w.heap.size + 1 + 1) hb2 (by first | omega | (simp only [World.size_alloc, World.size_setCell, World.size_drew]; omega))
  have hs2 := hb2.size
  try simp only [World.size_alloc, World.size_setCell, World.size_drew] at hs2
  have q0 : w2.cell? ⟨w.heap.size, 0, none⟩ = some (.int .u64 hi) := by rw [hc2 _ _ (by omega), hc1 _ _ (by omega)]; simp [go_sem]
  have q1 : w2.cell? ⟨w.heap.size, 1, none⟩ = some (.int .u64 lo) := by rw [hc2 _ _ (by omega), hc1 _ _ (by omega)]; simp [go_sem]
  go_wp2
  refine bodyPost_ret (v := .agg #[.int .u64 (t), .int .u64 (s), .bool true, .bool false, .string ⟨#[]⟩]) ?_ rfl ⟨rfl, ?_⟩
  · simp [results, Try.results28, go_sem, hc2, hc1]
  repeat (first | with_reducible exact Below.refl _ _ | with_reducible refine Below.setCell ?_ (by first | omega | (simp only [World.size_alloc, World.size_setCell, World.size_drew]; omega)) _ | with_reducible refine Below.alloc ?_ (by first | omega | (simp only [World.size_alloc, World.size_setCell, World.size_drew]; omega)) _ | with_reducible refine Below.drew ?_ | with_reducible refine Below.trans ?_ (hb2.mono (by first | omega | (simp only [World.size_alloc, World.size_setCell, World.size_drew]; omega))) | with_reducible refine Below.trans ?_ (hb1.mono (by first | omega | (simp only [World.size_alloc, World.size_setCell, World.size_drew]; omega))))

set_option maxHeartbeats 1600000 in
theorem prev4_no (hi lo : Int) (w : World) (hl : 0 ≤ lo) (hl2 : lo < 18446744073709551616) (hz : (lo % 4294967296 == 0) = true) :
    Calls Try.prog 28 #[.agg #[.int .u64 (hi), .int .u64 (lo), .bool true, .bool false, .string ⟨#[]⟩]] w fun e w' => e = .returned (.agg #[.int .u64 0, .int .u64 0, .bool false, .bool false, .string ⟨#[]⟩]) ∧ Below w.heap.size w w' := by
  go_enter Try.func28, Try.ntmps28
  go_wp2_with fail
  refine (is4_any false _ _ _).mono ?_
  rintro e w1 ⟨rfl, hb1⟩
  obtain ⟨hc1, hf1⟩ := rulesB (B := w.heap.size + 1 + 1) hb1 (by first | omega | (simp only [World.size_alloc, World.size_setCell, World.size_drew]; omega))
  have hs1 := hb1.size
  try simp only [World.size_alloc, World.size_setCell, World.size_drew] at hs1
  go_wp2
  refine bodyPost_ret (v := .agg #[.int .u64 0, .int .u64 0, .bool false, .bool false, .string ⟨#[]⟩]) ?_ rfl ⟨rfl, ?_⟩
  · simp [results, Try.results28, go_sem, hc1]
  repeat (first | with_reducible exact Below.refl _ _ | with_reducible refine Below.setCell ?_ (by first | omega | (simp only [World.size_alloc, World.size_setCell, World.size_drew]; omega)) _ | with_reducible refine Below.alloc ?_ (by first | omega | (simp only [World.size_alloc, World.size_setCell, World.size_drew]; omega)) _ | with_reducible refine Below.drew ?_ | with_reducible refine Below.trans ?_ (hb1.mono (by first | omega | (simp only [World.size_alloc, World.size_setCell, World.size_drew]; omega))))

set_option maxHeartbeats 1600000 in
theorem prev6_ok (hi lo s c t : Int) (w : World) (hh : 0 ≤ hi) (hh2 : hi < 18446744073709551616) (hl : 0 ≤ lo) (hl2 : lo < 18446744073709551616) (h : lo - 1 = s - c * 18446744073709551616) (h0 : 0 ≤ s) (h1 : s < 18446744073709551616) (ht : IntKind.u64.wrap (hi - c) = t)
    (hz : Hid ((hi == 0 && lo == 0) = false)) :
    Calls Try.prog 28 #[.agg #[.int .u64 (hi), .int .u64 (lo), .bool true, .bool true, .string ⟨#[]⟩]] w fun e w' => e = .returned (.agg #[.int .u64 (t), .int .u64 (s), .bool true, .bool true, .string ⟨#[]⟩]) ∧ Below w.heap.size w w' := by
  have HH := Lib.hid h
  have HT := Lib.hid ht
  clear h ht
  go_enter Try.func28, Try.ntmps28
  go_wp2_with fail
  refine (is4_any true _ _ _).mono ?_
  rintro e w1 ⟨rfl, hb1⟩
  obtain ⟨hc1, hf1⟩ := rulesB (B := w.heap.size + 1 + 1) hb1 (by first | omega | (simp only [World.size_alloc, World.size_setCell, World.size_drew]; omega))
  have hs1 := hb1.size
  try simp only [World.size_alloc, World.size_setCell, World.size_drew] at hs1
  go_wp2_with fail
  refine (isZero_any hi lo _ _ hh hh2 hl hl2 hz).mono ?_
  rintro e w2 ⟨rfl, hb2⟩
  obtain ⟨hc2, hf2⟩ := rulesB (B := w.heap.size + 1 + 1) hb2 (by first | omega | (simp only [World.size_alloc, World.size_setCell, World.size_drew]; omega))
  have hs2 := hb2.size
  try simp only [World.size_alloc, World.size_setCell, World.size_drew] at hs2
  go_wp2_with fail
  refine (subOne_any hi lo s c t _ hl hl2 HH.out h0 h1 HT.out).mono ?_
  rintro e w3 ⟨rfl, hb3⟩
  obtain ⟨hc3, hf3⟩ := rulesB (B := w.heap.size + 1 + 1) hb3 (by first | omega | (simp only [World.size_alloc, World.size_setCell, World.size_drew]; omega))
  have hs3 := hb3.size
  try simp only [World.size_alloc, World.size_setCell, World.size_drew] at hs3
  have q0 : w3.cell? ⟨w.heap.size, 0, none⟩ = some (.int .u64 hi) := by rw [hc3 _ _ (by omega), hc2 _ _ (by omega), hc1 _ _ (by omega)]; simp [go_sem]
  have q1 : w3.cell? ⟨w.heap.size, 1, none⟩ = some (.int .u64 lo) := by rw [hc3 _ _ (by omega), hc2 _ _ (by omega), hc1 _ _ (by omega)]; simp [go_sem]
  go_wp2
  refine bodyPost_ret (v := .agg #[.int .u64 (t), .int .u64 (s), .bool true, .bool true, .string ⟨#[]⟩]) ?_ rfl ⟨rfl, ?_⟩
  · simp [results, Try.results28, go_sem, hc3, hc2, hc1]
  repeat (first | with_reducible exact Below.refl _ _ | with_reducible refine Below.setCell ?_ (by first | omega | (simp only [World.size_alloc, World.size_setCell, World.size_drew]; omega)) _ | with_reducible refine Below.alloc ?_ (by first | omega | (simp only [World.size_alloc, World.size_setCell, World.size_drew]; omega)) _ | with_reducible refine Below.drew ?_ | with_reducible refine Below.trans ?_ (hb3.mono (by first | omega | (simp only [World.size_alloc, World.size_setCell, World.size_drew]; omega))) | with_reducible refine Below.trans ?_ (hb2.mono (by first | omega | (simp only [World.size_alloc, World.size_setCell, World.size_drew]; omega))) | with_reducible refine Below.trans ?_ (hb1.mono (by first | omega | (simp only [World.size_alloc, World.size_setCell, World.size_drew]; omega))))

set_option maxHeartbeats 1600000 in
theorem prev6_no (hi lo : Int) (w : World) (hh : 0 ≤ hi) (hh2 : hi < 18446744073709551616) (hl : 0 ≤ lo) (hl2 : lo < 18446744073709551616) (hz : Hid ((hi == 0 && lo == 0) = true)) :
    Calls Try.prog 28 #[.agg #[.int .u64 (hi), .int .u64 (lo), .bool true, .bool true, .string ⟨#[]⟩]] w fun e w' => e = .returned (.agg #[.int .u64 0, .int .u64 0, .bool false, .bool false, .string ⟨#[]⟩]) ∧ Below w.heap.size w w' := by
  go_enter Try.func28, Try.ntmps28
  go_wp2_with fail
  refine (is4_any true _ _ _).mono ?_
  rintro e w1 ⟨rfl, hb1⟩
  obtain ⟨hc1, hf1⟩ := rulesB (B := w.heap.size + 1 + 1) hb1 (by first | omega | (simp only [World.size_alloc, World.size_setCell, World.size_drew]; omega))
  have hs1 := hb1.size
  try simp only [World.size_alloc, World.size_setCell, World.size_drew] at hs1
  go_wp2_with fail
  refine (isZero_any hi lo _ _ hh hh2 hl hl2 hz).mono ?_
  rintro e w2 ⟨rfl, hb2⟩
  obtain ⟨hc2, hf2⟩ := rulesB (B := w.heap.size + 1 + 1) hb2 (by first | omega | (simp only [World.size_alloc, World.size_setCell, World.size_drew]; omega))
  have hs2 := hb2.size
  try simp only [World.size_alloc, World.size_setCell, World.size_drew] at hs2
  go_wp2
  refine bodyPost_ret (v := .agg #[.int .u64 0, .int .u64 0, .bool false, .bool false, .string ⟨#[]⟩]) ?_ rfl ⟨rfl, ?_⟩
  · simp [results, Try.results28, go_sem, hc2, hc1]
  repeat (first | with_reducible exact Below.refl _ _ | with_reducible refine Below.setCell ?_ (by first | omega | (simp only [World.size_alloc, World.size_setCell, World.size_drew]; omega)) _ | with_reducible refine Below.alloc ?_ (by first | omega | (simp only [World.size_alloc, World.size_setCell, World.size_drew]; omega)) _ | with_reducible refine Below.drew ?_ | with_reducible refine Below.trans ?_ (hb2.mono (by first | omega | (simp only [World.size_alloc, World.size_setCell, World.size_drew]; omega))) | with_reducible refine Below.trans ?_ (hb1.mono (by first | omega | (simp only [World.size_alloc, World.size_setCell, World.size_drew]; omega))))
end Go.Proofs.Ytkploaapcpjkbaa
