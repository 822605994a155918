/- The walk of laws.FnExactKinds out of the contracts. -/
import Derived.Test.YtkploaapcpjkbaaK1
import Derived.Test.YtkploaapcpjkbaaC3
namespace Go.Proofs.Ytkploaapcpjkbaa
open Go Go.RowKit Go.Sort
set_option linter.unusedVariables false
set_option linter.unusedSimpArgs false
attribute [local go_sem] cell_gr

theorem keep3 {w1 w2 : World} {a b c : Addr} {x y z : Value} (hb : Below w1.heap.size w1 w2) (h : w1.cell? a = some x ∧ w1.cell? b = some y ∧ w1.cell? c = some z) : w2.cell? a = some x ∧ w2.cell? b = some y ∧ w2.cell? c = some z :=
  ⟨(hb.cell (block_lt_of_cell h.1)).trans h.1, (hb.cell (block_lt_of_cell h.2.1)).trans h.2.1, (hb.cell (block_lt_of_cell h.2.2)).trans h.2.2⟩

set_option maxHeartbeats 1600000 in
theorem law_v4 (hi lo : Int) (w : World) (hl : 0 ≤ lo) (hl2 : lo < 18446744073709551616) :
    Calls Try.prog 3 #[.bool false, .int .u64 hi, .int .u64 lo] w fun e w' => e = .returned (.bool true) ∧ Below w.heap.size w w' := by
  have g0 : 0 ≤ lo % 4294967296 := by omega
  have g1 : lo % 4294967296 < 4294967296 := by omega
  have g2 : lo % 4294967296 < 18446744073709551616 := by omega
  have HEq := Lib.hid (kinds4_eq _ g0 g1)
  go_enter Try.func3, Try.ntmps3
  go_wp2_with fail
  refine (specAddr_no hi lo _ hl hl2).mono ?_
  rintro e w1 ⟨rfl, hb1⟩
  obtain ⟨hc1, hf1⟩ := rulesB (B := w.heap.size) hb1 (by first | omega | (simp only [World.size_alloc, World.size_setCell, World.size_drew]; omega))
  have hs1 := hb1.size
  try simp only [World.size_alloc, World.size_setCell, World.size_drew] at hs1
  generalize lo % 4294967296 = L at *
  go_wp2_with fail
  refine (specMapped_no _ _ _).mono ?_
  rintro e w2 ⟨rfl, hb2⟩
  have hs2 := hb2.size
  simp only [World.size_alloc] at hs2
  have q0 : w2.cell? ⟨w1.heap.size, 0, none⟩ = some (.bool false) := (hb2.cell (p := ⟨w1.heap.size, 0, none⟩) (by simp only [World.size_alloc]; omega)).trans (by simp [go_sem])
  have q1 : w2.cell? ⟨w1.heap.size, 1, none⟩ = some (.int .u64 0) := (hb2.cell (p := ⟨w1.heap.size, 1, none⟩) (by simp only [World.size_alloc]; omega)).trans (by simp [go_sem])
  have q2 : w2.cell? ⟨w1.heap.size, 2, none⟩ = some (.int .u64 L) := (hb2.cell (p := ⟨w1.heap.size, 2, none⟩) (by simp only [World.size_alloc]; omega)).trans (by simp [go_sem])
  go_wp2
  go_region_held3 (fun w' => w'.cell? ⟨w1.heap.size, 0, none⟩ = some (.bool false) ∧ w'.cell? ⟨w1.heap.size, 1, none⟩ = some (.int .u64 0) ∧ w'.cell? ⟨w1.heap.size, 2, none⟩ = some (.int .u64 L))
    (first | exact ⟨q0, q1, q2⟩ | exact keep3 (by assumption) (by assumption))
    (first | (go_at_call 7; refine (kinds_v4 _ _ _ g0 g1).mono ?_; rintro e w3 ⟨b1, rfl, ho1, ht1, hk1, hb3⟩; have HK1 := Lib.hid hk1; clear hk1) | (go_at_call 9; refine (specKinds_v4 _ _ _ g0 g2).mono ?_; rintro e w4 ⟨b2, rfl, ho2, ht2, hk2, hb4⟩; have HK2 := Lib.hid hk2; clear hk2; have hs4 := hb4.size) | (go_at_call 8; refine (same_any (skinds4 L) b1 b2 _ (by omega) (by omega) (fun i hi => ((hb4.cell (p := ⟨b1, i, none⟩) ht1).trans (HK1.out i hi)).trans (by rw [HEq.out i hi])) HK2.out).mono ?_; rintro e w5 ⟨rfl, hb5⟩) | (go_at_call 10; refine (sane_any _).mono ?_; rintro e w6 ⟨rfl, hb6⟩))
  go_wp2
  go_ret
  refine ⟨rfl, ?_⟩
  have hs3 := hb3.size
  have hs5 := hb5.size
  simp only [World.size_drew] at hs3
  repeat (first | with_reducible exact Below.refl _ _ | with_reducible refine Below.setCell ?_ (by first | omega | (simp only [World.size_alloc, World.size_setCell, World.size_drew]; omega)) _ | with_reducible refine Below.alloc ?_ (by first | omega | (simp only [World.size_alloc, World.size_setCell, World.size_drew]; omega)) _ | with_reducible refine Below.drew ?_ | with_reducible refine Below.trans ?_ (hb6.mono (by first | omega | (simp only [World.size_alloc, World.size_setCell, World.size_drew]; omega))) | with_reducible refine Below.trans ?_ (hb5.mono (by first | omega | (simp only [World.size_alloc, World.size_setCell, World.size_drew]; omega))) | with_reducible refine Below.trans ?_ (hb4.mono (by first | omega | (simp only [World.size_alloc, World.size_setCell, World.size_drew]; omega))) | with_reducible refine Below.trans ?_ (hb3.mono (by first | omega | (simp only [World.size_alloc, World.size_setCell, World.size_drew]; omega))) | with_reducible refine Below.trans ?_ (hb2.mono (by first | omega | (simp only [World.size_alloc, World.size_setCell, World.size_drew]; omega))) | with_reducible refine Below.trans ?_ (hb1.mono (by first | omega | (simp only [World.size_alloc, World.size_setCell, World.size_drew]; omega))))

set_option maxHeartbeats 1600000 in
theorem law_v6 (hi lo : Int) (w : World) (hh : 0 ≤ hi) (hh2 : hi < 18446744073709551616) (hl : 0 ≤ lo) (hl2 : lo < 18446744073709551616) (H : Hid (mappedB hi lo = false)) :
    Calls Try.prog 3 #[.bool true, .int .u64 hi, .int .u64 lo] w fun e w' => e = .returned (.bool true) ∧ Below w.heap.size w w' := by
  have HEq := Lib.hid (kinds6_eq hi lo hh hh2)
  go_enter Try.func3, Try.ntmps3
  go_wp2_with fail
  refine (specAddr_yes hi lo _).mono ?_
  rintro e w1 ⟨rfl, hb1⟩
  obtain ⟨hc1, hf1⟩ := rulesB (B := w.heap.size) hb1 (by first | omega | (simp only [World.size_alloc, World.size_setCell, World.size_drew]; omega))
  have hs1 := hb1.size
  try simp only [World.size_alloc, World.size_setCell, World.size_drew] at hs1
  go_wp2_with fail
  refine (specMapped_yes _ _ _ hl hl2).mono ?_
  rw [H.out]
  rintro e w2 ⟨rfl, hb2⟩
  have hs2 := hb2.size
  simp only [World.size_alloc] at hs2
  have q0 : w2.cell? ⟨w1.heap.size, 0, none⟩ = some (.bool true) := (hb2.cell (p := ⟨w1.heap.size, 0, none⟩) (by simp only [World.size_alloc]; omega)).trans (by simp [go_sem])
  have q1 : w2.cell? ⟨w1.heap.size, 1, none⟩ = some (.int .u64 hi) := (hb2.cell (p := ⟨w1.heap.size, 1, none⟩) (by simp only [World.size_alloc]; omega)).trans (by simp [go_sem])
  have q2 : w2.cell? ⟨w1.heap.size, 2, none⟩ = some (.int .u64 lo) := (hb2.cell (p := ⟨w1.heap.size, 2, none⟩) (by simp only [World.size_alloc]; omega)).trans (by simp [go_sem])
  go_wp2
  go_region_held3 (fun w' => w'.cell? ⟨w1.heap.size, 0, none⟩ = some (.bool true) ∧ w'.cell? ⟨w1.heap.size, 1, none⟩ = some (.int .u64 hi) ∧ w'.cell? ⟨w1.heap.size, 2, none⟩ = some (.int .u64 lo))
    (first | exact ⟨q0, q1, q2⟩ | exact keep3 (by assumption) (by assumption))
    (first | (go_at_call 7; refine (kinds_v6 _ _ _ hh hh2 hl hl2 H).mono ?_; rintro e w3 ⟨b1, rfl, ho1, ht1, hk1, hb3⟩; have HK1 := Lib.hid hk1; clear hk1) | (go_at_call 9; refine (specKinds_v6 _ _ _ hh hh2 hl hl2).mono ?_; rintro e w4 ⟨b2, rfl, ho2, ht2, hk2, hb4⟩; have HK2 := Lib.hid hk2; clear hk2; have hs4 := hb4.size) | (go_at_call 8; refine (same_any (skinds6 hi lo) b1 b2 _ (by omega) (by omega) (fun i hi => ((hb4.cell (p := ⟨b1, i, none⟩) ht1).trans (HK1.out i hi)).trans (by rw [HEq.out i hi])) HK2.out).mono ?_; rintro e w5 ⟨rfl, hb5⟩) | (go_at_call 10; refine (sane_any _).mono ?_; rintro e w6 ⟨rfl, hb6⟩))
  go_wp2
  go_ret
  refine ⟨rfl, ?_⟩
  have hs3 := hb3.size
  have hs5 := hb5.size
  simp only [World.size_drew] at hs3
  repeat (first | with_reducible exact Below.refl _ _ | with_reducible refine Below.setCell ?_ (by first | omega | (simp only [World.size_alloc, World.size_setCell, World.size_drew]; omega)) _ | with_reducible refine Below.alloc ?_ (by first | omega | (simp only [World.size_alloc, World.size_setCell, World.size_drew]; omega)) _ | with_reducible refine Below.drew ?_ | with_reducible refine Below.trans ?_ (hb6.mono (by first | omega | (simp only [World.size_alloc, World.size_setCell, World.size_drew]; omega))) | with_reducible refine Below.trans ?_ (hb5.mono (by first | omega | (simp only [World.size_alloc, World.size_setCell, World.size_drew]; omega))) | with_reducible refine Below.trans ?_ (hb4.mono (by first | omega | (simp only [World.size_alloc, World.size_setCell, World.size_drew]; omega))) | with_reducible refine Below.trans ?_ (hb3.mono (by first | omega | (simp only [World.size_alloc, World.size_setCell, World.size_drew]; omega))) | with_reducible refine Below.trans ?_ (hb2.mono (by first | omega | (simp only [World.size_alloc, World.size_setCell, World.size_drew]; omega))) | with_reducible refine Below.trans ?_ (hb1.mono (by first | omega | (simp only [World.size_alloc, World.size_setCell, World.size_drew]; omega))))

set_option maxHeartbeats 1600000 in
theorem law_map (hi lo : Int) (w : World) (hh : 0 ≤ hi) (hh2 : hi < 18446744073709551616) (hl : 0 ≤ lo) (hl2 : lo < 18446744073709551616) (H : Hid (mappedB hi lo = true)) :
    Calls Try.prog 3 #[.bool true, .int .u64 hi, .int .u64 lo] w fun e w' => e = .returned (.bool true) ∧ Below w.heap.size w w' := by
  go_enter Try.func3, Try.ntmps3
  go_wp2_with fail
  refine (specAddr_yes hi lo _).mono ?_
  rintro e w1 ⟨rfl, hb1⟩
  obtain ⟨hc1, hf1⟩ := rulesB (B := w.heap.size) hb1 (by first | omega | (simp only [World.size_alloc, World.size_setCell, World.size_drew]; omega))
  have hs1 := hb1.size
  try simp only [World.size_alloc, World.size_setCell, World.size_drew] at hs1
  go_wp2_with fail
  refine (specMapped_yes _ _ _ hl hl2).mono ?_
  rw [H.out]
  rintro e w2 ⟨rfl, hb2⟩
  have hs2 := hb2.size
  simp only [World.size_alloc] at hs2
  have q0 : w2.cell? ⟨w1.heap.size, 0, none⟩ = some (.bool true) := (hb2.cell (p := ⟨w1.heap.size, 0, none⟩) (by simp only [World.size_alloc]; omega)).trans (by simp [go_sem])
  have q1 : w2.cell? ⟨w1.heap.size, 1, none⟩ = some (.int .u64 hi) := (hb2.cell (p := ⟨w1.heap.size, 1, none⟩) (by simp only [World.size_alloc]; omega)).trans (by simp [go_sem])
  have q2 : w2.cell? ⟨w1.heap.size, 2, none⟩ = some (.int .u64 lo) := (hb2.cell (p := ⟨w1.heap.size, 2, none⟩) (by simp only [World.size_alloc]; omega)).trans (by simp [go_sem])
  go_wp2_with fail
  refine (kinds_map _ _ _ hh hh2 hl hl2 H).mono ?_
  rintro e w3 ⟨b1, rfl, ho1, ht1, hk1, hb3⟩
  have k5 : w3.cell? ⟨b1, 5, none⟩ = some (.bool true) := hk1 5 (by omega)
  clear hk1
  go_wp2
  go_ret
  refine ⟨rfl, ?_⟩
  have hs3 := hb3.size
  repeat (first | with_reducible exact Below.refl _ _ | with_reducible refine Below.setCell ?_ (by first | omega | (simp only [World.size_alloc, World.size_setCell, World.size_drew]; omega)) _ | with_reducible refine Below.alloc ?_ (by first | omega | (simp only [World.size_alloc, World.size_setCell, World.size_drew]; omega)) _ | with_reducible refine Below.drew ?_ | with_reducible refine Below.trans ?_ (hb3.mono (by first | omega | (simp only [World.size_alloc, World.size_setCell, World.size_drew]; omega))) | with_reducible refine Below.trans ?_ (hb2.mono (by first | omega | (simp only [World.size_alloc, World.size_setCell, World.size_drew]; omega))) | with_reducible refine Below.trans ?_ (hb1.mono (by first | omega | (simp only [World.size_alloc, World.size_setCell, World.size_drew]; omega))))

theorem law_any (six : Bool) (hi lo : Int) (w : World) (hh : 0 ≤ hi) (hh2 : hi < 18446744073709551616) (hl : 0 ≤ lo) (hl2 : lo < 18446744073709551616) :
    Calls Try.prog 3 #[.bool six, .int .u64 hi, .int .u64 lo] w fun e w' => e = .returned (.bool true) ∧ Below w.heap.size w w' := by
  cases six with
  | false => exact law_v4 hi lo w hl hl2
  | true =>
    cases h : mappedB hi lo with
    | false => exact law_v6 hi lo w hh hh2 hl hl2 (Lib.hid h)
    | true => exact law_map hi lo w hh hh2 hl hl2 (Lib.hid h)
end Go.Proofs.Ytkploaapcpjkbaa
