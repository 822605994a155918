/- The walk of laws.FnTextWhole. -/
import Derived.Test.YtkploaapcpjkbaaGreatDoorPO
import Derived.Test.YtkploaapcpjkbaaGreatDoorSA
namespace Go.Proofs.YtkploaapcpjkbaaGreatDoor
open Go Go.RowKit Go.Sort
set_option linter.unusedVariables false
set_option linter.unusedSimpArgs false
attribute [local go_sem] cell_gr


set_option maxRecDepth 100000 in
set_option maxHeartbeats 6400000 in
theorem law_six (six : Bool) (H L hi lo way : Int) (w : World) (hT : Laid w) (X Y : List UInt8)
    (HA : ∀ w, Calls Tryz.prog 4 #[.bool six, .int .u64 H, .int .u64 L] w fun e w' => e = .returned (.agg #[.bool true, .int .u64 (hi), .int .u64 (lo)]) ∧ Below w.heap.size w w')
    (HTX : Ret 5 #[.agg #[.bool true, .int .u64 (hi), .int .u64 (lo)]] (.string (bs X))) (HPX : Ret 6 #[.string (bs X)] (.tuple #[.agg #[.bool true, .int .u64 (hi), .int .u64 (lo)], .bool true]))
    (HFM : ∀ w, Laid w → Calls Tryz.prog 7 #[.agg #[.bool true, .int .u64 (hi), .int .u64 (lo)], .int .u64 way] w fun e w' => (∃ S, Ret 6 #[.string S] (.tuple #[.agg #[.bool true, .int .u64 (hi), .int .u64 (lo)], .bool true]) ∧ e = .returned (.string S)) ∧ Below w.heap.size w w')
    (HST : ∀ w, Laid w → Calls Tryz.prog 8 #[.agg #[.bool true, .int .u64 (hi), .int .u64 (lo)]] w fun e w' => e = .returned (.string (bs X)) ∧ Below w.heap.size w w')
    (HEX : Ret 9 #[.agg #[.bool true, .int .u64 (hi), .int .u64 (lo)]] (.string (bs Y)))
    (HSE : ∀ w, Laid w → Calls Tryz.prog 10 #[.agg #[.bool true, .int .u64 (hi), .int .u64 (lo)]] w fun e w' => e = .returned (.string (bs Y)) ∧ Below w.heap.size w w') :
    Calls Tryz.prog 3 #[.bool six, .int .u64 H, .int .u64 L, .int .u64 way] w fun e w' => e = .returned (.bool true) ∧ Below w.heap.size w w' := by
  have HAH := Lib.hid HA
  have HFMH := Lib.hid HFM
  have HSTH := Lib.hid HST
  have HSEH := Lib.hid HSE
  have HL := Lib.hid hT
  clear HA HFM HST HSE hT
  go_enter Tryz.func3, Tryz.ntmps3
  go_wp2_with fail
  refine (HAH.out _).mono ?_
  rintro e w1 ⟨rfl, hb1⟩
  have hs1 := hb1.size
  have HB1 := Lib.hid (hb1.trans ((Below.refl w1.heap.size w1).alloc (Nat.le_refl _) (.cells #[.bool true, .int .u64 hi, .int .u64 lo] 24) |>.mono hs1))
  go_wp2_with fail
  refine (HTX.at _).mono ?_
  rintro e w2 ⟨rfl, hb2⟩
  obtain ⟨hc2, hf2⟩ := rulesB (B := w1.heap.size + 1) hb2 (by simp)
  have hs2 := hb2.size
  simp only [World.size_alloc] at hs2
  have HB2 := Lib.hid (HB1.out.trans (hb2.mono (by simp; omega)))
  have qa2_0 : w2.cell? ⟨w1.heap.size, 0, none⟩ = some (.bool true) := by rw [hc2 _ _ (by first | omega | (simp only [World.size_alloc, World.size_setCell, World.size_drew]; omega))]; first | with_reducible assumption | (simp [go_sem]; done) | (simp [go_sem, *]; done)
  have qa2_1 : w2.cell? ⟨w1.heap.size, 1, none⟩ = some (.int .u64 hi) := by rw [hc2 _ _ (by first | omega | (simp only [World.size_alloc, World.size_setCell, World.size_drew]; omega))]; first | with_reducible assumption | (simp [go_sem]; done) | (simp [go_sem, *]; done)
  have qa2_2 : w2.cell? ⟨w1.heap.size, 2, none⟩ = some (.int .u64 lo) := by rw [hc2 _ _ (by first | omega | (simp only [World.size_alloc, World.size_setCell, World.size_drew]; omega))]; first | with_reducible assumption | (simp [go_sem]; done) | (simp [go_sem, *]; done)
  clear hc2 hf2
  go_wp2_with fail
  refine (HPX.at _).mono ?_
  rintro e w3 ⟨rfl, hb3⟩
  obtain ⟨hc3, hf3⟩ := rulesB (B := w1.heap.size + 1) hb3 (by omega)
  have hs3 := hb3.size
  have HB3 := Lib.hid (HB2.out.trans (hb3.mono (by omega)))
  have HB3' := Lib.hid (HB3.out.trans ((Below.refl w3.heap.size w3).alloc (Nat.le_refl _) (.cells #[.bool true, .int .u64 hi, .int .u64 lo] 24) |>.mono (by omega)))
  have qa3_0 : w3.cell? ⟨w1.heap.size, 0, none⟩ = some (.bool true) := by rw [hc3 _ _ (by first | omega | (simp only [World.size_alloc, World.size_setCell, World.size_drew]; omega))]; first | with_reducible assumption | (simp [go_sem]; done) | (simp [go_sem, *]; done)
  have qa3_1 : w3.cell? ⟨w1.heap.size, 1, none⟩ = some (.int .u64 hi) := by rw [hc3 _ _ (by first | omega | (simp only [World.size_alloc, World.size_setCell, World.size_drew]; omega))]; first | with_reducible assumption | (simp [go_sem]; done) | (simp [go_sem, *]; done)
  have qa3_2 : w3.cell? ⟨w1.heap.size, 2, none⟩ = some (.int .u64 lo) := by rw [hc3 _ _ (by first | omega | (simp only [World.size_alloc, World.size_setCell, World.size_drew]; omega))]; first | with_reducible assumption | (simp [go_sem]; done) | (simp [go_sem, *]; done)
  have hz3 : w1.heap.size < w3.heap.size := by omega
  clear hc3 hf3
  go_wp2_with fail
  refine (HFMH.out _ (HL.out.below HB3'.out)).mono ?_
  rintro e w4 ⟨⟨S, hP, rfl⟩, hb4⟩
  obtain ⟨hc4, hf4⟩ := rulesB (B := w3.heap.size + 1) hb4 (by simp)
  have hs4 := hb4.size
  simp only [World.size_alloc] at hs4
  have HB4 := Lib.hid (HB3'.out.trans (hb4.mono (by simp; omega)))
  have qa4_0 : w4.cell? ⟨w1.heap.size, 0, none⟩ = some (.bool true) := by rw [hc4 _ _ (by omega), World.cell?_alloc_lt _ _ _ (by simpa using hz3)]; exact qa3_0
  have qa4_1 : w4.cell? ⟨w1.heap.size, 1, none⟩ = some (.int .u64 hi) := by rw [hc4 _ _ (by omega), World.cell?_alloc_lt _ _ _ (by simpa using hz3)]; exact qa3_1
  have qa4_2 : w4.cell? ⟨w1.heap.size, 2, none⟩ = some (.int .u64 lo) := by rw [hc4 _ _ (by omega), World.cell?_alloc_lt _ _ _ (by simpa using hz3)]; exact qa3_2
  have qb4_0 : w4.cell? ⟨w3.heap.size, 0, none⟩ = some (.bool true) := by rw [hc4 _ _ (by first | omega | (simp only [World.size_alloc, World.size_setCell, World.size_drew]; omega))]; first | with_reducible assumption | (simp [go_sem]; done) | (simp [go_sem, *]; done)
  have qb4_1 : w4.cell? ⟨w3.heap.size, 1, none⟩ = some (.int .u64 hi) := by rw [hc4 _ _ (by first | omega | (simp only [World.size_alloc, World.size_setCell, World.size_drew]; omega))]; first | with_reducible assumption | (simp [go_sem]; done) | (simp [go_sem, *]; done)
  have qb4_2 : w4.cell? ⟨w3.heap.size, 2, none⟩ = some (.int .u64 lo) := by rw [hc4 _ _ (by first | omega | (simp only [World.size_alloc, World.size_setCell, World.size_drew]; omega))]; first | with_reducible assumption | (simp [go_sem]; done) | (simp [go_sem, *]; done)
  clear hc4 hf4
  go_wp2_with fail
  refine (hP.at _).mono ?_
  rintro e w5 ⟨rfl, hb5⟩
  obtain ⟨hc5, hf5⟩ := rulesB (B := w3.heap.size + 1) hb5 (by omega)
  have hs5 := hb5.size
  have HB5 := Lib.hid (HB4.out.trans (hb5.mono (by omega)))
  have HB5' := Lib.hid (HB5.out.trans ((Below.refl w5.heap.size w5).alloc (Nat.le_refl _) (.cells #[.bool true, .int .u64 hi, .int .u64 lo] 24) |>.mono (by omega)))
  have HL5 := Lib.hid (HL.out.below HB5'.out)
  have qa5_0 : w5.cell? ⟨w1.heap.size, 0, none⟩ = some (.bool true) := by rw [hc5 _ _ (by first | omega | (simp only [World.size_alloc, World.size_setCell, World.size_drew]; omega))]; first | with_reducible assumption | (simp [go_sem]; done) | (simp [go_sem, *]; done)
  have qa5_1 : w5.cell? ⟨w1.heap.size, 1, none⟩ = some (.int .u64 hi) := by rw [hc5 _ _ (by first | omega | (simp only [World.size_alloc, World.size_setCell, World.size_drew]; omega))]; first | with_reducible assumption | (simp [go_sem]; done) | (simp [go_sem, *]; done)
  have qa5_2 : w5.cell? ⟨w1.heap.size, 2, none⟩ = some (.int .u64 lo) := by rw [hc5 _ _ (by first | omega | (simp only [World.size_alloc, World.size_setCell, World.size_drew]; omega))]; first | with_reducible assumption | (simp [go_sem]; done) | (simp [go_sem, *]; done)
  have qb5_0 : w5.cell? ⟨w3.heap.size, 0, none⟩ = some (.bool true) := by rw [hc5 _ _ (by first | omega | (simp only [World.size_alloc, World.size_setCell, World.size_drew]; omega))]; first | with_reducible assumption | (simp [go_sem]; done) | (simp [go_sem, *]; done)
  have qb5_1 : w5.cell? ⟨w3.heap.size, 1, none⟩ = some (.int .u64 hi) := by rw [hc5 _ _ (by first | omega | (simp only [World.size_alloc, World.size_setCell, World.size_drew]; omega))]; first | with_reducible assumption | (simp [go_sem]; done) | (simp [go_sem, *]; done)
  have qb5_2 : w5.cell? ⟨w3.heap.size, 2, none⟩ = some (.int .u64 lo) := by rw [hc5 _ _ (by first | omega | (simp only [World.size_alloc, World.size_setCell, World.size_drew]; omega))]; first | with_reducible assumption | (simp [go_sem]; done) | (simp [go_sem, *]; done)
  have hz5 : w1.heap.size < w5.heap.size := by omega
  have hz6 : w3.heap.size < w5.heap.size := by omega
  clear hc5 hf5
  go_wp2
  refine wp_region_quiet_below (by kernel_rfl) (by kernel_rfl) ?_
  repeat quiet_step (fail)
  quiet_step (with_reducible exact Calls.regrown_of (HSTH.out _ (HL5.out.below (below_regrown _ _ _))))
  repeat quiet_step (fail)
  quiet_step (with_reducible exact Calls.regrown_of (HEX.at _))
  repeat quiet_step (fail)
  quiet_step (with_reducible exact Calls.regrown_of (HSEH.out _ (HL5.out.below (below_regrown _ _ _))))
  repeat quiet_step (fail)
  refine wpQuiet_nil ?_
  intro w6 hb6
  replace hb6 := below_of hb6
  obtain ⟨hc6, hf6⟩ := rules hb6
  have hs6 := hb6.size
  try simp only [World.size_alloc, World.size_setCell, World.size_drew] at hs6
  go_wp2
  go_ret
  exact ⟨rfl, HB5'.out.trans (hb6.mono (by simp; omega))⟩

set_option maxRecDepth 100000 in
set_option maxHeartbeats 6400000 in
theorem law_four (six : Bool) (H L hi lo way : Int) (w : World) (hT : Laid w) (X Y : List UInt8)
    (HA : ∀ w, Calls Tryz.prog 4 #[.bool six, .int .u64 H, .int .u64 L] w fun e w' => e = .returned (.agg #[.bool false, .int .u64 (hi), .int .u64 (lo)]) ∧ Below w.heap.size w w')
    (HTX : Ret 5 #[.agg #[.bool false, .int .u64 (hi), .int .u64 (lo)]] (.string (bs X))) (HPX : Ret 6 #[.string (bs X)] (.tuple #[.agg #[.bool false, .int .u64 (hi), .int .u64 (lo)], .bool true]))
    (HFM : ∀ w, Laid w → Calls Tryz.prog 7 #[.agg #[.bool false, .int .u64 (hi), .int .u64 (lo)], .int .u64 way] w fun e w' => (∃ S, Ret 6 #[.string S] (.tuple #[.agg #[.bool false, .int .u64 (hi), .int .u64 (lo)], .bool true]) ∧ e = .returned (.string S)) ∧ Below w.heap.size w w')
    (HST : ∀ w, Laid w → Calls Tryz.prog 8 #[.agg #[.bool false, .int .u64 (hi), .int .u64 (lo)]] w fun e w' => e = .returned (.string (bs X)) ∧ Below w.heap.size w w')
    (HEX : Ret 9 #[.agg #[.bool false, .int .u64 (hi), .int .u64 (lo)]] (.string (bs Y)))
    (HSE : ∀ w, Laid w → Calls Tryz.prog 10 #[.agg #[.bool false, .int .u64 (hi), .int .u64 (lo)]] w fun e w' => e = .returned (.string (bs Y)) ∧ Below w.heap.size w w') :
    Calls Tryz.prog 3 #[.bool six, .int .u64 H, .int .u64 L, .int .u64 way] w fun e w' => e = .returned (.bool true) ∧ Below w.heap.size w w' := by
  have HAH := Lib.hid HA
  have HFMH := Lib.hid HFM
  have HSTH := Lib.hid HST
  have HSEH := Lib.hid HSE
  have HL := Lib.hid hT
  clear HA HFM HST HSE hT
  go_enter Tryz.func3, Tryz.ntmps3
  go_wp2_with fail
  refine (HAH.out _).mono ?_
  rintro e w1 ⟨rfl, hb1⟩
  have hs1 := hb1.size
  have HB1 := Lib.hid (hb1.trans ((Below.refl w1.heap.size w1).alloc (Nat.le_refl _) (.cells #[.bool false, .int .u64 hi, .int .u64 lo] 24) |>.mono hs1))
  go_wp2_with fail
  refine (HTX.at _).mono ?_
  rintro e w2 ⟨rfl, hb2⟩
  obtain ⟨hc2, hf2⟩ := rulesB (B := w1.heap.size + 1) hb2 (by simp)
  have hs2 := hb2.size
  simp only [World.size_alloc] at hs2
  have HB2 := Lib.hid (HB1.out.trans (hb2.mono (by simp; omega)))
  have qa2_0 : w2.cell? ⟨w1.heap.size, 0, none⟩ = some (.bool false) := by rw [hc2 _ _ (by first | omega | (simp only [World.size_alloc, World.size_setCell, World.size_drew]; omega))]; first | with_reducible assumption | (simp [go_sem]; done) | (simp [go_sem, *]; done)
  have qa2_1 : w2.cell? ⟨w1.heap.size, 1, none⟩ = some (.int .u64 hi) := by rw [hc2 _ _ (by first | omega | (simp only [World.size_alloc, World.size_setCell, World.size_drew]; omega))]; first | with_reducible assumption | (simp [go_sem]; done) | (simp [go_sem, *]; done)
  have qa2_2 : w2.cell? ⟨w1.heap.size, 2, none⟩ = some (.int .u64 lo) := by rw [hc2 _ _ (by first | omega | (simp only [World.size_alloc, World.size_setCell, World.size_drew]; omega))]; first | with_reducible assumption | (simp [go_sem]; done) | (simp [go_sem, *]; done)
  clear hc2 hf2
  go_wp2_with fail
  refine (HPX.at _).mono ?_
  rintro e w3 ⟨rfl, hb3⟩
  obtain ⟨hc3, hf3⟩ := rulesB (B := w1.heap.size + 1) hb3 (by omega)
  have hs3 := hb3.size
  have HB3 := Lib.hid (HB2.out.trans (hb3.mono (by omega)))
  have HB3' := Lib.hid (HB3.out.trans ((Below.refl w3.heap.size w3).alloc (Nat.le_refl _) (.cells #[.bool false, .int .u64 hi, .int .u64 lo] 24) |>.mono (by omega)))
  have qa3_0 : w3.cell? ⟨w1.heap.size, 0, none⟩ = some (.bool false) := by rw [hc3 _ _ (by first | omega | (simp only [World.size_alloc, World.size_setCell, World.size_drew]; omega))]; first | with_reducible assumption | (simp [go_sem]; done) | (simp [go_sem, *]; done)
  have qa3_1 : w3.cell? ⟨w1.heap.size, 1, none⟩ = some (.int .u64 hi) := by rw [hc3 _ _ (by first | omega | (simp only [World.size_alloc, World.size_setCell, World.size_drew]; omega))]; first | with_reducible assumption | (simp [go_sem]; done) | (simp [go_sem, *]; done)
  have qa3_2 : w3.cell? ⟨w1.heap.size, 2, none⟩ = some (.int .u64 lo) := by rw [hc3 _ _ (by first | omega | (simp only [World.size_alloc, World.size_setCell, World.size_drew]; omega))]; first | with_reducible assumption | (simp [go_sem]; done) | (simp [go_sem, *]; done)
  have hz3 : w1.heap.size < w3.heap.size := by omega
  clear hc3 hf3
  go_wp2_with fail
  refine (HFMH.out _ (HL.out.below HB3'.out)).mono ?_
  rintro e w4 ⟨⟨S, hP, rfl⟩, hb4⟩
  obtain ⟨hc4, hf4⟩ := rulesB (B := w3.heap.size + 1) hb4 (by simp)
  have hs4 := hb4.size
  simp only [World.size_alloc] at hs4
  have HB4 := Lib.hid (HB3'.out.trans (hb4.mono (by simp; omega)))
  have qa4_0 : w4.cell? ⟨w1.heap.size, 0, none⟩ = some (.bool false) := by rw [hc4 _ _ (by omega), World.cell?_alloc_lt _ _ _ (by simpa using hz3)]; exact qa3_0
  have qa4_1 : w4.cell? ⟨w1.heap.size, 1, none⟩ = some (.int .u64 hi) := by rw [hc4 _ _ (by omega), World.cell?_alloc_lt _ _ _ (by simpa using hz3)]; exact qa3_1
  have qa4_2 : w4.cell? ⟨w1.heap.size, 2, none⟩ = some (.int .u64 lo) := by rw [hc4 _ _ (by omega), World.cell?_alloc_lt _ _ _ (by simpa using hz3)]; exact qa3_2
  have qb4_0 : w4.cell? ⟨w3.heap.size, 0, none⟩ = some (.bool false) := by rw [hc4 _ _ (by first | omega | (simp only [World.size_alloc, World.size_setCell, World.size_drew]; omega))]; first | with_reducible assumption | (simp [go_sem]; done) | (simp [go_sem, *]; done)
  have qb4_1 : w4.cell? ⟨w3.heap.size, 1, none⟩ = some (.int .u64 hi) := by rw [hc4 _ _ (by first | omega | (simp only [World.size_alloc, World.size_setCell, World.size_drew]; omega))]; first | with_reducible assumption | (simp [go_sem]; done) | (simp [go_sem, *]; done)
  have qb4_2 : w4.cell? ⟨w3.heap.size, 2, none⟩ = some (.int .u64 lo) := by rw [hc4 _ _ (by first | omega | (simp only [World.size_alloc, World.size_setCell, World.size_drew]; omega))]; first | with_reducible assumption | (simp [go_sem]; done) | (simp [go_sem, *]; done)
  clear hc4 hf4
  go_wp2_with fail
  refine (hP.at _).mono ?_
  rintro e w5 ⟨rfl, hb5⟩
  obtain ⟨hc5, hf5⟩ := rulesB (B := w3.heap.size + 1) hb5 (by omega)
  have hs5 := hb5.size
  have HB5 := Lib.hid (HB4.out.trans (hb5.mono (by omega)))
  have HB5' := Lib.hid (HB5.out.trans ((Below.refl w5.heap.size w5).alloc (Nat.le_refl _) (.cells #[.bool false, .int .u64 hi, .int .u64 lo] 24) |>.mono (by omega)))
  have HL5 := Lib.hid (HL.out.below HB5'.out)
  have qa5_0 : w5.cell? ⟨w1.heap.size, 0, none⟩ = some (.bool false) := by rw [hc5 _ _ (by first | omega | (simp only [World.size_alloc, World.size_setCell, World.size_drew]; omega))]; first | with_reducible assumption | (simp [go_sem]; done) | (simp [go_sem, *]; done)
  have qa5_1 : w5.cell? ⟨w1.heap.size, 1, none⟩ = some (.int .u64 hi) := by rw [hc5 _ _ (by first | omega | (simp only [World.size_alloc, World.size_setCell, World.size_drew]; omega))]; first | with_reducible assumption | (simp [go_sem]; done) | (simp [go_sem, *]; done)
  have qa5_2 : w5.cell? ⟨w1.heap.size, 2, none⟩ = some (.int .u64 lo) := by rw [hc5 _ _ (by first | omega | (simp only [World.size_alloc, World.size_setCell, World.size_drew]; omega))]; first | with_reducible assumption | (simp [go_sem]; done) | (simp [go_sem, *]; done)
  have qb5_0 : w5.cell? ⟨w3.heap.size, 0, none⟩ = some (.bool false) := by rw [hc5 _ _ (by first | omega | (simp only [World.size_alloc, World.size_setCell, World.size_drew]; omega))]; first | with_reducible assumption | (simp [go_sem]; done) | (simp [go_sem, *]; done)
  have qb5_1 : w5.cell? ⟨w3.heap.size, 1, none⟩ = some (.int .u64 hi) := by rw [hc5 _ _ (by first | omega | (simp only [World.size_alloc, World.size_setCell, World.size_drew]; omega))]; first | with_reducible assumption | (simp [go_sem]; done) | (simp [go_sem, *]; done)
  have qb5_2 : w5.cell? ⟨w3.heap.size, 2, none⟩ = some (.int .u64 lo) := by rw [hc5 _ _ (by first | omega | (simp only [World.size_alloc, World.size_setCell, World.size_drew]; omega))]; first | with_reducible assumption | (simp [go_sem]; done) | (simp [go_sem, *]; done)
  have hz5 : w1.heap.size < w5.heap.size := by omega
  have hz6 : w3.heap.size < w5.heap.size := by omega
  clear hc5 hf5
  go_wp2
  refine wp_region_quiet_below (by kernel_rfl) (by kernel_rfl) ?_
  repeat quiet_step (fail)
  quiet_step (with_reducible exact Calls.regrown_of (HSTH.out _ (HL5.out.below (below_regrown _ _ _))))
  repeat quiet_step (fail)
  quiet_step (with_reducible exact Calls.regrown_of (HEX.at _))
  repeat quiet_step (fail)
  quiet_step (with_reducible exact Calls.regrown_of (HSEH.out _ (HL5.out.below (below_regrown _ _ _))))
  repeat quiet_step (fail)
  refine wpQuiet_nil ?_
  intro w6 hb6
  replace hb6 := below_of hb6
  obtain ⟨hc6, hf6⟩ := rules hb6
  have hs6 := hb6.size
  try simp only [World.size_alloc, World.size_setCell, World.size_drew] at hs6
  go_wp2
  go_ret
  exact ⟨rfl, HB5'.out.trans (hb6.mono (by simp; omega))⟩

end Go.Proofs.YtkploaapcpjkbaaGreatDoor
