/- Contracts: slices of strings; indexByte, WithZone, IPv6Unspecified. -/
import Derived.Test.YtkploaapcpjkbaaGreatDoorZB
import Derived.Test.YtkploaapcpjkbaaGreatDoorO1z
import Derived.Test.YtkploaapcpjkbaaGreatDoorB1
namespace Go.Proofs.YtkploaapcpjkbaaGreatDoor
open Go Go.RowKit Go.Sort
set_option linter.unusedVariables false
set_option linter.unusedSimpArgs false
attribute [local go_sem] cell_gr

theorem ext_from (x y : List UInt8) : (bs (x ++ y)).extract x.length (x.length + y.length) = bs y := by
  apply ByteArray.ext
  simp [bs, ByteArray.data_extract]
theorem strFrom (x y : List UInt8) (n : Int) (hn : n = x.length) (hl : x.length + y.length ≤ 1000) (W : World) : (Instr.sliceAt 9 (.string (bs (x ++ y))) (some (.int .i64 n)) none none).run Tryz.prog W = .ok (.string (bs y)) W := by
  subst hn
  have e := ext_from x y
  have h1 : (bs (x ++ y)).size = x.length + y.length := by rw [bs_size]; simp
  simp [go_sem, h1]
  rw [if_pos (by omega), e]
theorem strSlice (x y : List UInt8) (n m : Int) (hn : n = x.length) (hm : m = x.length + y.length) (hl : x.length + y.length ≤ 1000) (W : World) : (Instr.sliceAt 9 (.string (bs (x ++ y))) (some (.int .i64 n)) (some (.int .i64 m)) none).run Tryz.prog W = .ok (.string (bs y)) W := by
  subst hn hm
  have e := ext_from x y
  have h1 : (bs (x ++ y)).size = x.length + y.length := by rw [bs_size]; simp
  simp [go_sem, h1]
  rw [if_pos (by omega), if_pos (by omega), show ((x.length : Int) + y.length).toNat = x.length + y.length by omega, e]

theorem withZone_any (hi lo : Int) : Ret 59 #[.agg #[.int .u64 (hi), .int .u64 (lo), .bool true, .bool true, .string ⟨#[]⟩], .string ⟨#[]⟩] (.agg #[.int .u64 (hi), .int .u64 (lo), .bool true, .bool true, .string ⟨#[]⟩]) := by
  intro w
  go_enter Tryz.func59, Tryz.ntmps59
  go_wp2_with fail
  refine (is6_any true _ _ _).mono ?_
  rintro e w1 ⟨rfl, hb1⟩
  obtain ⟨hc1, hf1⟩ := rulesB (B := w.heap.size + 1 + 1) hb1 (by first | omega | (simp only [World.size_alloc, World.size_setCell, World.size_drew]; omega))
  have hs1 := hb1.size
  try simp only [World.size_alloc, World.size_setCell, World.size_drew] at hs1
  have hz1 : w.heap.size < w1.heap.size := by omega
  have hz2 : w.heap.size + 1 < w1.heap.size := by omega
  go_wp2_with fail
  refine (z6noz_any _).mono ?_
  rintro e w2 ⟨rfl, hb2⟩
  obtain ⟨hc2, hf2⟩ := rulesB (B := w.heap.size + 1 + 1) hb2 (by first | omega | (simp only [World.size_alloc, World.size_setCell, World.size_drew]; omega))
  have hs2 := hb2.size
  try simp only [World.size_alloc, World.size_setCell, World.size_drew] at hs2
  have hz3 : w.heap.size < w2.heap.size := by omega
  have hz4 : w.heap.size + 1 < w2.heap.size := by omega
  have qp2_0 : w2.cell? ⟨w.heap.size, 0, none⟩ = some (.int .u64 hi) := by rw [hc2 _ _ (by first | omega | (simp only [World.size_alloc, World.size_setCell, World.size_drew]; omega))]; first | with_reducible assumption | (simp [go_sem]; done) | (simp [go_sem, *]; done)
  have qp2_1 : w2.cell? ⟨w.heap.size, 1, none⟩ = some (.int .u64 lo) := by rw [hc2 _ _ (by first | omega | (simp only [World.size_alloc, World.size_setCell, World.size_drew]; omega))]; first | with_reducible assumption | (simp [go_sem]; done) | (simp [go_sem, *]; done)
  have qp2_2 : w2.cell? ⟨w.heap.size, 2, none⟩ = some (.bool true) := by rw [hc2 _ _ (by first | omega | (simp only [World.size_alloc, World.size_setCell, World.size_drew]; omega))]; first | with_reducible assumption | (simp [go_sem]; done) | (simp [go_sem, *]; done)
  have qp2_3 : w2.cell? ⟨w.heap.size, 3, none⟩ = some (.bool true) := by rw [hc2 _ _ (by first | omega | (simp only [World.size_alloc, World.size_setCell, World.size_drew]; omega))]; first | with_reducible assumption | (simp [go_sem]; done) | (simp [go_sem, *]; done)
  have qp2_4 : w2.cell? ⟨w.heap.size, 4, none⟩ = some (.string ⟨#[]⟩) := by rw [hc2 _ _ (by first | omega | (simp only [World.size_alloc, World.size_setCell, World.size_drew]; omega))]; first | with_reducible assumption | (simp [go_sem]; done) | (simp [go_sem, *]; done)
  have qr2_0 : w2.cell? ⟨w.heap.size + 1, 0, none⟩ = some (.int .u64 0) := by rw [hc2 _ _ (by first | omega | (simp only [World.size_alloc, World.size_setCell, World.size_drew]; omega))]; first | with_reducible assumption | (simp [go_sem]; done) | (simp [go_sem, *]; done)
  have qr2_1 : w2.cell? ⟨w.heap.size + 1, 1, none⟩ = some (.int .u64 0) := by rw [hc2 _ _ (by first | omega | (simp only [World.size_alloc, World.size_setCell, World.size_drew]; omega))]; first | with_reducible assumption | (simp [go_sem]; done) | (simp [go_sem, *]; done)
  have qr2_2 : w2.cell? ⟨w.heap.size + 1, 2, none⟩ = some (.bool false) := by rw [hc2 _ _ (by first | omega | (simp only [World.size_alloc, World.size_setCell, World.size_drew]; omega))]; first | with_reducible assumption | (simp [go_sem]; done) | (simp [go_sem, *]; done)
  have qr2_3 : w2.cell? ⟨w.heap.size + 1, 3, none⟩ = some (.bool false) := by rw [hc2 _ _ (by first | omega | (simp only [World.size_alloc, World.size_setCell, World.size_drew]; omega))]; first | with_reducible assumption | (simp [go_sem]; done) | (simp [go_sem, *]; done)
  have qr2_4 : w2.cell? ⟨w.heap.size + 1, 4, none⟩ = some (.string ⟨#[]⟩) := by rw [hc2 _ _ (by first | omega | (simp only [World.size_alloc, World.size_setCell, World.size_drew]; omega))]; first | with_reducible assumption | (simp [go_sem]; done) | (simp [go_sem, *]; done)
  have hf3 : w2.frozen? ⟨w.heap.size, 2, none⟩ = false := by rw [hf2 _ _ (by omega), hf1 _ _ (by omega)]; simp [go_sem]
  go_wp2
  refine bodyPost_ret (v := .agg #[.int .u64 (hi), .int .u64 (lo), .bool true, .bool true, .string ⟨#[]⟩]) ?_ rfl ⟨rfl, ?_⟩
  · simp [results, Tryz.results59, go_sem, qp2_0, qp2_1, qp2_2, qp2_3, qp2_4, qr2_0, qr2_1, qr2_2, qr2_3, qr2_4]
  repeat (first | with_reducible exact Below.refl _ _ | with_reducible refine Below.setCell ?_ (by first | omega | (simp only [World.size_alloc, World.size_setCell, World.size_drew]; omega)) _ | with_reducible refine Below.alloc ?_ (by first | omega | (simp only [World.size_alloc, World.size_setCell, World.size_drew]; omega)) _ | with_reducible refine Below.drew ?_ | with_reducible refine Below.trans ?_ (hb2.mono (by first | omega | (simp only [World.size_alloc, World.size_setCell, World.size_drew]; omega))) | with_reducible refine Below.trans ?_ (hb1.mono (by first | omega | (simp only [World.size_alloc, World.size_setCell, World.size_drew]; omega))))

theorem unspecified_any : Ret 58 #[] (.agg #[.int .u64 (0), .int .u64 (0), .bool true, .bool true, .string ⟨#[]⟩]) := by
  intro w
  go_enter Tryz.func58, Tryz.ntmps58
  go_wp2_with fail
  refine (z6noz_any _).mono ?_
  rintro e w1 ⟨rfl, hb1⟩
  obtain ⟨hc1, hf1⟩ := rulesB (B := w.heap.size + 1) hb1 (by simp)
  have hs1 := hb1.size
  simp only [World.size_alloc] at hs1
  have hz1 : w.heap.size < w1.heap.size := by omega
  have qr1_0 : w1.cell? ⟨w.heap.size, 0, none⟩ = some (.int .u64 0) := by rw [hc1 _ _ (by first | omega | (simp only [World.size_alloc, World.size_setCell, World.size_drew]; omega))]; first | with_reducible assumption | (simp [go_sem]; done) | (simp [go_sem, *]; done)
  have qr1_1 : w1.cell? ⟨w.heap.size, 1, none⟩ = some (.int .u64 0) := by rw [hc1 _ _ (by first | omega | (simp only [World.size_alloc, World.size_setCell, World.size_drew]; omega))]; first | with_reducible assumption | (simp [go_sem]; done) | (simp [go_sem, *]; done)
  have qr1_2 : w1.cell? ⟨w.heap.size, 2, none⟩ = some (.bool false) := by rw [hc1 _ _ (by first | omega | (simp only [World.size_alloc, World.size_setCell, World.size_drew]; omega))]; first | with_reducible assumption | (simp [go_sem]; done) | (simp [go_sem, *]; done)
  have qr1_3 : w1.cell? ⟨w.heap.size, 3, none⟩ = some (.bool false) := by rw [hc1 _ _ (by first | omega | (simp only [World.size_alloc, World.size_setCell, World.size_drew]; omega))]; first | with_reducible assumption | (simp [go_sem]; done) | (simp [go_sem, *]; done)
  have qr1_4 : w1.cell? ⟨w.heap.size, 4, none⟩ = some (.string ⟨#[]⟩) := by rw [hc1 _ _ (by first | omega | (simp only [World.size_alloc, World.size_setCell, World.size_drew]; omega))]; first | with_reducible assumption | (simp [go_sem]; done) | (simp [go_sem, *]; done)
  go_wp2
  refine bodyPost_ret (v := .agg #[.int .u64 (0), .int .u64 (0), .bool true, .bool true, .string ⟨#[]⟩]) ?_ rfl ⟨rfl, ?_⟩
  · simp [results, Tryz.results58, go_sem, qr1_0, qr1_1, qr1_2, qr1_3, qr1_4]
  repeat (first | with_reducible exact Below.refl _ _ | with_reducible refine Below.setCell ?_ (by first | omega | (simp only [World.size_alloc, World.size_setCell, World.size_drew]; omega)) _ | with_reducible refine Below.alloc ?_ (by first | omega | (simp only [World.size_alloc, World.size_setCell, World.size_drew]; omega)) _ | with_reducible refine Below.drew ?_ | with_reducible refine Below.trans ?_ (hb1.mono (by first | omega | (simp only [World.size_alloc, World.size_setCell, World.size_drew]; omega))))

set_option maxHeartbeats 800000 in
theorem indexByte_no (l : List UInt8) (S : ByteArray) (HS : Hid (S = bs l)) (hS : S.size ≤ 1000) (h : Hid (∀ i (h : i < l.length), l[i].toNat ≠ 37)) (w : World) :
    Calls Tryz.prog 57 #[.string S, .int .u8 37] w fun e w' => e = .returned (.int .i64 (-1)) ∧ w' = w := by
  have HZ := Lib.hid (show S.size = l.length by rw [HS.out, bs_size])
  go_enter Tryz.func57, Tryz.ntmps57
  go_wp2_with fail
  go_loop [5] (fun i => ∃ j : Nat, j ≤ S.size ∧ i = .int .i64 j) (fun i => S.size - (intOf i).toNat)
  case atStart => exact ⟨0, by omega, rfl⟩
  case round =>
    obtain ⟨j, hj, rfl⟩ := hrel
    by_cases hlt : j < S.size
    · have hl' : j < l.length := by rw [← HZ.out]; exact hlt
      have hli : decide ((j : Int) < (S.size : Int)) = true := decide_eq_true (by omega)
      obtain ⟨c, hc⟩ : ∃ c : Int, c = (l[j].toNat : Int) := ⟨_, rfl⟩
      have hcj : ∀ h, ((S[j]'h).toNat : Int) = c := fun h => by
        have e := HS.out
        subst e
        rw [hc, bs_at l j h hl']
      have c1 : (c == 37) = false := by have := h.out j hl'; rw [beq_eq_false_iff_ne, hc]; omega
      clear hc
      go_wp2_with fail
      go_round
      case rel => exact ⟨j + 1, by omega, by go_num⟩
      case measure => simp [intOf]; omega
    · obtain rfl : j = S.size := by omega
      go_wp2_with fail
      go_ret
      exact ⟨rfl, rfl⟩
end Go.Proofs.YtkploaapcpjkbaaGreatDoor
