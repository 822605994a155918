/- Contracts: Addr.Prefix, Prefix.Addr, Prefix.Bits, cmp.Compare. -/
import Derived.Test.YtkploaapcpjkbaaDoorO6
namespace Go.Proofs.YtkploaapcpjkbaaDoor
open Go Go.RowKit Go.Sort
set_option linter.unusedVariables false
set_option linter.unusedSimpArgs false
attribute [local go_sem] cell_gr

set_option maxHeartbeats 1600000 in
theorem addrPrefix_v4 (lo n m a b hx lx : Int) (h0 : 0 ≤ n) (h1 : n ≤ 32) (hm : n + 96 = m)
    (HM : Ret 65 #[.int .i64 m] (.agg #[.int .u64 (a), .int .u64 (b)])) (HA : Ret 64 #[.agg #[.int .u64 (0), .int .u64 (lo)], .agg #[.int .u64 (a), .int .u64 (b)]] (.agg #[.int .u64 (hx), .int .u64 (lx)])) (HP : Ret 31 #[.agg #[.int .u64 (hx), .int .u64 (lx), .bool true, .bool false, .string ⟨#[]⟩], .int .i64 n] (.agg #[.int .u64 (hx), .int .u64 (lx), .bool true, .bool false, .string ⟨#[]⟩, .int .u8 (n + 1)])) :
    Ret 49 #[.agg #[.int .u64 (0), .int .u64 (lo), .bool true, .bool false, .string ⟨#[]⟩], .int .i64 n] (.tuple #[.agg #[.int .u64 (hx), .int .u64 (lx), .bool true, .bool false, .string ⟨#[]⟩, .int .u8 (n + 1)], .nilIface]) := by
  intro w
  have e0 : IntKind.i64.wrap (n + 96) = m := by rw [← hm, IntKind.wrap_i64]; omega
  have d0 : decide (n < 0) = false := by simp; omega
  have d1 : decide (32 < n) = false := by simp; omega
  clear hm
  go_enter Tryd.func49, Tryd.ntmps49
  go_wp2_with fail
  refine (z0_any _).mono ?_
  rintro e w1 ⟨rfl, hb1⟩
  obtain ⟨hc1, hf1⟩ := rulesB (B := w.heap.size + 2) hb1 (by first | omega | (simp only [World.size_alloc, World.size_setCell, World.size_drew]; omega))
  have hs1 := hb1.size
  try simp only [World.size_alloc, World.size_setCell, World.size_drew] at hs1
  have qa1_0 : w1.cell? ⟨w.heap.size, 0, none⟩ = some (.int .u64 0) := by rw [hc1 _ _ (by first | omega | (simp only [World.size_alloc, World.size_setCell, World.size_drew]; omega))]; first | with_reducible assumption | (simp [go_sem]; done) | (simp [go_sem, *]; done)
  have qa1_1 : w1.cell? ⟨w.heap.size, 1, none⟩ = some (.int .u64 lo) := by rw [hc1 _ _ (by first | omega | (simp only [World.size_alloc, World.size_setCell, World.size_drew]; omega))]; first | with_reducible assumption | (simp [go_sem]; done) | (simp [go_sem, *]; done)
  have qa1_2 : w1.cell? ⟨w.heap.size, 2, none⟩ = some (.bool true) := by rw [hc1 _ _ (by first | omega | (simp only [World.size_alloc, World.size_setCell, World.size_drew]; omega))]; first | with_reducible assumption | (simp [go_sem]; done) | (simp [go_sem, *]; done)
  have qa1_3 : w1.cell? ⟨w.heap.size, 3, none⟩ = some (.bool false) := by rw [hc1 _ _ (by first | omega | (simp only [World.size_alloc, World.size_setCell, World.size_drew]; omega))]; first | with_reducible assumption | (simp [go_sem]; done) | (simp [go_sem, *]; done)
  have qa1_4 : w1.cell? ⟨w.heap.size, 4, none⟩ = some (.string ⟨#[]⟩) := by rw [hc1 _ _ (by first | omega | (simp only [World.size_alloc, World.size_setCell, World.size_drew]; omega))]; first | with_reducible assumption | (simp [go_sem]; done) | (simp [go_sem, *]; done)
  have qr1_0 : w1.cell? ⟨w.heap.size + 1, 0, none⟩ = some (.int .u64 0) := by rw [hc1 _ _ (by first | omega | (simp only [World.size_alloc, World.size_setCell, World.size_drew]; omega))]; first | with_reducible assumption | (simp [go_sem]; done) | (simp [go_sem, *]; done)
  have qr1_1 : w1.cell? ⟨w.heap.size + 1, 1, none⟩ = some (.int .u64 0) := by rw [hc1 _ _ (by first | omega | (simp only [World.size_alloc, World.size_setCell, World.size_drew]; omega))]; first | with_reducible assumption | (simp [go_sem]; done) | (simp [go_sem, *]; done)
  have qr1_2 : w1.cell? ⟨w.heap.size + 1, 2, none⟩ = some (.bool false) := by rw [hc1 _ _ (by first | omega | (simp only [World.size_alloc, World.size_setCell, World.size_drew]; omega))]; first | with_reducible assumption | (simp [go_sem]; done) | (simp [go_sem, *]; done)
  have qr1_3 : w1.cell? ⟨w.heap.size + 1, 3, none⟩ = some (.bool false) := by rw [hc1 _ _ (by first | omega | (simp only [World.size_alloc, World.size_setCell, World.size_drew]; omega))]; first | with_reducible assumption | (simp [go_sem]; done) | (simp [go_sem, *]; done)
  have qr1_4 : w1.cell? ⟨w.heap.size + 1, 4, none⟩ = some (.string ⟨#[]⟩) := by rw [hc1 _ _ (by first | omega | (simp only [World.size_alloc, World.size_setCell, World.size_drew]; omega))]; first | with_reducible assumption | (simp [go_sem]; done) | (simp [go_sem, *]; done)
  have qr1_5 : w1.cell? ⟨w.heap.size + 1, 5, none⟩ = some (.int .u8 0) := by rw [hc1 _ _ (by first | omega | (simp only [World.size_alloc, World.size_setCell, World.size_drew]; omega))]; first | with_reducible assumption | (simp [go_sem]; done) | (simp [go_sem, *]; done)
  have hz1_0 : w.heap.size < w1.heap.size := by omega
  have hy1_0 : w.heap.size ≤ w1.heap.size := by omega
  have hz1_1 : w.heap.size + 1 < w1.heap.size := by omega
  have hy1_1 : w.heap.size + 1 ≤ w1.heap.size := by omega
  go_wp2_with fail
  refine (z4_any _).mono ?_
  rintro e w2 ⟨rfl, hb2⟩
  obtain ⟨hc2, hf2⟩ := rulesB (B := w.heap.size + 2) hb2 (by first | omega | (simp only [World.size_alloc, World.size_setCell, World.size_drew]; omega))
  have hs2 := hb2.size
  try simp only [World.size_alloc, World.size_setCell, World.size_drew] at hs2
  have qa2_0 : w2.cell? ⟨w.heap.size, 0, none⟩ = some (.int .u64 0) := by rw [hc2 _ _ (by first | omega | (simp only [World.size_alloc, World.size_setCell, World.size_drew]; omega))]; first | with_reducible assumption | (simp [go_sem]; done) | (simp [go_sem, *]; done)
  have qa2_1 : w2.cell? ⟨w.heap.size, 1, none⟩ = some (.int .u64 lo) := by rw [hc2 _ _ (by first | omega | (simp only [World.size_alloc, World.size_setCell, World.size_drew]; omega))]; first | with_reducible assumption | (simp [go_sem]; done) | (simp [go_sem, *]; done)
  have qa2_2 : w2.cell? ⟨w.heap.size, 2, none⟩ = some (.bool true) := by rw [hc2 _ _ (by first | omega | (simp only [World.size_alloc, World.size_setCell, World.size_drew]; omega))]; first | with_reducible assumption | (simp [go_sem]; done) | (simp [go_sem, *]; done)
  have qa2_3 : w2.cell? ⟨w.heap.size, 3, none⟩ = some (.bool false) := by rw [hc2 _ _ (by first | omega | (simp only [World.size_alloc, World.size_setCell, World.size_drew]; omega))]; first | with_reducible assumption | (simp [go_sem]; done) | (simp [go_sem, *]; done)
  have qa2_4 : w2.cell? ⟨w.heap.size, 4, none⟩ = some (.string ⟨#[]⟩) := by rw [hc2 _ _ (by first | omega | (simp only [World.size_alloc, World.size_setCell, World.size_drew]; omega))]; first | with_reducible assumption | (simp [go_sem]; done) | (simp [go_sem, *]; done)
  have qr2_0 : w2.cell? ⟨w.heap.size + 1, 0, none⟩ = some (.int .u64 0) := by rw [hc2 _ _ (by first | omega | (simp only [World.size_alloc, World.size_setCell, World.size_drew]; omega))]; first | with_reducible assumption | (simp [go_sem]; done) | (simp [go_sem, *]; done)
  have qr2_1 : w2.cell? ⟨w.heap.size + 1, 1, none⟩ = some (.int .u64 0) := by rw [hc2 _ _ (by first | omega | (simp only [World.size_alloc, World.size_setCell, World.size_drew]; omega))]; first | with_reducible assumption | (simp [go_sem]; done) | (simp [go_sem, *]; done)
  have qr2_2 : w2.cell? ⟨w.heap.size + 1, 2, none⟩ = some (.bool false) := by rw [hc2 _ _ (by first | omega | (simp only [World.size_alloc, World.size_setCell, World.size_drew]; omega))]; first | with_reducible assumption | (simp [go_sem]; done) | (simp [go_sem, *]; done)
  have qr2_3 : w2.cell? ⟨w.heap.size + 1, 3, none⟩ = some (.bool false) := by rw [hc2 _ _ (by first | omega | (simp only [World.size_alloc, World.size_setCell, World.size_drew]; omega))]; first | with_reducible assumption | (simp [go_sem]; done) | (simp [go_sem, *]; done)
  have qr2_4 : w2.cell? ⟨w.heap.size + 1, 4, none⟩ = some (.string ⟨#[]⟩) := by rw [hc2 _ _ (by first | omega | (simp only [World.size_alloc, World.size_setCell, World.size_drew]; omega))]; first | with_reducible assumption | (simp [go_sem]; done) | (simp [go_sem, *]; done)
  have qr2_5 : w2.cell? ⟨w.heap.size + 1, 5, none⟩ = some (.int .u8 0) := by rw [hc2 _ _ (by first | omega | (simp only [World.size_alloc, World.size_setCell, World.size_drew]; omega))]; first | with_reducible assumption | (simp [go_sem]; done) | (simp [go_sem, *]; done)
  have hz2_0 : w.heap.size < w2.heap.size := by omega
  have hy2_0 : w.heap.size ≤ w2.heap.size := by omega
  have hz2_1 : w.heap.size + 1 < w2.heap.size := by omega
  have hy2_1 : w.heap.size + 1 ≤ w2.heap.size := by omega
  go_wp2
  refine region_tail 6 (by kernel_rfl) (by kernel_rfl) ?_
  simp only [List.take_succ_cons, List.take_zero, List.drop_succ_cons, List.drop_zero]
  repeat quiet_step (fail)
  quiet_step (with_reducible exact Calls.regrown_of (HM.at _))
  repeat quiet_step (fail)
  quiet_step (with_reducible exact Calls.regrown_of (HA.at _))
  repeat quiet_step (fail)
  refine wpQuiet_nil ?_
  intro w3 hb3
  obtain ⟨hc3, hf3⟩ := rules hb3
  have hs3 := hb3.size
  try simp only [World.size_alloc, World.size_setCell, World.size_drew] at hs3
  have qa3_0 : w3.cell? ⟨w.heap.size, 0, none⟩ = some (.int .u64 0) := by rw [hc3 _ _ (by first | omega | (simp only [World.size_alloc, World.size_setCell, World.size_drew]; omega))]; first | with_reducible assumption | (simp [go_sem]; done) | (simp [go_sem, *]; done)
  have qa3_1 : w3.cell? ⟨w.heap.size, 1, none⟩ = some (.int .u64 lo) := by rw [hc3 _ _ (by first | omega | (simp only [World.size_alloc, World.size_setCell, World.size_drew]; omega))]; first | with_reducible assumption | (simp [go_sem]; done) | (simp [go_sem, *]; done)
  have qa3_2 : w3.cell? ⟨w.heap.size, 2, none⟩ = some (.bool true) := by rw [hc3 _ _ (by first | omega | (simp only [World.size_alloc, World.size_setCell, World.size_drew]; omega))]; first | with_reducible assumption | (simp [go_sem]; done) | (simp [go_sem, *]; done)
  have qa3_3 : w3.cell? ⟨w.heap.size, 3, none⟩ = some (.bool false) := by rw [hc3 _ _ (by first | omega | (simp only [World.size_alloc, World.size_setCell, World.size_drew]; omega))]; first | with_reducible assumption | (simp [go_sem]; done) | (simp [go_sem, *]; done)
  have qa3_4 : w3.cell? ⟨w.heap.size, 4, none⟩ = some (.string ⟨#[]⟩) := by rw [hc3 _ _ (by first | omega | (simp only [World.size_alloc, World.size_setCell, World.size_drew]; omega))]; first | with_reducible assumption | (simp [go_sem]; done) | (simp [go_sem, *]; done)
  have qr3_0 : w3.cell? ⟨w.heap.size + 1, 0, none⟩ = some (.int .u64 0) := by rw [hc3 _ _ (by first | omega | (simp only [World.size_alloc, World.size_setCell, World.size_drew]; omega))]; first | with_reducible assumption | (simp [go_sem]; done) | (simp [go_sem, *]; done)
  have qr3_1 : w3.cell? ⟨w.heap.size + 1, 1, none⟩ = some (.int .u64 0) := by rw [hc3 _ _ (by first | omega | (simp only [World.size_alloc, World.size_setCell, World.size_drew]; omega))]; first | with_reducible assumption | (simp [go_sem]; done) | (simp [go_sem, *]; done)
  have qr3_2 : w3.cell? ⟨w.heap.size + 1, 2, none⟩ = some (.bool false) := by rw [hc3 _ _ (by first | omega | (simp only [World.size_alloc, World.size_setCell, World.size_drew]; omega))]; first | with_reducible assumption | (simp [go_sem]; done) | (simp [go_sem, *]; done)
  have qr3_3 : w3.cell? ⟨w.heap.size + 1, 3, none⟩ = some (.bool false) := by rw [hc3 _ _ (by first | omega | (simp only [World.size_alloc, World.size_setCell, World.size_drew]; omega))]; first | with_reducible assumption | (simp [go_sem]; done) | (simp [go_sem, *]; done)
  have qr3_4 : w3.cell? ⟨w.heap.size + 1, 4, none⟩ = some (.string ⟨#[]⟩) := by rw [hc3 _ _ (by first | omega | (simp only [World.size_alloc, World.size_setCell, World.size_drew]; omega))]; first | with_reducible assumption | (simp [go_sem]; done) | (simp [go_sem, *]; done)
  have qr3_5 : w3.cell? ⟨w.heap.size + 1, 5, none⟩ = some (.int .u8 0) := by rw [hc3 _ _ (by first | omega | (simp only [World.size_alloc, World.size_setCell, World.size_drew]; omega))]; first | with_reducible assumption | (simp [go_sem]; done) | (simp [go_sem, *]; done)
  have hz3_0 : w.heap.size < w3.heap.size := by omega
  have hy3_0 : w.heap.size ≤ w3.heap.size := by omega
  have hz3_1 : w.heap.size + 1 < w3.heap.size := by omega
  have hy3_1 : w.heap.size + 1 ≤ w3.heap.size := by omega
  go_wp2_with fail
  refine (HP.at _).mono ?_
  rintro e w4 ⟨rfl, hb4⟩
  obtain ⟨hc4, hf4⟩ := rulesB (B := w.heap.size + 2) hb4 (by first | omega | (simp only [World.size_alloc, World.size_setCell, World.size_drew]; omega))
  have hs4 := hb4.size
  try simp only [World.size_alloc, World.size_setCell, World.size_drew] at hs4
  have qr4_0 : w4.cell? ⟨w.heap.size + 1, 0, none⟩ = some (.int .u64 0) := by rw [hc4 _ _ (by first | omega | (simp only [World.size_alloc, World.size_setCell, World.size_drew]; omega))]; first | with_reducible assumption | (simp [go_sem]; done) | (simp [go_sem, *]; done)
  have qr4_1 : w4.cell? ⟨w.heap.size + 1, 1, none⟩ = some (.int .u64 0) := by rw [hc4 _ _ (by first | omega | (simp only [World.size_alloc, World.size_setCell, World.size_drew]; omega))]; first | with_reducible assumption | (simp [go_sem]; done) | (simp [go_sem, *]; done)
  have qr4_2 : w4.cell? ⟨w.heap.size + 1, 2, none⟩ = some (.bool false) := by rw [hc4 _ _ (by first | omega | (simp only [World.size_alloc, World.size_setCell, World.size_drew]; omega))]; first | with_reducible assumption | (simp [go_sem]; done) | (simp [go_sem, *]; done)
  have qr4_3 : w4.cell? ⟨w.heap.size + 1, 3, none⟩ = some (.bool false) := by rw [hc4 _ _ (by first | omega | (simp only [World.size_alloc, World.size_setCell, World.size_drew]; omega))]; first | with_reducible assumption | (simp [go_sem]; done) | (simp [go_sem, *]; done)
  have qr4_4 : w4.cell? ⟨w.heap.size + 1, 4, none⟩ = some (.string ⟨#[]⟩) := by rw [hc4 _ _ (by first | omega | (simp only [World.size_alloc, World.size_setCell, World.size_drew]; omega))]; first | with_reducible assumption | (simp [go_sem]; done) | (simp [go_sem, *]; done)
  have qr4_5 : w4.cell? ⟨w.heap.size + 1, 5, none⟩ = some (.int .u8 0) := by rw [hc4 _ _ (by first | omega | (simp only [World.size_alloc, World.size_setCell, World.size_drew]; omega))]; first | with_reducible assumption | (simp [go_sem]; done) | (simp [go_sem, *]; done)
  go_wp2
  refine bodyPost_ret (v := .tuple #[.agg #[.int .u64 (hx), .int .u64 (lx), .bool true, .bool false, .string ⟨#[]⟩, .int .u8 (n + 1)], .nilIface]) ?_ rfl ⟨rfl, ?_⟩
  · simp [results, Tryd.results49, go_sem, qr4_0, qr4_1, qr4_2, qr4_3, qr4_4, qr4_5]
  repeat (first | with_reducible exact Below.refl _ _ | with_reducible refine Below.setCell ?_ (by first | omega | (simp only [World.size_alloc, World.size_setCell, World.size_drew]; omega)) _ | with_reducible refine Below.alloc ?_ (by first | omega | (simp only [World.size_alloc, World.size_setCell, World.size_drew]; omega)) _ | with_reducible refine Below.drew ?_ | with_reducible refine Below.trans ?_ (hb4.mono (by first | omega | (simp only [World.size_alloc, World.size_setCell, World.size_drew]; omega))) | with_reducible refine Below.trans ?_ (hb3.mono (by first | omega | (simp only [World.size_alloc, World.size_setCell, World.size_drew]; omega))) | with_reducible refine Below.trans ?_ (hb2.mono (by first | omega | (simp only [World.size_alloc, World.size_setCell, World.size_drew]; omega))) | with_reducible refine Below.trans ?_ (hb1.mono (by first | omega | (simp only [World.size_alloc, World.size_setCell, World.size_drew]; omega))))

set_option maxHeartbeats 1600000 in
theorem addrPrefix_v6 (hi lo n a b hx lx : Int) (h0 : 0 ≤ n) (h1 : n ≤ 128)
    (HM : Ret 65 #[.int .i64 n] (.agg #[.int .u64 (a), .int .u64 (b)])) (HA : Ret 64 #[.agg #[.int .u64 (hi), .int .u64 (lo)], .agg #[.int .u64 (a), .int .u64 (b)]] (.agg #[.int .u64 (hx), .int .u64 (lx)])) (HP : Ret 31 #[.agg #[.int .u64 (hx), .int .u64 (lx), .bool true, .bool true, .string ⟨#[]⟩], .int .i64 n] (.agg #[.int .u64 (hx), .int .u64 (lx), .bool true, .bool true, .string ⟨#[]⟩, .int .u8 (n + 1)])) :
    Ret 49 #[.agg #[.int .u64 (hi), .int .u64 (lo), .bool true, .bool true, .string ⟨#[]⟩], .int .i64 n] (.tuple #[.agg #[.int .u64 (hx), .int .u64 (lx), .bool true, .bool true, .string ⟨#[]⟩, .int .u8 (n + 1)], .nilIface]) := by
  intro w
  have d0 : decide (n < 0) = false := by simp; omega
  have d1 : decide (128 < n) = false := by simp; omega
  go_enter Tryd.func49, Tryd.ntmps49
  go_wp2_with fail
  refine (z0_any _).mono ?_
  rintro e w1 ⟨rfl, hb1⟩
  obtain ⟨hc1, hf1⟩ := rulesB (B := w.heap.size + 2) hb1 (by first | omega | (simp only [World.size_alloc, World.size_setCell, World.size_drew]; omega))
  have hs1 := hb1.size
  try simp only [World.size_alloc, World.size_setCell, World.size_drew] at hs1
  have qa1_0 : w1.cell? ⟨w.heap.size, 0, none⟩ = some (.int .u64 hi) := by rw [hc1 _ _ (by first | omega | (simp only [World.size_alloc, World.size_setCell, World.size_drew]; omega))]; first | with_reducible assumption | (simp [go_sem]; done) | (simp [go_sem, *]; done)
  have qa1_1 : w1.cell? ⟨w.heap.size, 1, none⟩ = some (.int .u64 lo) := by rw [hc1 _ _ (by first | omega | (simp only [World.size_alloc, World.size_setCell, World.size_drew]; omega))]; first | with_reducible assumption | (simp [go_sem]; done) | (simp [go_sem, *]; done)
  have qa1_2 : w1.cell? ⟨w.heap.size, 2, none⟩ = some (.bool true) := by rw [hc1 _ _ (by first | omega | (simp only [World.size_alloc, World.size_setCell, World.size_drew]; omega))]; first | with_reducible assumption | (simp [go_sem]; done) | (simp [go_sem, *]; done)
  have qa1_3 : w1.cell? ⟨w.heap.size, 3, none⟩ = some (.bool true) := by rw [hc1 _ _ (by first | omega | (simp only [World.size_alloc, World.size_setCell, World.size_drew]; omega))]; first | with_reducible assumption | (simp [go_sem]; done) | (simp [go_sem, *]; done)
  have qa1_4 : w1.cell? ⟨w.heap.size, 4, none⟩ = some (.string ⟨#[]⟩) := by rw [hc1 _ _ (by first | omega | (simp only [World.size_alloc, World.size_setCell, World.size_drew]; omega))]; first | with_reducible assumption | (simp [go_sem]; done) | (simp [go_sem, *]; done)
  have qr1_0 : w1.cell? ⟨w.heap.size + 1, 0, none⟩ = some (.int .u64 0) := by rw [hc1 _ _ (by first | omega | (simp only [World.size_alloc, World.size_setCell, World.size_drew]; omega))]; first | with_reducible assumption | (simp [go_sem]; done) | (simp [go_sem, *]; done)
  have qr1_1 : w1.cell? ⟨w.heap.size + 1, 1, none⟩ = some (.int .u64 0) := by rw [hc1 _ _ (by first | omega | (simp only [World.size_alloc, World.size_setCell, World.size_drew]; omega))]; first | with_reducible assumption | (simp [go_sem]; done) | (simp [go_sem, *]; done)
  have qr1_2 : w1.cell? ⟨w.heap.size + 1, 2, none⟩ = some (.bool false) := by rw [hc1 _ _ (by first | omega | (simp only [World.size_alloc, World.size_setCell, World.size_drew]; omega))]; first | with_reducible assumption | (simp [go_sem]; done) | (simp [go_sem, *]; done)
  have qr1_3 : w1.cell? ⟨w.heap.size + 1, 3, none⟩ = some (.bool false) := by rw [hc1 _ _ (by first | omega | (simp only [World.size_alloc, World.size_setCell, World.size_drew]; omega))]; first | with_reducible assumption | (simp [go_sem]; done) | (simp [go_sem, *]; done)
  have qr1_4 : w1.cell? ⟨w.heap.size + 1, 4, none⟩ = some (.string ⟨#[]⟩) := by rw [hc1 _ _ (by first | omega | (simp only [World.size_alloc, World.size_setCell, World.size_drew]; omega))]; first | with_reducible assumption | (simp [go_sem]; done) | (simp [go_sem, *]; done)
  have qr1_5 : w1.cell? ⟨w.heap.size + 1, 5, none⟩ = some (.int .u8 0) := by rw [hc1 _ _ (by first | omega | (simp only [World.size_alloc, World.size_setCell, World.size_drew]; omega))]; first | with_reducible assumption | (simp [go_sem]; done) | (simp [go_sem, *]; done)
  have hz1_0 : w.heap.size < w1.heap.size := by omega
  have hy1_0 : w.heap.size ≤ w1.heap.size := by omega
  have hz1_1 : w.heap.size + 1 < w1.heap.size := by omega
  have hy1_1 : w.heap.size + 1 ≤ w1.heap.size := by omega
  go_wp2_with fail
  refine (z4_any _).mono ?_
  rintro e w2 ⟨rfl, hb2⟩
  obtain ⟨hc2, hf2⟩ := rulesB (B := w.heap.size + 2) hb2 (by first | omega | (simp only [World.size_alloc, World.size_setCell, World.size_drew]; omega))
  have hs2 := hb2.size
  try simp only [World.size_alloc, World.size_setCell, World.size_drew] at hs2
  have qa2_0 : w2.cell? ⟨w.heap.size, 0, none⟩ = some (.int .u64 hi) := by rw [hc2 _ _ (by first | omega | (simp only [World.size_alloc, World.size_setCell, World.size_drew]; omega))]; first | with_reducible assumption | (simp [go_sem]; done) | (simp [go_sem, *]; done)
  have qa2_1 : w2.cell? ⟨w.heap.size, 1, none⟩ = some (.int .u64 lo) := by rw [hc2 _ _ (by first | omega | (simp only [World.size_alloc, World.size_setCell, World.size_drew]; omega))]; first | with_reducible assumption | (simp [go_sem]; done) | (simp [go_sem, *]; done)
  have qa2_2 : w2.cell? ⟨w.heap.size, 2, none⟩ = some (.bool true) := by rw [hc2 _ _ (by first | omega | (simp only [World.size_alloc, World.size_setCell, World.size_drew]; omega))]; first | with_reducible assumption | (simp [go_sem]; done) | (simp [go_sem, *]; done)
  have qa2_3 : w2.cell? ⟨w.heap.size, 3, none⟩ = some (.bool true) := by rw [hc2 _ _ (by first | omega | (simp only [World.size_alloc, World.size_setCell, World.size_drew]; omega))]; first | with_reducible assumption | (simp [go_sem]; done) | (simp [go_sem, *]; done)
  have qa2_4 : w2.cell? ⟨w.heap.size, 4, none⟩ = some (.string ⟨#[]⟩) := by rw [hc2 _ _ (by first | omega | (simp only [World.size_alloc, World.size_setCell, World.size_drew]; omega))]; first | with_reducible assumption | (simp [go_sem]; done) | (simp [go_sem, *]; done)
  have qr2_0 : w2.cell? ⟨w.heap.size + 1, 0, none⟩ = some (.int .u64 0) := by rw [hc2 _ _ (by first | omega | (simp only [World.size_alloc, World.size_setCell, World.size_drew]; omega))]; first | with_reducible assumption | (simp [go_sem]; done) | (simp [go_sem, *]; done)
  have qr2_1 : w2.cell? ⟨w.heap.size + 1, 1, none⟩ = some (.int .u64 0) := by rw [hc2 _ _ (by first | omega | (simp only [World.size_alloc, World.size_setCell, World.size_drew]; omega))]; first | with_reducible assumption | (simp [go_sem]; done) | (simp [go_sem, *]; done)
  have qr2_2 : w2.cell? ⟨w.heap.size + 1, 2, none⟩ = some (.bool false) := by rw [hc2 _ _ (by first | omega | (simp only [World.size_alloc, World.size_setCell, World.size_drew]; omega))]; first | with_reducible assumption | (simp [go_sem]; done) | (simp [go_sem, *]; done)
  have qr2_3 : w2.cell? ⟨w.heap.size + 1, 3, none⟩ = some (.bool false) := by rw [hc2 _ _ (by first | omega | (simp only [World.size_alloc, World.size_setCell, World.size_drew]; omega))]; first | with_reducible assumption | (simp [go_sem]; done) | (simp [go_sem, *]; done)
  have qr2_4 : w2.cell? ⟨w.heap.size + 1, 4, none⟩ = some (.string ⟨#[]⟩) := by rw [hc2 _ _ (by first | omega | (simp only [World.size_alloc, World.size_setCell, World.size_drew]; omega))]; first | with_reducible assumption | (simp [go_sem]; done) | (simp [go_sem, *]; done)
  have qr2_5 : w2.cell? ⟨w.heap.size + 1, 5, none⟩ = some (.int .u8 0) := by rw [hc2 _ _ (by first | omega | (simp only [World.size_alloc, World.size_setCell, World.size_drew]; omega))]; first | with_reducible assumption | (simp [go_sem]; done) | (simp [go_sem, *]; done)
  have hz2_0 : w.heap.size < w2.heap.size := by omega
  have hy2_0 : w.heap.size ≤ w2.heap.size := by omega
  have hz2_1 : w.heap.size + 1 < w2.heap.size := by omega
  have hy2_1 : w.heap.size + 1 ≤ w2.heap.size := by omega
  go_wp2
  refine region_tail 6 (by kernel_rfl) (by kernel_rfl) ?_
  simp only [List.take_succ_cons, List.take_zero, List.drop_succ_cons, List.drop_zero]
  repeat quiet_step (fail)
  quiet_step (with_reducible exact Calls.regrown_of (HM.at _))
  repeat quiet_step (fail)
  quiet_step (with_reducible exact Calls.regrown_of (HA.at _))
  repeat quiet_step (fail)
  refine wpQuiet_nil ?_
  intro w3 hb3
  obtain ⟨hc3, hf3⟩ := rules hb3
  have hs3 := hb3.size
  try simp only [World.size_alloc, World.size_setCell, World.size_drew] at hs3
  have qa3_0 : w3.cell? ⟨w.heap.size, 0, none⟩ = some (.int .u64 hi) := by rw [hc3 _ _ (by first | omega | (simp only [World.size_alloc, World.size_setCell, World.size_drew]; omega))]; first | with_reducible assumption | (simp [go_sem]; done) | (simp [go_sem, *]; done)
  have qa3_1 : w3.cell? ⟨w.heap.size, 1, none⟩ = some (.int .u64 lo) := by rw [hc3 _ _ (by first | omega | (simp only [World.size_alloc, World.size_setCell, World.size_drew]; omega))]; first | with_reducible assumption | (simp [go_sem]; done) | (simp [go_sem, *]; done)
  have qa3_2 : w3.cell? ⟨w.heap.size, 2, none⟩ = some (.bool true) := by rw [hc3 _ _ (by first | omega | (simp only [World.size_alloc, World.size_setCell, World.size_drew]; omega))]; first | with_reducible assumption | (simp [go_sem]; done) | (simp [go_sem, *]; done)
  have qa3_3 : w3.cell? ⟨w.heap.size, 3, none⟩ = some (.bool true) := by rw [hc3 _ _ (by first | omega | (simp only [World.size_alloc, World.size_setCell, World.size_drew]; omega))]; first | with_reducible assumption | (simp [go_sem]; done) | (simp [go_sem, *]; done)
  have qa3_4 : w3.cell? ⟨w.heap.size, 4, none⟩ = some (.string ⟨#[]⟩) := by rw [hc3 _ _ (by first | omega | (simp only [World.size_alloc, World.size_setCell, World.size_drew]; omega))]; first | with_reducible assumption | (simp [go_sem]; done) | (simp [go_sem, *]; done)
  have qr3_0 : w3.cell? ⟨w.heap.size + 1, 0, none⟩ = some (.int .u64 0) := by rw [hc3 _ _ (by first | omega | (simp only [World.size_alloc, World.size_setCell, World.size_drew]; omega))]; first | with_reducible assumption | (simp [go_sem]; done) | (simp [go_sem, *]; done)
  have qr3_1 : w3.cell? ⟨w.heap.size + 1, 1, none⟩ = some (.int .u64 0) := by rw [hc3 _ _ (by first | omega | (simp only [World.size_alloc, World.size_setCell, World.size_drew]; omega))]; first | with_reducible assumption | (simp [go_sem]; done) | (simp [go_sem, *]; done)
  have qr3_2 : w3.cell? ⟨w.heap.size + 1, 2, none⟩ = some (.bool false) := by rw [hc3 _ _ (by first | omega | (simp only [World.size_alloc, World.size_setCell, World.size_drew]; omega))]; first | with_reducible assumption | (simp [go_sem]; done) | (simp [go_sem, *]; done)
  have qr3_3 : w3.cell? ⟨w.heap.size + 1, 3, none⟩ = some (.bool false) := by rw [hc3 _ _ (by first | omega | (simp only [World.size_alloc, World.size_setCell, World.size_drew]; omega))]; first | with_reducible assumption | (simp [go_sem]; done) | (simp [go_sem, *]; done)
  have qr3_4 : w3.cell? ⟨w.heap.size + 1, 4, none⟩ = some (.string ⟨#[]⟩) := by rw [hc3 _ _ (by first | omega | (simp only [World.size_alloc, World.size_setCell, World.size_drew]; omega))]; first | with_reducible assumption | (simp [go_sem]; done) | (simp [go_sem, *]; done)
  have qr3_5 : w3.cell? ⟨w.heap.size + 1, 5, none⟩ = some (.int .u8 0) := by rw [hc3 _ _ (by first | omega | (simp only [World.size_alloc, World.size_setCell, World.size_drew]; omega))]; first | with_reducible assumption | (simp [go_sem]; done) | (simp [go_sem, *]; done)
  have hz3_0 : w.heap.size < w3.heap.size := by omega
  have hy3_0 : w.heap.size ≤ w3.heap.size := by omega
  have hz3_1 : w.heap.size + 1 < w3.heap.size := by omega
  have hy3_1 : w.heap.size + 1 ≤ w3.heap.size := by omega
  go_wp2_with fail
  refine (HP.at _).mono ?_
  rintro e w4 ⟨rfl, hb4⟩
  obtain ⟨hc4, hf4⟩ := rulesB (B := w.heap.size + 2) hb4 (by first | omega | (simp only [World.size_alloc, World.size_setCell, World.size_drew]; omega))
  have hs4 := hb4.size
  try simp only [World.size_alloc, World.size_setCell, World.size_drew] at hs4
  have qr4_0 : w4.cell? ⟨w.heap.size + 1, 0, none⟩ = some (.int .u64 0) := by rw [hc4 _ _ (by first | omega | (simp only [World.size_alloc, World.size_setCell, World.size_drew]; omega))]; first | with_reducible assumption | (simp [go_sem]; done) | (simp [go_sem, *]; done)
  have qr4_1 : w4.cell? ⟨w.heap.size + 1, 1, none⟩ = some (.int .u64 0) := by rw [hc4 _ _ (by first | omega | (simp only [World.size_alloc, World.size_setCell, World.size_drew]; omega))]; first | with_reducible assumption | (simp [go_sem]; done) | (simp [go_sem, *]; done)
  have qr4_2 : w4.cell? ⟨w.heap.size + 1, 2, none⟩ = some (.bool false) := by rw [hc4 _ _ (by first | omega | (simp only [World.size_alloc, World.size_setCell, World.size_drew]; omega))]; first | with_reducible assumption | (simp [go_sem]; done) | (simp [go_sem, *]; done)
  have qr4_3 : w4.cell? ⟨w.heap.size + 1, 3, none⟩ = some (.bool false) := by rw [hc4 _ _ (by first | omega | (simp only [World.size_alloc, World.size_setCell, World.size_drew]; omega))]; first | with_reducible assumption | (simp [go_sem]; done) | (simp [go_sem, *]; done)
  have qr4_4 : w4.cell? ⟨w.heap.size + 1, 4, none⟩ = some (.string ⟨#[]⟩) := by rw [hc4 _ _ (by first | omega | (simp only [World.size_alloc, World.size_setCell, World.size_drew]; omega))]; first | with_reducible assumption | (simp [go_sem]; done) | (simp [go_sem, *]; done)
  have qr4_5 : w4.cell? ⟨w.heap.size + 1, 5, none⟩ = some (.int .u8 0) := by rw [hc4 _ _ (by first | omega | (simp only [World.size_alloc, World.size_setCell, World.size_drew]; omega))]; first | with_reducible assumption | (simp [go_sem]; done) | (simp [go_sem, *]; done)
  go_wp2
  refine bodyPost_ret (v := .tuple #[.agg #[.int .u64 (hx), .int .u64 (lx), .bool true, .bool true, .string ⟨#[]⟩, .int .u8 (n + 1)], .nilIface]) ?_ rfl ⟨rfl, ?_⟩
  · simp [results, Tryd.results49, go_sem, qr4_0, qr4_1, qr4_2, qr4_3, qr4_4, qr4_5]
  repeat (first | with_reducible exact Below.refl _ _ | with_reducible refine Below.setCell ?_ (by first | omega | (simp only [World.size_alloc, World.size_setCell, World.size_drew]; omega)) _ | with_reducible refine Below.alloc ?_ (by first | omega | (simp only [World.size_alloc, World.size_setCell, World.size_drew]; omega)) _ | with_reducible refine Below.drew ?_ | with_reducible refine Below.trans ?_ (hb4.mono (by first | omega | (simp only [World.size_alloc, World.size_setCell, World.size_drew]; omega))) | with_reducible refine Below.trans ?_ (hb3.mono (by first | omega | (simp only [World.size_alloc, World.size_setCell, World.size_drew]; omega))) | with_reducible refine Below.trans ?_ (hb2.mono (by first | omega | (simp only [World.size_alloc, World.size_setCell, World.size_drew]; omega))) | with_reducible refine Below.trans ?_ (hb1.mono (by first | omega | (simp only [World.size_alloc, World.size_setCell, World.size_drew]; omega))))

theorem prefixAddr_any (z : Bool) (hi lo n : Int) : Ret 33 #[.agg #[.int .u64 (hi), .int .u64 (lo), .bool true, .bool z, .string ⟨#[]⟩, .int .u8 (n)]] (.agg #[.int .u64 (hi), .int .u64 (lo), .bool true, .bool z, .string ⟨#[]⟩]) := by
  intro w
  go_enter Tryd.func33, Tryd.ntmps33
  go_wp2
  refine bodyPost_ret (v := .agg #[.int .u64 (hi), .int .u64 (lo), .bool true, .bool z, .string ⟨#[]⟩]) ?_ rfl ⟨rfl, ?_⟩
  · simp [results, Tryd.results33, go_sem]
  repeat (first | with_reducible exact Below.refl _ _ | with_reducible refine Below.setCell ?_ (by first | omega | (simp only [World.size_alloc, World.size_setCell, World.size_drew]; omega)) _ | with_reducible refine Below.alloc ?_ (by first | omega | (simp only [World.size_alloc, World.size_setCell, World.size_drew]; omega)) _ | with_reducible refine Below.drew ?_)

theorem prefixBits_any (z : Bool) (hi lo n : Int) (h0 : 0 ≤ n) (h1 : n < 255) : Ret 35 #[.agg #[.int .u64 (hi), .int .u64 (lo), .bool true, .bool z, .string ⟨#[]⟩, .int .u8 (n + 1)]] (.int .i64 n) := by
  intro w
  have e1 : IntKind.i64.wrap (n + 1) = n + 1 := by rw [IntKind.wrap_i64]; omega
  have e2 : IntKind.i64.wrap n = n := by rw [IntKind.wrap_i64]; omega
  have e3 : n + 1 - 1 = n := by omega
  go_enter Tryd.func35, Tryd.ntmps35
  go_wp2
  go_ret
  refine ⟨rfl, ?_⟩
  repeat (first | with_reducible exact Below.refl _ _ | with_reducible refine Below.setCell ?_ (by first | omega | (simp only [World.size_alloc, World.size_setCell, World.size_drew]; omega)) _ | with_reducible refine Below.alloc ?_ (by first | omega | (simp only [World.size_alloc, World.size_setCell, World.size_drew]; omega)) _ | with_reducible refine Below.drew ?_)

theorem isNaN_any (n : Int) : Ret 50 #[.int .i64 n] (.bool false) := by
  intro w
  go_enter Tryd.func50, Tryd.ntmps50
  go_wp2
  go_ret
  exact ⟨rfl, Below.refl _ _⟩

set_option maxHeartbeats 800000 in
theorem cmp_lt (a b : Int) (d : decide (a < b) = true) : Ret 34 #[.int .i64 a, .int .i64 b] (.int .i64 (-1)) := by
  intro w
  go_enter Tryd.func34, Tryd.ntmps34
  go_wp2_with fail
  refine ((isNaN_any _).at _).mono ?_
  rintro e w1 ⟨rfl, hb1⟩
  obtain ⟨hc1, hf1⟩ := rulesB (B := w.heap.size) hb1 (by first | omega | (simp only [World.size_alloc, World.size_setCell, World.size_drew]; omega))
  have hs1 := hb1.size
  try simp only [World.size_alloc, World.size_setCell, World.size_drew] at hs1
  go_wp2_with fail
  refine ((isNaN_any _).at _).mono ?_
  rintro e w2 ⟨rfl, hb2⟩
  obtain ⟨hc2, hf2⟩ := rulesB (B := w.heap.size) hb2 (by first | omega | (simp only [World.size_alloc, World.size_setCell, World.size_drew]; omega))
  have hs2 := hb2.size
  try simp only [World.size_alloc, World.size_setCell, World.size_drew] at hs2
  go_wp2
  go_ret
  refine ⟨rfl, ?_⟩
  repeat (first | with_reducible exact Below.refl _ _ | with_reducible refine Below.setCell ?_ (by first | omega | (simp only [World.size_alloc, World.size_setCell, World.size_drew]; omega)) _ | with_reducible refine Below.alloc ?_ (by first | omega | (simp only [World.size_alloc, World.size_setCell, World.size_drew]; omega)) _ | with_reducible refine Below.drew ?_ | with_reducible refine Below.trans ?_ (hb2.mono (by first | omega | (simp only [World.size_alloc, World.size_setCell, World.size_drew]; omega))) | with_reducible refine Below.trans ?_ (hb1.mono (by first | omega | (simp only [World.size_alloc, World.size_setCell, World.size_drew]; omega))))
set_option maxHeartbeats 800000 in
theorem cmp_gt (a b : Int) (d : decide (a < b) = false) (d2 : decide (b < a) = true) : Ret 34 #[.int .i64 a, .int .i64 b] (.int .i64 1) := by
  intro w
  go_enter Tryd.func34, Tryd.ntmps34
  go_wp2_with fail
  refine ((isNaN_any _).at _).mono ?_
  rintro e w1 ⟨rfl, hb1⟩
  obtain ⟨hc1, hf1⟩ := rulesB (B := w.heap.size) hb1 (by first | omega | (simp only [World.size_alloc, World.size_setCell, World.size_drew]; omega))
  have hs1 := hb1.size
  try simp only [World.size_alloc, World.size_setCell, World.size_drew] at hs1
  go_wp2_with fail
  refine ((isNaN_any _).at _).mono ?_
  rintro e w2 ⟨rfl, hb2⟩
  obtain ⟨hc2, hf2⟩ := rulesB (B := w.heap.size) hb2 (by first | omega | (simp only [World.size_alloc, World.size_setCell, World.size_drew]; omega))
  have hs2 := hb2.size
  try simp only [World.size_alloc, World.size_setCell, World.size_drew] at hs2
  go_wp2
  go_ret
  refine ⟨rfl, ?_⟩
  repeat (first | with_reducible exact Below.refl _ _ | with_reducible refine Below.setCell ?_ (by first | omega | (simp only [World.size_alloc, World.size_setCell, World.size_drew]; omega)) _ | with_reducible refine Below.alloc ?_ (by first | omega | (simp only [World.size_alloc, World.size_setCell, World.size_drew]; omega)) _ | with_reducible refine Below.drew ?_ | with_reducible refine Below.trans ?_ (hb2.mono (by first | omega | (simp only [World.size_alloc, World.size_setCell, World.size_drew]; omega))) | with_reducible refine Below.trans ?_ (hb1.mono (by first | omega | (simp only [World.size_alloc, World.size_setCell, World.size_drew]; omega))))
set_option maxHeartbeats 800000 in
theorem cmp_eq (a : Int) : Ret 34 #[.int .i64 a, .int .i64 a] (.int .i64 0) := by
  intro w
  go_enter Tryd.func34, Tryd.ntmps34
  go_wp2_with fail
  refine ((isNaN_any _).at _).mono ?_
  rintro e w1 ⟨rfl, hb1⟩
  obtain ⟨hc1, hf1⟩ := rulesB (B := w.heap.size) hb1 (by first | omega | (simp only [World.size_alloc, World.size_setCell, World.size_drew]; omega))
  have hs1 := hb1.size
  try simp only [World.size_alloc, World.size_setCell, World.size_drew] at hs1
  go_wp2_with fail
  refine ((isNaN_any _).at _).mono ?_
  rintro e w2 ⟨rfl, hb2⟩
  obtain ⟨hc2, hf2⟩ := rulesB (B := w.heap.size) hb2 (by first | omega | (simp only [World.size_alloc, World.size_setCell, World.size_drew]; omega))
  have hs2 := hb2.size
  try simp only [World.size_alloc, World.size_setCell, World.size_drew] at hs2
  go_wp2
  go_ret
  refine ⟨rfl, ?_⟩
  repeat (first | with_reducible exact Below.refl _ _ | with_reducible refine Below.setCell ?_ (by first | omega | (simp only [World.size_alloc, World.size_setCell, World.size_drew]; omega)) _ | with_reducible refine Below.alloc ?_ (by first | omega | (simp only [World.size_alloc, World.size_setCell, World.size_drew]; omega)) _ | with_reducible refine Below.drew ?_ | with_reducible refine Below.trans ?_ (hb2.mono (by first | omega | (simp only [World.size_alloc, World.size_setCell, World.size_drew]; omega))) | with_reducible refine Below.trans ?_ (hb1.mono (by first | omega | (simp only [World.size_alloc, World.size_setCell, World.size_drew]; omega))))
theorem cmp_any (a b : Int) : Ret 34 #[.int .i64 a, .int .i64 b] (.int .i64 (sgn a b)) := by
  unfold sgn
  by_cases h : a < b
  · rw [if_pos h]; exact cmp_lt a b (decide_eq_true h)
  · by_cases h2 : b < a
    · rw [if_neg h, if_pos h2]; exact cmp_gt a b (decide_eq_false h) (decide_eq_true h2)
    · obtain rfl : a = b := by omega
      rw [if_neg h, if_neg h]; exact cmp_eq a
end Go.Proofs.YtkploaapcpjkbaaDoor
