/- Contracts: isZero, withoutZone, PrefixFrom, impl.prefix, mask6, and, Addr.Prefix. -/
import Derived.Test.YtkploaapcpjkbaaDoorO5
namespace Go.Proofs.YtkploaapcpjkbaaDoor
open Go Go.RowKit Go.Sort
set_option linter.unusedVariables false
set_option linter.unusedSimpArgs false
attribute [local go_sem] cell_gr

theorem isZero_any (z : Bool) (hi lo : Int) : Ret 47 #[.agg #[.int .u64 (hi), .int .u64 (lo), .bool true, .bool z, .string ⟨#[]⟩]] (.bool false) := by
  intro w
  cases z
  all_goals
    go_enter Tryd.func47, Tryd.ntmps47
    go_wp2
    refine wp_region_quiet_below (by kernel_rfl) (by kernel_rfl) ?_
    repeat quiet_step (fail)
    quiet_step (with_reducible exact Calls.regrown_of (z0_any _))
    repeat quiet_step (fail)
    refine wpQuiet_nil ?_
    intro w1 hb1
    replace hb1 := below_of hb1
    obtain ⟨hc1, hf1⟩ := rules hb1
    have hs1 := hb1.size
    try simp only [World.size_alloc, World.size_setCell, World.size_drew] at hs1
    go_wp2
    go_ret
    refine ⟨rfl, ?_⟩
    repeat (first | with_reducible exact Below.refl _ _ | with_reducible refine Below.setCell ?_ (by first | omega | (simp only [World.size_alloc, World.size_setCell, World.size_drew]; omega)) _ | with_reducible refine Below.alloc ?_ (by first | omega | (simp only [World.size_alloc, World.size_setCell, World.size_drew]; omega)) _ | with_reducible refine Below.drew ?_ | with_reducible refine Below.trans ?_ (hb1.mono (by first | omega | (simp only [World.size_alloc, World.size_setCell, World.size_drew]; omega))))

theorem withoutZone_any (z : Bool) (hi lo : Int) : Ret 48 #[.agg #[.int .u64 (hi), .int .u64 (lo), .bool true, .bool z, .string ⟨#[]⟩]] (.agg #[.int .u64 (hi), .int .u64 (lo), .bool true, .bool z, .string ⟨#[]⟩]) := by
  intro w
  cases z
  · go_enter Tryd.func48, Tryd.ntmps48
    go_wp2_with fail
    refine (is6_any false _ _ _).mono ?_
    rintro e w1 ⟨rfl, hb1⟩
    obtain ⟨hc1, hf1⟩ := rulesB (B := w.heap.size + 2) hb1 (by first | omega | (simp only [World.size_alloc, World.size_setCell, World.size_drew]; omega))
    have hs1 := hb1.size
    try simp only [World.size_alloc, World.size_setCell, World.size_drew] at hs1
    go_wp2
    refine bodyPost_ret (v := .agg #[.int .u64 (hi), .int .u64 (lo), .bool true, .bool false, .string ⟨#[]⟩]) ?_ rfl ⟨rfl, ?_⟩
    · simp [results, Tryd.results48, go_sem, hc1]
    repeat (first | with_reducible exact Below.refl _ _ | with_reducible refine Below.setCell ?_ (by first | omega | (simp only [World.size_alloc, World.size_setCell, World.size_drew]; omega)) _ | with_reducible refine Below.alloc ?_ (by first | omega | (simp only [World.size_alloc, World.size_setCell, World.size_drew]; omega)) _ | with_reducible refine Below.drew ?_ | with_reducible refine Below.trans ?_ (hb1.mono (by first | omega | (simp only [World.size_alloc, World.size_setCell, World.size_drew]; omega))))
  · go_enter Tryd.func48, Tryd.ntmps48
    go_wp2_with fail
    refine (is6_any true _ _ _).mono ?_
    rintro e w1 ⟨rfl, hb1⟩
    obtain ⟨hc1, hf1⟩ := rulesB (B := w.heap.size + 2) hb1 (by first | omega | (simp only [World.size_alloc, World.size_setCell, World.size_drew]; omega))
    have hs1 := hb1.size
    try simp only [World.size_alloc, World.size_setCell, World.size_drew] at hs1
    have qa1_0 : w1.cell? ⟨w.heap.size, 0, none⟩ = some (.int .u64 hi) := by rw [hc1 _ _ (by first | omega | (simp only [World.size_alloc, World.size_setCell, World.size_drew]; omega))]; first | with_reducible assumption | (simp [go_sem]; done) | (simp [go_sem, *]; done)
    have qa1_1 : w1.cell? ⟨w.heap.size, 1, none⟩ = some (.int .u64 lo) := by rw [hc1 _ _ (by first | omega | (simp only [World.size_alloc, World.size_setCell, World.size_drew]; omega))]; first | with_reducible assumption | (simp [go_sem]; done) | (simp [go_sem, *]; done)
    have qa1_2 : w1.cell? ⟨w.heap.size, 2, none⟩ = some (.bool true) := by rw [hc1 _ _ (by first | omega | (simp only [World.size_alloc, World.size_setCell, World.size_drew]; omega))]; first | with_reducible assumption | (simp [go_sem]; done) | (simp [go_sem, *]; done)
    have qa1_3 : w1.cell? ⟨w.heap.size, 3, none⟩ = some (.bool true) := by rw [hc1 _ _ (by first | omega | (simp only [World.size_alloc, World.size_setCell, World.size_drew]; omega))]; first | with_reducible assumption | (simp [go_sem]; done) | (simp [go_sem, *]; done)
    have qa1_4 : w1.cell? ⟨w.heap.size, 4, none⟩ = some (.string ⟨#[]⟩) := by rw [hc1 _ _ (by first | omega | (simp only [World.size_alloc, World.size_setCell, World.size_drew]; omega))]; first | with_reducible assumption | (simp [go_sem]; done) | (simp [go_sem, *]; done)
    have hz1_0 : w.heap.size < w1.heap.size := by omega
    have hy1_0 : w.heap.size ≤ w1.heap.size := by omega
    have hz1_1 : w.heap.size + 1 < w1.heap.size := by omega
    have hy1_1 : w.heap.size + 1 ≤ w1.heap.size := by omega
    go_wp2_with fail
    refine (z6noz_any _).mono ?_
    rintro e w2 ⟨rfl, hb2⟩
    obtain ⟨hc2, hf2⟩ := rulesB (B := w.heap.size + 2) hb2 (by first | omega | (simp only [World.size_alloc, World.size_setCell, World.size_drew]; omega))
    have hs2 := hb2.size
    try simp only [World.size_alloc, World.size_setCell, World.size_drew] at hs2
    have qa2_0 : w2.cell? ⟨w.heap.size, 0, none⟩ = some (.int .u64 hi) := by rw [hc2 _ _ (by first | omega | (simp only [World.size_alloc, World.size_setCell, World.size_drew]; omega))]; first | with_reducible assumption | (simp [go_sem]; done) | (simp [go_sem, *]; done)
    have qa2_1 : w2.cell? ⟨w.heap.size, 1, none⟩ = some (.int .u64 lo) := by rw [hc2 _ _ (by first | omega | (simp only [World.size_alloc, World.size_setCell, World.size_drew]; omega))]; first | with_reducible assumption | (simp [go_sem]; done) | (simp [go_sem, *]; done)
    have qa2_2 : w2.cell? ⟨w.heap.size, 2, none⟩ = some (.bool true) := by rw [hc2 _ _ (by first | omega | (simp only [World.size_alloc, World.size_setCell, World.size_drew]; omega))]; first | with_reducible assumption | (simp [go_sem]; done) | (simp [go_sem, *]; done)
    have qa2_3 : w2.cell? ⟨w.heap.size, 3, none⟩ = some (.bool true) := by rw [hc2 _ _ (by first | omega | (simp only [World.size_alloc, World.size_setCell, World.size_drew]; omega))]; first | with_reducible assumption | (simp [go_sem]; done) | (simp [go_sem, *]; done)
    have qa2_4 : w2.cell? ⟨w.heap.size, 4, none⟩ = some (.string ⟨#[]⟩) := by rw [hc2 _ _ (by first | omega | (simp only [World.size_alloc, World.size_setCell, World.size_drew]; omega))]; first | with_reducible assumption | (simp [go_sem]; done) | (simp [go_sem, *]; done)
    have hz2_0 : w.heap.size < w2.heap.size := by omega
    have hy2_0 : w.heap.size ≤ w2.heap.size := by omega
    have hz2_1 : w.heap.size + 1 < w2.heap.size := by omega
    have hy2_1 : w.heap.size + 1 ≤ w2.heap.size := by omega
    go_wp2
    refine bodyPost_ret (v := .agg #[.int .u64 (hi), .int .u64 (lo), .bool true, .bool true, .string ⟨#[]⟩]) ?_ rfl ⟨rfl, ?_⟩
    · simp [results, Tryd.results48, go_sem, hc1, hc2]
    repeat (first | with_reducible exact Below.refl _ _ | with_reducible refine Below.setCell ?_ (by first | omega | (simp only [World.size_alloc, World.size_setCell, World.size_drew]; omega)) _ | with_reducible refine Below.alloc ?_ (by first | omega | (simp only [World.size_alloc, World.size_setCell, World.size_drew]; omega)) _ | with_reducible refine Below.drew ?_ | with_reducible refine Below.trans ?_ (hb2.mono (by first | omega | (simp only [World.size_alloc, World.size_setCell, World.size_drew]; omega))) | with_reducible refine Below.trans ?_ (hb1.mono (by first | omega | (simp only [World.size_alloc, World.size_setCell, World.size_drew]; omega))))


set_option maxHeartbeats 1600000 in
theorem prefixFrom_v4 (hi lo n : Int) (h0 : 0 ≤ n) (h1 : n ≤ 32) : Ret 31 #[.agg #[.int .u64 (hi), .int .u64 (lo), .bool true, .bool false, .string ⟨#[]⟩], .int .i64 n] (.agg #[.int .u64 (hi), .int .u64 (lo), .bool true, .bool false, .string ⟨#[]⟩, .int .u8 (n + 1)]) := by
  intro w
  have e1 : IntKind.u8.wrap n = n := by rw [IntKind.wrap_u8]; omega
  have e2 : IntKind.u8.wrap (n + 1) = n + 1 := by rw [IntKind.wrap_u8]; omega
  go_enter Tryd.func31, Tryd.ntmps31
  go_wp2_with fail
  refine ((isZero_any _ _ _).at _).mono ?_
  rintro e w1 ⟨rfl, hb1⟩
  obtain ⟨hc1, hf1⟩ := rulesB (B := w.heap.size + 2) hb1 (by first | omega | (simp only [World.size_alloc, World.size_setCell, World.size_drew]; omega))
  have hs1 := hb1.size
  try simp only [World.size_alloc, World.size_setCell, World.size_drew] at hs1
  go_wp2_with fail
  refine ((bitLen_v4 _ _).at _).mono ?_
  rintro e w2 ⟨rfl, hb2⟩
  obtain ⟨hc2, hf2⟩ := rulesB (B := w.heap.size + 2) hb2 (by first | omega | (simp only [World.size_alloc, World.size_setCell, World.size_drew]; omega))
  have hs2 := hb2.size
  try simp only [World.size_alloc, World.size_setCell, World.size_drew] at hs2
  go_wp2_with fail
  refine ((withoutZone_any _ _ _).at _).mono ?_
  rintro e w3 ⟨rfl, hb3⟩
  obtain ⟨hc3, hf3⟩ := rulesB (B := w.heap.size + 2) hb3 (by first | omega | (simp only [World.size_alloc, World.size_setCell, World.size_drew]; omega))
  have hs3 := hb3.size
  try simp only [World.size_alloc, World.size_setCell, World.size_drew] at hs3
  go_wp2
  refine bodyPost_ret (v := .agg #[.int .u64 (hi), .int .u64 (lo), .bool true, .bool false, .string ⟨#[]⟩, .int .u8 (n + 1)]) ?_ rfl ⟨rfl, ?_⟩
  · simp [results, Tryd.results31, go_sem, hc1, hc2, hc3]
  repeat (first | with_reducible exact Below.refl _ _ | with_reducible refine Below.setCell ?_ (by first | omega | (simp only [World.size_alloc, World.size_setCell, World.size_drew]; omega)) _ | with_reducible refine Below.alloc ?_ (by first | omega | (simp only [World.size_alloc, World.size_setCell, World.size_drew]; omega)) _ | with_reducible refine Below.drew ?_ | with_reducible refine Below.trans ?_ (hb3.mono (by first | omega | (simp only [World.size_alloc, World.size_setCell, World.size_drew]; omega))) | with_reducible refine Below.trans ?_ (hb2.mono (by first | omega | (simp only [World.size_alloc, World.size_setCell, World.size_drew]; omega))) | with_reducible refine Below.trans ?_ (hb1.mono (by first | omega | (simp only [World.size_alloc, World.size_setCell, World.size_drew]; omega))))

set_option maxHeartbeats 1600000 in
theorem prefixFrom_v6 (hi lo n : Int) (h0 : 0 ≤ n) (h1 : n ≤ 128) : Ret 31 #[.agg #[.int .u64 (hi), .int .u64 (lo), .bool true, .bool true, .string ⟨#[]⟩], .int .i64 n] (.agg #[.int .u64 (hi), .int .u64 (lo), .bool true, .bool true, .string ⟨#[]⟩, .int .u8 (n + 1)]) := by
  intro w
  have e1 : IntKind.u8.wrap n = n := by rw [IntKind.wrap_u8]; omega
  have e2 : IntKind.u8.wrap (n + 1) = n + 1 := by rw [IntKind.wrap_u8]; omega
  go_enter Tryd.func31, Tryd.ntmps31
  go_wp2_with fail
  refine ((isZero_any _ _ _).at _).mono ?_
  rintro e w1 ⟨rfl, hb1⟩
  obtain ⟨hc1, hf1⟩ := rulesB (B := w.heap.size + 2) hb1 (by first | omega | (simp only [World.size_alloc, World.size_setCell, World.size_drew]; omega))
  have hs1 := hb1.size
  try simp only [World.size_alloc, World.size_setCell, World.size_drew] at hs1
  go_wp2_with fail
  refine ((bitLen_v6 _ _).at _).mono ?_
  rintro e w2 ⟨rfl, hb2⟩
  obtain ⟨hc2, hf2⟩ := rulesB (B := w.heap.size + 2) hb2 (by first | omega | (simp only [World.size_alloc, World.size_setCell, World.size_drew]; omega))
  have hs2 := hb2.size
  try simp only [World.size_alloc, World.size_setCell, World.size_drew] at hs2
  go_wp2_with fail
  refine ((withoutZone_any _ _ _).at _).mono ?_
  rintro e w3 ⟨rfl, hb3⟩
  obtain ⟨hc3, hf3⟩ := rulesB (B := w.heap.size + 2) hb3 (by first | omega | (simp only [World.size_alloc, World.size_setCell, World.size_drew]; omega))
  have hs3 := hb3.size
  try simp only [World.size_alloc, World.size_setCell, World.size_drew] at hs3
  go_wp2
  refine bodyPost_ret (v := .agg #[.int .u64 (hi), .int .u64 (lo), .bool true, .bool true, .string ⟨#[]⟩, .int .u8 (n + 1)]) ?_ rfl ⟨rfl, ?_⟩
  · simp [results, Tryd.results31, go_sem, hc1, hc2, hc3]
  repeat (first | with_reducible exact Below.refl _ _ | with_reducible refine Below.setCell ?_ (by first | omega | (simp only [World.size_alloc, World.size_setCell, World.size_drew]; omega)) _ | with_reducible refine Below.alloc ?_ (by first | omega | (simp only [World.size_alloc, World.size_setCell, World.size_drew]; omega)) _ | with_reducible refine Below.drew ?_ | with_reducible refine Below.trans ?_ (hb3.mono (by first | omega | (simp only [World.size_alloc, World.size_setCell, World.size_drew]; omega))) | with_reducible refine Below.trans ?_ (hb2.mono (by first | omega | (simp only [World.size_alloc, World.size_setCell, World.size_drew]; omega))) | with_reducible refine Below.trans ?_ (hb1.mono (by first | omega | (simp only [World.size_alloc, World.size_setCell, World.size_drew]; omega))))

theorem prefixFrom_any (z : Bool) (hi lo n : Int) (h0 : 0 ≤ n) (h1 : n ≤ wide z) : Ret 31 #[.agg #[.int .u64 (hi), .int .u64 (lo), .bool true, .bool z, .string ⟨#[]⟩], .int .i64 n] (.agg #[.int .u64 (hi), .int .u64 (lo), .bool true, .bool z, .string ⟨#[]⟩, .int .u8 (n + 1)]) := by
  cases z
  · exact prefixFrom_v4 hi lo n h0 h1
  · exact prefixFrom_v6 hi lo n h0 h1

set_option maxHeartbeats 800000 in
theorem implPrefix_of (six z : Bool) (hi lo hx lx n m : Int) (GA : Ret 15 #[.agg #[.bool six, .int .u64 (hi), .int .u64 (lo)]] (.agg #[.int .u64 (hx), .int .u64 (lx), .bool true, .bool z, .string ⟨#[]⟩])) (GB : Ret 31 #[.agg #[.int .u64 (hx), .int .u64 (lx), .bool true, .bool z, .string ⟨#[]⟩], .int .i64 n] (.agg #[.int .u64 (hx), .int .u64 (lx), .bool true, .bool z, .string ⟨#[]⟩, .int .u8 (m)])) :
    Ret 18 #[.agg #[.bool six, .int .u64 (hi), .int .u64 (lo), .int .i64 (n)]] (.agg #[.int .u64 (hx), .int .u64 (lx), .bool true, .bool z, .string ⟨#[]⟩, .int .u8 (m)]) := by
  intro w
  go_enter Tryd.func18, Tryd.ntmps18
  go_wp2
  refine region_tail 6 (by kernel_rfl) (by kernel_rfl) ?_
  simp only [List.take_succ_cons, List.take_zero, List.drop_succ_cons, List.drop_zero]
  repeat quiet_step (fail)
  quiet_step (with_reducible exact Calls.regrown_of (GA.at _))
  repeat quiet_step (fail)
  quiet_step (with_reducible exact Calls.regrown_of (GB.at _))
  repeat quiet_step (fail)
  refine wpQuiet_nil ?_
  intro w1 hb1
  obtain ⟨hc1, hf1⟩ := rules hb1
  have hs1 := hb1.size
  try simp only [World.size_alloc, World.size_setCell, World.size_drew] at hs1
  go_wp2
  refine bodyPost_ret (v := .agg #[.int .u64 (hx), .int .u64 (lx), .bool true, .bool z, .string ⟨#[]⟩, .int .u8 (m)]) ?_ rfl ⟨rfl, ?_⟩
  · simp [results, Tryd.results18, go_sem, hc1]
  repeat (first | with_reducible exact Below.refl _ _ | with_reducible refine Below.setCell ?_ (by first | omega | (simp only [World.size_alloc, World.size_setCell, World.size_drew]; omega)) _ | with_reducible refine Below.alloc ?_ (by first | omega | (simp only [World.size_alloc, World.size_setCell, World.size_drew]; omega)) _ | with_reducible refine Below.drew ?_ | with_reducible refine Below.trans ?_ (hb1.mono (by first | omega | (simp only [World.size_alloc, World.size_setCell, World.size_drew]; omega))))

set_option maxHeartbeats 800000 in
theorem mask6_of (n k x y : Int) (i j : Nat) (h0 : 0 ≤ n) (H : IntKind.i64.wrap (128 - n) = k) (hk : 0 ≤ k) (hi : min n.toNat 64 = i) (hj : min k.toNat 64 = j)
    (hx : bits BinOp.xor IntKind.u64 IntKind.u64.max (18446744073709551615 / 2 ^ i) = x) (hy : IntKind.u64.wrap (18446744073709551615 * 2 ^ j) = y) : Ret 65 #[.int .i64 n] (.agg #[.int .u64 (x), .int .u64 (y)]) := by
  intro w
  go_enter Tryd.func65, Tryd.ntmps65
  go_wp2
  refine region_tail 7 (by kernel_rfl) (by kernel_rfl) ?_
  simp only [List.take_succ_cons, List.take_zero, List.drop_succ_cons, List.drop_zero]
  repeat quiet_step (fail)
  refine wpQuiet_nil ?_
  intro w1 hb1
  obtain ⟨hc1, hf1⟩ := rules hb1
  have hs1 := hb1.size
  try simp only [World.size_alloc, World.size_setCell, World.size_drew] at hs1
  go_wp2
  refine bodyPost_ret (v := .agg #[.int .u64 (x), .int .u64 (y)]) ?_ rfl ⟨rfl, ?_⟩
  · simp [results, Tryd.results65, go_sem, hc1, IntKind.signed, hx]
  repeat (first | with_reducible exact Below.refl _ _ | with_reducible refine Below.setCell ?_ (by first | omega | (simp only [World.size_alloc, World.size_setCell, World.size_drew]; omega)) _ | with_reducible refine Below.alloc ?_ (by first | omega | (simp only [World.size_alloc, World.size_setCell, World.size_drew]; omega)) _ | with_reducible refine Below.drew ?_ | with_reducible refine Below.trans ?_ (hb1.mono (by first | omega | (simp only [World.size_alloc, World.size_setCell, World.size_drew]; omega))))

theorem and_of (a b c d x y : Int) (hx : bits .and .u64 a c = x) (hy : bits .and .u64 b d = y) : Ret 64 #[.agg #[.int .u64 (a), .int .u64 (b)], .agg #[.int .u64 (c), .int .u64 (d)]] (.agg #[.int .u64 (x), .int .u64 (y)]) := by
  intro w
  go_enter Tryd.func64, Tryd.ntmps64
  go_wp2
  refine bodyPost_ret (v := .agg #[.int .u64 (x), .int .u64 (y)]) ?_ rfl ⟨rfl, ?_⟩
  · simp [results, Tryd.results64, go_sem]
  repeat (first | with_reducible exact Below.refl _ _ | with_reducible refine Below.setCell ?_ (by first | omega | (simp only [World.size_alloc, World.size_setCell, World.size_drew]; omega)) _ | with_reducible refine Below.alloc ?_ (by first | omega | (simp only [World.size_alloc, World.size_setCell, World.size_drew]; omega)) _ | with_reducible refine Below.drew ?_)
end Go.Proofs.YtkploaapcpjkbaaDoor
