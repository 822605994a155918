/- Plain arithmetic of masks; contracts: Prefix.Masked of an address as given, Prefix.Compare, impl.ComparePrefixes. -/
import Derived.Test.YtkploaapcpjkbaaDoorO8
namespace Go.Proofs.YtkploaapcpjkbaaDoor
open Go Go.RowKit Go.Sort
set_option linter.unusedVariables false
set_option linter.unusedSimpArgs false
attribute [local go_sem] cell_gr

theorem mask_hi : ∀ i : Fin 65, bits BinOp.xor IntKind.u64 IntKind.u64.max (18446744073709551615 / 2 ^ i.val) = (2 ^ i.val - 1) * 2 ^ (64 - i.val) := by decide +kernel
theorem mask_lo : ∀ j : Fin 65, IntKind.u64.wrap (18446744073709551615 * 2 ^ j.val) = (2 ^ (64 - j.val) - 1) * 2 ^ j.val := by decide +kernel

theorem mask6_any (n : Int) (i j : Nat) (h0 : 0 ≤ n) (h1 : n ≤ 128) (hi : min n.toNat 64 = i) (hj : min (128 - n).toNat 64 = j) : Ret 65 #[.int .i64 n] (.agg #[.int .u64 ((2 ^ i - 1) * 2 ^ (64 - i)), .int .u64 ((2 ^ (64 - j) - 1) * 2 ^ j)]) :=
  mask6_of n (128 - n) _ _ i j h0 (by rw [IntKind.wrap_i64]; omega) (by omega) hi hj (mask_hi ⟨i, by omega⟩) (mask_lo ⟨j, by omega⟩)
theorem and_any (i j : Nat) (hi lo : Int) (h0 : 0 ≤ hi) (h1 : hi < 18446744073709551616) (l0 : 0 ≤ lo) (l1 : lo < 18446744073709551616) (hi64 : i ≤ 64) (hj64 : j ≤ 64) :
    Ret 64 #[.agg #[.int .u64 (hi), .int .u64 (lo)], .agg #[.int .u64 ((2 ^ i - 1) * 2 ^ (64 - i)), .int .u64 ((2 ^ (64 - j) - 1) * 2 ^ j)]] (.agg #[.int .u64 (hi / 2 ^ (64 - i) * 2 ^ (64 - i)), .int .u64 (lo / 2 ^ j * 2 ^ j)]) :=
  and_of _ _ _ _ _ _ (u64_high (64 - i) (by omega) hi _ h0 h1 (by rw [show 64 - (64 - i) = i by omega])) (u64_high j hj64 lo _ l0 l1 rfl)

/-- Whoever is a multiple stays. -/
theorem floor_add (a x : Int) (j : Nat) (hj : j ≤ 32) (ha : a = 65535 * 4294967296) : (a + x) / 2 ^ j * 2 ^ j = a + x / 2 ^ j * 2 ^ j := by
  have hp : (2 : Int) ^ j ≠ 0 := by have : (0 : Int) < 2 ^ j := Int.pow_pos (by decide); omega
  have e : (4294967296 : Int) = 2 ^ (32 - j) * 2 ^ j := by rw [← Int.pow_add, show 32 - j + j = 32 by omega]; decide
  have e2 : a = (65535 * 2 ^ (32 - j)) * 2 ^ j := by rw [ha, e, Int.mul_assoc]
  rw [e2, Int.add_comm, Int.add_mul_ediv_right _ _ hp, Int.add_mul, Int.add_comm]

theorem masked_given {six : Bool} {hi lo n : Int} (h : InAd six hi lo) (h0 : 0 ≤ n) (h1 : n ≤ wide six) : Ret 32 #[.agg #[.int .u64 (gh six hi), .int .u64 (gl six lo), .bool true, .bool six, .string ⟨#[]⟩, .int .u8 (n + 1)]] (.agg #[.int .u64 (gh six (mh six hi n)), .int .u64 (gl six (ml six lo n)), .bool true, .bool six, .string ⟨#[]⟩, .int .u8 (n + 1)]) := by
  cases six
  · have h1' : n ≤ 32 := h1
    have f := h.four rfl
    have e1 : (0 : Int) / 2 ^ (64 - 64) * 2 ^ (64 - 64) = 0 := by decide
    have e2 : (281470681743360 + lo) / 2 ^ (32 - n).toNat * 2 ^ (32 - n).toNat = 281470681743360 + lo / 2 ^ (32 - n).toNat * 2 ^ (32 - n).toNat := floor_add _ _ _ (by omega) (by decide)
    have M := mask6_any (n + 96) 64 (32 - n).toNat (by omega) (by omega) (by omega) (by omega)
    have A := and_any 64 (32 - n).toNat 0 (281470681743360 + lo) (by omega) (by omega) (by have := h.l0; omega) (by omega) (by omega) (by omega)
    rw [e1, e2] at A
    have P := prefixFrom_any false 0 (281470681743360 + lo / 2 ^ (32 - n).toNat * 2 ^ (32 - n).toNat) n h0 h1
    exact masked_of false 0 _ n _ _ (prefixBits_any _ _ _ _ h0 (by omega)) (addrPrefix_v4 _ n _ _ _ _ _ h0 h1' rfl M A P)
  · have h1' : n ≤ 128 := h1
    by_cases c : n ≤ 64
    · have M := mask6_any n n.toNat 64 h0 h1' (by omega) (by omega)
      have A := and_any n.toNat 64 hi lo h.h0 h.h1 h.l0 h.l1 (by omega) (by omega)
      have e1 : lo / 2 ^ 64 * 2 ^ 64 = 0 := by have := h.l0; have := h.l1; omega
      rw [e1, show 64 - n.toNat = (64 - n).toNat by omega] at A
      rw [show 64 - n.toNat = (64 - n).toNat by omega] at M
      have P := prefixFrom_any true (hi / 2 ^ (64 - n).toNat * 2 ^ (64 - n).toNat) 0 n h0 h1
      simp only [gh, gl, mh, ml, if_true, if_pos c]
      exact masked_of true hi lo n _ _ (prefixBits_any _ _ _ _ h0 (by omega)) (addrPrefix_v6 hi lo n _ _ _ _ h0 h1' M A P)
    · have M := mask6_any n 64 (128 - n).toNat h0 h1' (by omega) (by omega)
      have A := and_any 64 (128 - n).toNat hi lo h.h0 h.h1 h.l0 h.l1 (by omega) (by omega)
      have e1 : hi / 2 ^ (64 - 64) * 2 ^ (64 - 64) = hi := by simp
      rw [e1] at A
      have P := prefixFrom_any true hi (lo / 2 ^ (128 - n).toNat * 2 ^ (128 - n).toNat) n h0 h1
      simp only [gh, gl, mh, ml, if_true, if_neg c]
      exact masked_of true hi lo n _ _ (prefixBits_any _ _ _ _ h0 (by omega)) (addrPrefix_v6 hi lo n _ _ _ _ h0 h1' M A P)

section
variable (sa sb : Bool) (ha la n hb lb m hx lx hy ly c : Int)

set_option maxHeartbeats 1600000 in
theorem pfxCompare_ne (HA : Ret 32 #[.agg #[.int .u64 (ha), .int .u64 (la), .bool true, .bool sa, .string ⟨#[]⟩, .int .u8 (n + 1)]] (.agg #[.int .u64 (hx), .int .u64 (lx), .bool true, .bool sa, .string ⟨#[]⟩, .int .u8 (n + 1)])) (HB : Ret 32 #[.agg #[.int .u64 (hb), .int .u64 (lb), .bool true, .bool sb, .string ⟨#[]⟩, .int .u8 (m + 1)]] (.agg #[.int .u64 (hy), .int .u64 (ly), .bool true, .bool sb, .string ⟨#[]⟩, .int .u8 (m + 1)]))
    (HC : Ret 16 #[.agg #[.int .u64 (hx), .int .u64 (lx), .bool true, .bool sa, .string ⟨#[]⟩], .agg #[.int .u64 (hy), .int .u64 (ly), .bool true, .bool sb, .string ⟨#[]⟩]] (.int .i64 c)) (hc : (c == 0) = false) : Ret 19 #[.agg #[.int .u64 (ha), .int .u64 (la), .bool true, .bool sa, .string ⟨#[]⟩, .int .u8 (n + 1)], .agg #[.int .u64 (hb), .int .u64 (lb), .bool true, .bool sb, .string ⟨#[]⟩, .int .u8 (m + 1)]] (.int .i64 c) := by
  intro w
  go_enter Tryd.func19, Tryd.ntmps19
  go_wp2
  refine wp_region_quiet_below (by kernel_rfl) (by kernel_rfl) ?_
  repeat quiet_step (fail)
  quiet_step (with_reducible exact Calls.regrown_of (HA.at _))
  repeat quiet_step (fail)
  quiet_step (with_reducible exact Calls.regrown_of ((prefixAddr_any _ _ _ _).at _))
  repeat quiet_step (fail)
  quiet_step (with_reducible exact Calls.regrown_of (HB.at _))
  repeat quiet_step (fail)
  quiet_step (with_reducible exact Calls.regrown_of ((prefixAddr_any _ _ _ _).at _))
  repeat quiet_step (fail)
  quiet_step (with_reducible exact Calls.regrown_of (HC.at _))
  repeat quiet_step (fail)
  refine wpQuiet_nil ?_
  intro w1 hb1
  replace hb1 := below_of hb1
  obtain ⟨hc1, hf1⟩ := rules hb1
  have hs1 := hb1.size
  try simp only [World.size_alloc, World.size_setCell, World.size_drew] at hs1
  go_wp2
  go_ret
  refine ⟨rfl, ?_⟩
  repeat (first | with_reducible exact Below.refl _ _ | with_reducible refine Below.setCell ?_ (by first | omega | (simp only [World.size_alloc, World.size_setCell, World.size_drew]; omega)) _ | with_reducible refine Below.alloc ?_ (by first | omega | (simp only [World.size_alloc, World.size_setCell, World.size_drew]; omega)) _ | with_reducible refine Below.drew ?_ | with_reducible refine Below.trans ?_ (hb1.mono (by first | omega | (simp only [World.size_alloc, World.size_setCell, World.size_drew]; omega))))

set_option maxHeartbeats 1600000 in
theorem pfxCompare_bits (HA : Ret 32 #[.agg #[.int .u64 (ha), .int .u64 (la), .bool true, .bool sa, .string ⟨#[]⟩, .int .u8 (n + 1)]] (.agg #[.int .u64 (hx), .int .u64 (lx), .bool true, .bool sa, .string ⟨#[]⟩, .int .u8 (n + 1)])) (HB : Ret 32 #[.agg #[.int .u64 (hb), .int .u64 (lb), .bool true, .bool sb, .string ⟨#[]⟩, .int .u8 (m + 1)]] (.agg #[.int .u64 (hy), .int .u64 (ly), .bool true, .bool sb, .string ⟨#[]⟩, .int .u8 (m + 1)]))
    (HC : Ret 16 #[.agg #[.int .u64 (hx), .int .u64 (lx), .bool true, .bool sa, .string ⟨#[]⟩], .agg #[.int .u64 (hy), .int .u64 (ly), .bool true, .bool sb, .string ⟨#[]⟩]] (.int .i64 0)) (n0 : 0 ≤ n) (n1 : n < 255) (m0 : 0 ≤ m) (m1 : m < 255) (hn : (c == 0) = false) (HS : Ret 34 #[.int .i64 n, .int .i64 m] (.int .i64 c)) : Ret 19 #[.agg #[.int .u64 (ha), .int .u64 (la), .bool true, .bool sa, .string ⟨#[]⟩, .int .u8 (n + 1)], .agg #[.int .u64 (hb), .int .u64 (lb), .bool true, .bool sb, .string ⟨#[]⟩, .int .u8 (m + 1)]] (.int .i64 c) := by
  intro w
  go_enter Tryd.func19, Tryd.ntmps19
  go_wp2
  refine wp_region_quiet_below (by kernel_rfl) (by kernel_rfl) ?_
  repeat quiet_step (fail)
  quiet_step (with_reducible exact Calls.regrown_of (HA.at _))
  repeat quiet_step (fail)
  quiet_step (with_reducible exact Calls.regrown_of ((prefixAddr_any _ _ _ _).at _))
  repeat quiet_step (fail)
  quiet_step (with_reducible exact Calls.regrown_of (HB.at _))
  repeat quiet_step (fail)
  quiet_step (with_reducible exact Calls.regrown_of ((prefixAddr_any _ _ _ _).at _))
  repeat quiet_step (fail)
  quiet_step (with_reducible exact Calls.regrown_of (HC.at _))
  repeat quiet_step (fail)
  refine wpQuiet_nil ?_
  intro w1 hb1
  replace hb1 := below_of hb1
  obtain ⟨hc1, hf1⟩ := rules hb1
  have hs1 := hb1.size
  try simp only [World.size_alloc, World.size_setCell, World.size_drew] at hs1
  have qa1_0 : w1.cell? ⟨w.heap.size, 0, none⟩ = some (.int .u64 ha) := by rw [hc1 _ _ (by first | omega | (simp only [World.size_alloc, World.size_setCell, World.size_drew]; omega))]; first | with_reducible assumption | (simp [go_sem]; done) | (simp [go_sem, *]; done)
  have qa1_1 : w1.cell? ⟨w.heap.size, 1, none⟩ = some (.int .u64 la) := by rw [hc1 _ _ (by first | omega | (simp only [World.size_alloc, World.size_setCell, World.size_drew]; omega))]; first | with_reducible assumption | (simp [go_sem]; done) | (simp [go_sem, *]; done)
  have qa1_2 : w1.cell? ⟨w.heap.size, 2, none⟩ = some (.bool true) := by rw [hc1 _ _ (by first | omega | (simp only [World.size_alloc, World.size_setCell, World.size_drew]; omega))]; first | with_reducible assumption | (simp [go_sem]; done) | (simp [go_sem, *]; done)
  have qa1_3 : w1.cell? ⟨w.heap.size, 3, none⟩ = some (.bool sa) := by rw [hc1 _ _ (by first | omega | (simp only [World.size_alloc, World.size_setCell, World.size_drew]; omega))]; first | with_reducible assumption | (simp [go_sem]; done) | (simp [go_sem, *]; done)
  have qa1_4 : w1.cell? ⟨w.heap.size, 4, none⟩ = some (.string ⟨#[]⟩) := by rw [hc1 _ _ (by first | omega | (simp only [World.size_alloc, World.size_setCell, World.size_drew]; omega))]; first | with_reducible assumption | (simp [go_sem]; done) | (simp [go_sem, *]; done)
  have qa1_5 : w1.cell? ⟨w.heap.size, 5, none⟩ = some (.int .u8 (n + 1)) := by rw [hc1 _ _ (by first | omega | (simp only [World.size_alloc, World.size_setCell, World.size_drew]; omega))]; first | with_reducible assumption | (simp [go_sem]; done) | (simp [go_sem, *]; done)
  have qb1_0 : w1.cell? ⟨w.heap.size + 1, 0, none⟩ = some (.int .u64 hb) := by rw [hc1 _ _ (by first | omega | (simp only [World.size_alloc, World.size_setCell, World.size_drew]; omega))]; first | with_reducible assumption | (simp [go_sem]; done) | (simp [go_sem, *]; done)
  have qb1_1 : w1.cell? ⟨w.heap.size + 1, 1, none⟩ = some (.int .u64 lb) := by rw [hc1 _ _ (by first | omega | (simp only [World.size_alloc, World.size_setCell, World.size_drew]; omega))]; first | with_reducible assumption | (simp [go_sem]; done) | (simp [go_sem, *]; done)
  have qb1_2 : w1.cell? ⟨w.heap.size + 1, 2, none⟩ = some (.bool true) := by rw [hc1 _ _ (by first | omega | (simp only [World.size_alloc, World.size_setCell, World.size_drew]; omega))]; first | with_reducible assumption | (simp [go_sem]; done) | (simp [go_sem, *]; done)
  have qb1_3 : w1.cell? ⟨w.heap.size + 1, 3, none⟩ = some (.bool sb) := by rw [hc1 _ _ (by first | omega | (simp only [World.size_alloc, World.size_setCell, World.size_drew]; omega))]; first | with_reducible assumption | (simp [go_sem]; done) | (simp [go_sem, *]; done)
  have qb1_4 : w1.cell? ⟨w.heap.size + 1, 4, none⟩ = some (.string ⟨#[]⟩) := by rw [hc1 _ _ (by first | omega | (simp only [World.size_alloc, World.size_setCell, World.size_drew]; omega))]; first | with_reducible assumption | (simp [go_sem]; done) | (simp [go_sem, *]; done)
  have qb1_5 : w1.cell? ⟨w.heap.size + 1, 5, none⟩ = some (.int .u8 (m + 1)) := by rw [hc1 _ _ (by first | omega | (simp only [World.size_alloc, World.size_setCell, World.size_drew]; omega))]; first | with_reducible assumption | (simp [go_sem]; done) | (simp [go_sem, *]; done)
  have hz1_0 : w.heap.size < w1.heap.size := by omega
  have hy1_0 : w.heap.size ≤ w1.heap.size := by omega
  have hz1_1 : w.heap.size + 1 < w1.heap.size := by omega
  have hy1_1 : w.heap.size + 1 ≤ w1.heap.size := by omega
  go_wp2
  refine wp_region_quiet_below (by kernel_rfl) (by kernel_rfl) ?_
  repeat quiet_step (fail)
  quiet_step (with_reducible exact Calls.regrown_of ((prefixBits_any _ _ _ _ n0 n1).at _))
  repeat quiet_step (fail)
  quiet_step (with_reducible exact Calls.regrown_of ((prefixBits_any _ _ _ _ m0 m1).at _))
  repeat quiet_step (fail)
  quiet_step (with_reducible exact Calls.regrown_of (HS.at _))
  repeat quiet_step (fail)
  refine wpQuiet_nil ?_
  intro w2 hb2
  replace hb2 := below_of hb2
  obtain ⟨hc2, hf2⟩ := rules hb2
  have hs2 := hb2.size
  try simp only [World.size_alloc, World.size_setCell, World.size_drew] at hs2
  go_wp2
  go_ret
  refine ⟨rfl, ?_⟩
  repeat (first | with_reducible exact Below.refl _ _ | with_reducible refine Below.setCell ?_ (by first | omega | (simp only [World.size_alloc, World.size_setCell, World.size_drew]; omega)) _ | with_reducible refine Below.alloc ?_ (by first | omega | (simp only [World.size_alloc, World.size_setCell, World.size_drew]; omega)) _ | with_reducible refine Below.drew ?_ | with_reducible refine Below.trans ?_ (hb2.mono (by first | omega | (simp only [World.size_alloc, World.size_setCell, World.size_drew]; omega))) | with_reducible refine Below.trans ?_ (hb1.mono (by first | omega | (simp only [World.size_alloc, World.size_setCell, World.size_drew]; omega))))

set_option maxHeartbeats 1600000 in
theorem pfxCompare_eq (HA : Ret 32 #[.agg #[.int .u64 (ha), .int .u64 (la), .bool true, .bool sa, .string ⟨#[]⟩, .int .u8 (n + 1)]] (.agg #[.int .u64 (hx), .int .u64 (lx), .bool true, .bool sa, .string ⟨#[]⟩, .int .u8 (n + 1)])) (HB : Ret 32 #[.agg #[.int .u64 (hb), .int .u64 (lb), .bool true, .bool sb, .string ⟨#[]⟩, .int .u8 (n + 1)]] (.agg #[.int .u64 (hy), .int .u64 (ly), .bool true, .bool sb, .string ⟨#[]⟩, .int .u8 (n + 1)]))
    (HC : Ret 16 #[.agg #[.int .u64 (hx), .int .u64 (lx), .bool true, .bool sa, .string ⟨#[]⟩], .agg #[.int .u64 (hy), .int .u64 (ly), .bool true, .bool sb, .string ⟨#[]⟩]] (.int .i64 0)) (n0 : 0 ≤ n) (n1 : n < 255) (HS : Ret 34 #[.int .i64 n, .int .i64 n] (.int .i64 0)) (HD : Ret 16 #[.agg #[.int .u64 (ha), .int .u64 (la), .bool true, .bool sa, .string ⟨#[]⟩], .agg #[.int .u64 (hb), .int .u64 (lb), .bool true, .bool sb, .string ⟨#[]⟩]] (.int .i64 c)) :
    Ret 19 #[.agg #[.int .u64 (ha), .int .u64 (la), .bool true, .bool sa, .string ⟨#[]⟩, .int .u8 (n + 1)], .agg #[.int .u64 (hb), .int .u64 (lb), .bool true, .bool sb, .string ⟨#[]⟩, .int .u8 (n + 1)]] (.int .i64 c) := by
  intro w
  go_enter Tryd.func19, Tryd.ntmps19
  go_wp2
  refine wp_region_quiet_below (by kernel_rfl) (by kernel_rfl) ?_
  repeat quiet_step (fail)
  quiet_step (with_reducible exact Calls.regrown_of (HA.at _))
  repeat quiet_step (fail)
  quiet_step (with_reducible exact Calls.regrown_of ((prefixAddr_any _ _ _ _).at _))
  repeat quiet_step (fail)
  quiet_step (with_reducible exact Calls.regrown_of (HB.at _))
  repeat quiet_step (fail)
  quiet_step (with_reducible exact Calls.regrown_of ((prefixAddr_any _ _ _ _).at _))
  repeat quiet_step (fail)
  quiet_step (with_reducible exact Calls.regrown_of (HC.at _))
  repeat quiet_step (fail)
  refine wpQuiet_nil ?_
  intro w1 hb1
  replace hb1 := below_of hb1
  obtain ⟨hc1, hf1⟩ := rules hb1
  have hs1 := hb1.size
  try simp only [World.size_alloc, World.size_setCell, World.size_drew] at hs1
  have qa1_0 : w1.cell? ⟨w.heap.size, 0, none⟩ = some (.int .u64 ha) := by rw [hc1 _ _ (by first | omega | (simp only [World.size_alloc, World.size_setCell, World.size_drew]; omega))]; first | with_reducible assumption | (simp [go_sem]; done) | (simp [go_sem, *]; done)
  have qa1_1 : w1.cell? ⟨w.heap.size, 1, none⟩ = some (.int .u64 la) := by rw [hc1 _ _ (by first | omega | (simp only [World.size_alloc, World.size_setCell, World.size_drew]; omega))]; first | with_reducible assumption | (simp [go_sem]; done) | (simp [go_sem, *]; done)
  have qa1_2 : w1.cell? ⟨w.heap.size, 2, none⟩ = some (.bool true) := by rw [hc1 _ _ (by first | omega | (simp only [World.size_alloc, World.size_setCell, World.size_drew]; omega))]; first | with_reducible assumption | (simp [go_sem]; done) | (simp [go_sem, *]; done)
  have qa1_3 : w1.cell? ⟨w.heap.size, 3, none⟩ = some (.bool sa) := by rw [hc1 _ _ (by first | omega | (simp only [World.size_alloc, World.size_setCell, World.size_drew]; omega))]; first | with_reducible assumption | (simp [go_sem]; done) | (simp [go_sem, *]; done)
  have qa1_4 : w1.cell? ⟨w.heap.size, 4, none⟩ = some (.string ⟨#[]⟩) := by rw [hc1 _ _ (by first | omega | (simp only [World.size_alloc, World.size_setCell, World.size_drew]; omega))]; first | with_reducible assumption | (simp [go_sem]; done) | (simp [go_sem, *]; done)
  have qa1_5 : w1.cell? ⟨w.heap.size, 5, none⟩ = some (.int .u8 (n + 1)) := by rw [hc1 _ _ (by first | omega | (simp only [World.size_alloc, World.size_setCell, World.size_drew]; omega))]; first | with_reducible assumption | (simp [go_sem]; done) | (simp [go_sem, *]; done)
  have qb1_0 : w1.cell? ⟨w.heap.size + 1, 0, none⟩ = some (.int .u64 hb) := by rw [hc1 _ _ (by first | omega | (simp only [World.size_alloc, World.size_setCell, World.size_drew]; omega))]; first | with_reducible assumption | (simp [go_sem]; done) | (simp [go_sem, *]; done)
  have qb1_1 : w1.cell? ⟨w.heap.size + 1, 1, none⟩ = some (.int .u64 lb) := by rw [hc1 _ _ (by first | omega | (simp only [World.size_alloc, World.size_setCell, World.size_drew]; omega))]; first | with_reducible assumption | (simp [go_sem]; done) | (simp [go_sem, *]; done)
  have qb1_2 : w1.cell? ⟨w.heap.size + 1, 2, none⟩ = some (.bool true) := by rw [hc1 _ _ (by first | omega | (simp only [World.size_alloc, World.size_setCell, World.size_drew]; omega))]; first | with_reducible assumption | (simp [go_sem]; done) | (simp [go_sem, *]; done)
  have qb1_3 : w1.cell? ⟨w.heap.size + 1, 3, none⟩ = some (.bool sb) := by rw [hc1 _ _ (by first | omega | (simp only [World.size_alloc, World.size_setCell, World.size_drew]; omega))]; first | with_reducible assumption | (simp [go_sem]; done) | (simp [go_sem, *]; done)
  have qb1_4 : w1.cell? ⟨w.heap.size + 1, 4, none⟩ = some (.string ⟨#[]⟩) := by rw [hc1 _ _ (by first | omega | (simp only [World.size_alloc, World.size_setCell, World.size_drew]; omega))]; first | with_reducible assumption | (simp [go_sem]; done) | (simp [go_sem, *]; done)
  have qb1_5 : w1.cell? ⟨w.heap.size + 1, 5, none⟩ = some (.int .u8 (n + 1)) := by rw [hc1 _ _ (by first | omega | (simp only [World.size_alloc, World.size_setCell, World.size_drew]; omega))]; first | with_reducible assumption | (simp [go_sem]; done) | (simp [go_sem, *]; done)
  have hz1_0 : w.heap.size < w1.heap.size := by omega
  have hy1_0 : w.heap.size ≤ w1.heap.size := by omega
  have hz1_1 : w.heap.size + 1 < w1.heap.size := by omega
  have hy1_1 : w.heap.size + 1 ≤ w1.heap.size := by omega
  go_wp2
  refine wp_region_quiet_below (by kernel_rfl) (by kernel_rfl) ?_
  repeat quiet_step (fail)
  quiet_step (with_reducible exact Calls.regrown_of ((prefixBits_any _ _ _ _ n0 n1).at _))
  repeat quiet_step (fail)
  quiet_step (with_reducible exact Calls.regrown_of ((prefixBits_any _ _ _ _ n0 n1).at _))
  repeat quiet_step (fail)
  quiet_step (with_reducible exact Calls.regrown_of (HS.at _))
  repeat quiet_step (fail)
  refine wpQuiet_nil ?_
  intro w2 hb2
  replace hb2 := below_of hb2
  obtain ⟨hc2, hf2⟩ := rules hb2
  have hs2 := hb2.size
  try simp only [World.size_alloc, World.size_setCell, World.size_drew] at hs2
  have qa2_0 : w2.cell? ⟨w.heap.size, 0, none⟩ = some (.int .u64 ha) := by rw [hc2 _ _ (by first | omega | (simp only [World.size_alloc, World.size_setCell, World.size_drew]; omega))]; first | with_reducible assumption | (simp [go_sem]; done) | (simp [go_sem, *]; done)
  have qa2_1 : w2.cell? ⟨w.heap.size, 1, none⟩ = some (.int .u64 la) := by rw [hc2 _ _ (by first | omega | (simp only [World.size_alloc, World.size_setCell, World.size_drew]; omega))]; first | with_reducible assumption | (simp [go_sem]; done) | (simp [go_sem, *]; done)
  have qa2_2 : w2.cell? ⟨w.heap.size, 2, none⟩ = some (.bool true) := by rw [hc2 _ _ (by first | omega | (simp only [World.size_alloc, World.size_setCell, World.size_drew]; omega))]; first | with_reducible assumption | (simp [go_sem]; done) | (simp [go_sem, *]; done)
  have qa2_3 : w2.cell? ⟨w.heap.size, 3, none⟩ = some (.bool sa) := by rw [hc2 _ _ (by first | omega | (simp only [World.size_alloc, World.size_setCell, World.size_drew]; omega))]; first | with_reducible assumption | (simp [go_sem]; done) | (simp [go_sem, *]; done)
  have qa2_4 : w2.cell? ⟨w.heap.size, 4, none⟩ = some (.string ⟨#[]⟩) := by rw [hc2 _ _ (by first | omega | (simp only [World.size_alloc, World.size_setCell, World.size_drew]; omega))]; first | with_reducible assumption | (simp [go_sem]; done) | (simp [go_sem, *]; done)
  have qa2_5 : w2.cell? ⟨w.heap.size, 5, none⟩ = some (.int .u8 (n + 1)) := by rw [hc2 _ _ (by first | omega | (simp only [World.size_alloc, World.size_setCell, World.size_drew]; omega))]; first | with_reducible assumption | (simp [go_sem]; done) | (simp [go_sem, *]; done)
  have qb2_0 : w2.cell? ⟨w.heap.size + 1, 0, none⟩ = some (.int .u64 hb) := by rw [hc2 _ _ (by first | omega | (simp only [World.size_alloc, World.size_setCell, World.size_drew]; omega))]; first | with_reducible assumption | (simp [go_sem]; done) | (simp [go_sem, *]; done)
  have qb2_1 : w2.cell? ⟨w.heap.size + 1, 1, none⟩ = some (.int .u64 lb) := by rw [hc2 _ _ (by first | omega | (simp only [World.size_alloc, World.size_setCell, World.size_drew]; omega))]; first | with_reducible assumption | (simp [go_sem]; done) | (simp [go_sem, *]; done)
  have qb2_2 : w2.cell? ⟨w.heap.size + 1, 2, none⟩ = some (.bool true) := by rw [hc2 _ _ (by first | omega | (simp only [World.size_alloc, World.size_setCell, World.size_drew]; omega))]; first | with_reducible assumption | (simp [go_sem]; done) | (simp [go_sem, *]; done)
  have qb2_3 : w2.cell? ⟨w.heap.size + 1, 3, none⟩ = some (.bool sb) := by rw [hc2 _ _ (by first | omega | (simp only [World.size_alloc, World.size_setCell, World.size_drew]; omega))]; first | with_reducible assumption | (simp [go_sem]; done) | (simp [go_sem, *]; done)
  have qb2_4 : w2.cell? ⟨w.heap.size + 1, 4, none⟩ = some (.string ⟨#[]⟩) := by rw [hc2 _ _ (by first | omega | (simp only [World.size_alloc, World.size_setCell, World.size_drew]; omega))]; first | with_reducible assumption | (simp [go_sem]; done) | (simp [go_sem, *]; done)
  have qb2_5 : w2.cell? ⟨w.heap.size + 1, 5, none⟩ = some (.int .u8 (n + 1)) := by rw [hc2 _ _ (by first | omega | (simp only [World.size_alloc, World.size_setCell, World.size_drew]; omega))]; first | with_reducible assumption | (simp [go_sem]; done) | (simp [go_sem, *]; done)
  have hz2_0 : w.heap.size < w2.heap.size := by omega
  have hy2_0 : w.heap.size ≤ w2.heap.size := by omega
  have hz2_1 : w.heap.size + 1 < w2.heap.size := by omega
  have hy2_1 : w.heap.size + 1 ≤ w2.heap.size := by omega
  go_wp2
  refine wp_region_quiet_below (by kernel_rfl) (by kernel_rfl) ?_
  repeat quiet_step (fail)
  quiet_step (with_reducible exact Calls.regrown_of ((prefixAddr_any _ _ _ _).at _))
  repeat quiet_step (fail)
  quiet_step (with_reducible exact Calls.regrown_of ((prefixAddr_any _ _ _ _).at _))
  repeat quiet_step (fail)
  quiet_step (with_reducible exact Calls.regrown_of (HD.at _))
  repeat quiet_step (fail)
  refine wpQuiet_nil ?_
  intro w3 hb3
  replace hb3 := below_of hb3
  obtain ⟨hc3, hf3⟩ := rules hb3
  have hs3 := hb3.size
  try simp only [World.size_alloc, World.size_setCell, World.size_drew] at hs3
  go_wp2
  go_ret
  refine ⟨rfl, ?_⟩
  repeat (first | with_reducible exact Below.refl _ _ | with_reducible refine Below.setCell ?_ (by first | omega | (simp only [World.size_alloc, World.size_setCell, World.size_drew]; omega)) _ | with_reducible refine Below.alloc ?_ (by first | omega | (simp only [World.size_alloc, World.size_setCell, World.size_drew]; omega)) _ | with_reducible refine Below.drew ?_ | with_reducible refine Below.trans ?_ (hb3.mono (by first | omega | (simp only [World.size_alloc, World.size_setCell, World.size_drew]; omega))) | with_reducible refine Below.trans ?_ (hb2.mono (by first | omega | (simp only [World.size_alloc, World.size_setCell, World.size_drew]; omega))) | with_reducible refine Below.trans ?_ (hb1.mono (by first | omega | (simp only [World.size_alloc, World.size_setCell, World.size_drew]; omega))))

set_option maxHeartbeats 800000 in
theorem implCP_of (HA : Ret 18 #[.agg #[.bool sa, .int .u64 (ha), .int .u64 (la), .int .i64 (n)]] (.agg #[.int .u64 (hx), .int .u64 (lx), .bool true, .bool sa, .string ⟨#[]⟩, .int .u8 (n + 1)])) (HB : Ret 18 #[.agg #[.bool sb, .int .u64 (hb), .int .u64 (lb), .int .i64 (m)]] (.agg #[.int .u64 (hy), .int .u64 (ly), .bool true, .bool sb, .string ⟨#[]⟩, .int .u8 (m + 1)])) (HC : Ret 19 #[.agg #[.int .u64 (hx), .int .u64 (lx), .bool true, .bool sa, .string ⟨#[]⟩, .int .u8 (n + 1)], .agg #[.int .u64 (hy), .int .u64 (ly), .bool true, .bool sb, .string ⟨#[]⟩, .int .u8 (m + 1)]] (.int .i64 c)) :
    Ret 9 #[.agg #[.bool sa, .int .u64 (ha), .int .u64 (la), .int .i64 (n)], .agg #[.bool sb, .int .u64 (hb), .int .u64 (lb), .int .i64 (m)]] (.int .i64 c) := by
  intro w
  go_enter Tryd.func9, Tryd.ntmps9
  go_wp2
  refine wp_region_quiet_below (by kernel_rfl) (by kernel_rfl) ?_
  repeat quiet_step (fail)
  quiet_step (with_reducible exact Calls.regrown_of (HA.at _))
  repeat quiet_step (fail)
  quiet_step (with_reducible exact Calls.regrown_of (HB.at _))
  repeat quiet_step (fail)
  quiet_step (with_reducible exact Calls.regrown_of (HC.at _))
  repeat quiet_step (fail)
  refine wpQuiet_nil ?_
  intro w1 hb1
  replace hb1 := below_of hb1
  obtain ⟨hc1, hf1⟩ := rules hb1
  have hs1 := hb1.size
  try simp only [World.size_alloc, World.size_setCell, World.size_drew] at hs1
  go_wp2
  go_ret
  refine ⟨rfl, ?_⟩
  repeat (first | with_reducible exact Below.refl _ _ | with_reducible refine Below.setCell ?_ (by first | omega | (simp only [World.size_alloc, World.size_setCell, World.size_drew]; omega)) _ | with_reducible refine Below.alloc ?_ (by first | omega | (simp only [World.size_alloc, World.size_setCell, World.size_drew]; omega)) _ | with_reducible refine Below.drew ?_ | with_reducible refine Below.trans ?_ (hb1.mono (by first | omega | (simp only [World.size_alloc, World.size_setCell, World.size_drew]; omega))))
end
end Go.Proofs.YtkploaapcpjkbaaDoor
