/- Contracts: the reference's Masked and ComparePrefixes. -/
import Derived.Test.YtkploaapcpjkbaaDoorO4
namespace Go.Proofs.YtkploaapcpjkbaaDoor
open Go Go.RowKit Go.Sort
set_option linter.unusedVariables false
set_option linter.unusedSimpArgs false
attribute [local go_sem] cell_gr

/-- The halves of an address whose bits behind the first n are 0. -/
def mh (six : Bool) (hi n : Int) : Int := if six then (if n ≤ 64 then hi / 2 ^ (64 - n).toNat * 2 ^ (64 - n).toNat else hi) else hi
def ml (six : Bool) (lo n : Int) : Int := if six then (if n ≤ 64 then 0 else lo / 2 ^ (128 - n).toNat * 2 ^ (128 - n).toNat) else lo / 2 ^ (32 - n).toNat * 2 ^ (32 - n).toNat

theorem floor_bd (x : Int) (m : Nat) (h0 : 0 ≤ x) : 0 ≤ x / 2 ^ m * 2 ^ m ∧ x / 2 ^ m * 2 ^ m ≤ x := by
  have hp : (0 : Int) < 2 ^ m := Int.pow_pos (by decide)
  exact ⟨Int.mul_nonneg (Int.ediv_nonneg h0 (Int.le_of_lt hp)) (Int.le_of_lt hp), Int.ediv_mul_le x (by omega)⟩
theorem floor_wrap (x : Int) (m : Nat) (h0 : 0 ≤ x) (h1 : x < 18446744073709551616) : IntKind.u64.wrap (x / 2 ^ m * 2 ^ m) = x / 2 ^ m * 2 ^ m := by
  have := floor_bd x m h0
  exact wraps_u64 _ this.1 (by omega)

theorem top_any {six : Bool} {hi lo n : Int} (h : InAd six hi lo) (h0 : 0 ≤ n) (h1 : n ≤ wide six) : Ret 36 #[.agg #[.bool six, .int .u64 (hi), .int .u64 (lo)], .int .i64 n] (.agg #[.bool six, .int .u64 (mh six hi n), .int .u64 (ml six lo n)]) := by
  cases six
  · have h1' : n ≤ 32 := h1
    simp only [mh, ml, Bool.false_eq_true, if_false]
    exact top_v4 hi lo n (32 - n) _ (by rw [IntKind.wrap_i64]; omega) (by omega) (by omega) (floor_wrap _ _ h.l0 h.l1)
  · have h1' : n ≤ 128 := h1
    by_cases c : n ≤ 64
    · simp only [mh, ml, if_true, if_pos c]
      exact top_v6_hi hi lo n (64 - n) _ c (by rw [IntKind.wrap_i64]; omega) (by omega) (by omega) (floor_wrap _ _ h.h0 h.h1)
    · simp only [mh, ml, if_true, if_neg c]
      exact top_v6_lo hi lo n (128 - n) _ c (by rw [IntKind.wrap_i64]; omega) (by omega) (by omega) (floor_wrap _ _ h.l0 h.l1)

set_option maxHeartbeats 800000 in
theorem specMasked_of (six : Bool) (hi lo n hx lx : Int) (HT : Ret 36 #[.agg #[.bool six, .int .u64 (hi), .int .u64 (lo)], .int .i64 n] (.agg #[.bool six, .int .u64 (hx), .int .u64 (lx)])) : Ret 20 #[.agg #[.bool six, .int .u64 (hi), .int .u64 (lo), .int .i64 (n)]] (.agg #[.bool six, .int .u64 (hx), .int .u64 (lx), .int .i64 (n)]) := by
  intro w
  go_enter Tryd.func20, Tryd.ntmps20
  go_wp2
  refine region_tail 8 (by kernel_rfl) (by kernel_rfl) ?_
  simp only [List.take_succ_cons, List.take_zero, List.drop_succ_cons, List.drop_zero]
  repeat quiet_step (fail)
  quiet_step (with_reducible exact Calls.regrown_of (HT.at _))
  repeat quiet_step (fail)
  refine wpQuiet_nil ?_
  intro w1 hb1
  obtain ⟨hc1, hf1⟩ := rules hb1
  have hs1 := hb1.size
  try simp only [World.size_alloc, World.size_setCell, World.size_drew] at hs1
  go_wp2
  refine bodyPost_ret (v := .agg #[.bool six, .int .u64 (hx), .int .u64 (lx), .int .i64 (n)]) ?_ rfl ⟨rfl, ?_⟩
  · simp [results, Tryd.results20, go_sem, hc1]
  repeat (first | with_reducible exact Below.refl _ _ | with_reducible refine Below.setCell ?_ (by first | omega | (simp only [World.size_alloc, World.size_setCell, World.size_drew]; omega)) _ | with_reducible refine Below.alloc ?_ (by first | omega | (simp only [World.size_alloc, World.size_setCell, World.size_drew]; omega)) _ | with_reducible refine Below.drew ?_ | with_reducible refine Below.trans ?_ (hb1.mono (by first | omega | (simp only [World.size_alloc, World.size_setCell, World.size_drew]; omega))))

theorem field_ad (six : Bool) (hi lo n : Int) (w : World) : (Instr.field 26 (.agg #[.bool six, .int .u64 (hi), .int .u64 (lo), .int .i64 (n)]) 0).run Tryd.prog w = .ok (.agg #[.bool six, .int .u64 (hi), .int .u64 (lo)]) w := by kernel_rfl

section
variable (sa sb : Bool) (ha la n hb lb m hx lx hy ly c : Int)

set_option maxHeartbeats 1600000 in
theorem specCP_ne (HA : Ret 20 #[.agg #[.bool sa, .int .u64 (ha), .int .u64 (la), .int .i64 (n)]] (.agg #[.bool sa, .int .u64 (hx), .int .u64 (lx), .int .i64 (n)])) (HB : Ret 20 #[.agg #[.bool sb, .int .u64 (hb), .int .u64 (lb), .int .i64 (m)]] (.agg #[.bool sb, .int .u64 (hy), .int .u64 (ly), .int .i64 (m)]))
    (HC : Ret 8 #[.agg #[.bool sa, .int .u64 (hx), .int .u64 (lx)], .agg #[.bool sb, .int .u64 (hy), .int .u64 (ly)]] (.int .i64 c)) (hc : (c == 0) = false) : Ret 10 #[.agg #[.bool sa, .int .u64 (ha), .int .u64 (la), .int .i64 (n)], .agg #[.bool sb, .int .u64 (hb), .int .u64 (lb), .int .i64 (m)]] (.int .i64 c) := by
  intro w
  have F1 := field_ad
  go_enter Tryd.func10, Tryd.ntmps10
  go_wp2
  refine wp_region_quiet_below (by kernel_rfl) (by kernel_rfl) ?_
  repeat quiet_step (fail)
  quiet_step (with_reducible exact Calls.regrown_of (HA.at _))
  repeat quiet_step (fail)
  quiet_step (with_reducible exact Calls.regrown_of (HB.at _))
  repeat quiet_step (fail)
  quiet_step (with_reducible exact Calls.regrown_of (HC.at _))
  repeat quiet_step (fail)
  refine wpQuiet_nil ?_
  intro w1 hb1
  replace hb1 := below_of hb1
  obtain ⟨hc1, hf1⟩ := rules hb1
  have hs1 := hb1.size
  try simp only [World.size_alloc, World.size_setCell, World.size_drew] at hs1
  go_wp2
  go_ret
  refine ⟨rfl, ?_⟩
  repeat (first | with_reducible exact Below.refl _ _ | with_reducible refine Below.setCell ?_ (by first | omega | (simp only [World.size_alloc, World.size_setCell, World.size_drew]; omega)) _ | with_reducible refine Below.alloc ?_ (by first | omega | (simp only [World.size_alloc, World.size_setCell, World.size_drew]; omega)) _ | with_reducible refine Below.drew ?_ | with_reducible refine Below.trans ?_ (hb1.mono (by first | omega | (simp only [World.size_alloc, World.size_setCell, World.size_drew]; omega))))

set_option maxHeartbeats 1600000 in
theorem specCP_bits (HA : Ret 20 #[.agg #[.bool sa, .int .u64 (ha), .int .u64 (la), .int .i64 (n)]] (.agg #[.bool sa, .int .u64 (hx), .int .u64 (lx), .int .i64 (n)])) (HB : Ret 20 #[.agg #[.bool sb, .int .u64 (hb), .int .u64 (lb), .int .i64 (m)]] (.agg #[.bool sb, .int .u64 (hy), .int .u64 (ly), .int .i64 (m)]))
    (HC : Ret 8 #[.agg #[.bool sa, .int .u64 (hx), .int .u64 (lx)], .agg #[.bool sb, .int .u64 (hy), .int .u64 (ly)]] (.int .i64 0)) (hn : (n == m) = false) : Ret 10 #[.agg #[.bool sa, .int .u64 (ha), .int .u64 (la), .int .i64 (n)], .agg #[.bool sb, .int .u64 (hb), .int .u64 (lb), .int .i64 (m)]] (.int .i64 (sgn n m)) := by
  intro w
  have S := Lib.hid (sgn_eq n m)
  have F1 := field_ad
  go_enter Tryd.func10, Tryd.ntmps10
  go_wp2
  refine wp_region_quiet_below (by kernel_rfl) (by kernel_rfl) ?_
  repeat quiet_step (fail)
  quiet_step (with_reducible exact Calls.regrown_of (HA.at _))
  repeat quiet_step (fail)
  quiet_step (with_reducible exact Calls.regrown_of (HB.at _))
  repeat quiet_step (fail)
  quiet_step (with_reducible exact Calls.regrown_of (HC.at _))
  repeat quiet_step (fail)
  refine wpQuiet_nil ?_
  intro w1 hb1
  replace hb1 := below_of hb1
  obtain ⟨hc1, hf1⟩ := rules hb1
  have hs1 := hb1.size
  try simp only [World.size_alloc, World.size_setCell, World.size_drew] at hs1
  have qa1_0 : w1.cell? ⟨w.heap.size, 0, none⟩ = some (.bool sa) := by rw [hc1 _ _ (by first | omega | (simp only [World.size_alloc, World.size_setCell, World.size_drew]; omega))]; first | with_reducible assumption | (simp [go_sem]; done) | (simp [go_sem, *]; done)
  have qa1_1 : w1.cell? ⟨w.heap.size, 1, none⟩ = some (.int .u64 ha) := by rw [hc1 _ _ (by first | omega | (simp only [World.size_alloc, World.size_setCell, World.size_drew]; omega))]; first | with_reducible assumption | (simp [go_sem]; done) | (simp [go_sem, *]; done)
  have qa1_2 : w1.cell? ⟨w.heap.size, 2, none⟩ = some (.int .u64 la) := by rw [hc1 _ _ (by first | omega | (simp only [World.size_alloc, World.size_setCell, World.size_drew]; omega))]; first | with_reducible assumption | (simp [go_sem]; done) | (simp [go_sem, *]; done)
  have qa1_3 : w1.cell? ⟨w.heap.size, 3, none⟩ = some (.int .i64 n) := by rw [hc1 _ _ (by first | omega | (simp only [World.size_alloc, World.size_setCell, World.size_drew]; omega))]; first | with_reducible assumption | (simp [go_sem]; done) | (simp [go_sem, *]; done)
  have qb1_0 : w1.cell? ⟨w.heap.size + 1, 0, none⟩ = some (.bool sb) := by rw [hc1 _ _ (by first | omega | (simp only [World.size_alloc, World.size_setCell, World.size_drew]; omega))]; first | with_reducible assumption | (simp [go_sem]; done) | (simp [go_sem, *]; done)
  have qb1_1 : w1.cell? ⟨w.heap.size + 1, 1, none⟩ = some (.int .u64 hb) := by rw [hc1 _ _ (by first | omega | (simp only [World.size_alloc, World.size_setCell, World.size_drew]; omega))]; first | with_reducible assumption | (simp [go_sem]; done) | (simp [go_sem, *]; done)
  have qb1_2 : w1.cell? ⟨w.heap.size + 1, 2, none⟩ = some (.int .u64 lb) := by rw [hc1 _ _ (by first | omega | (simp only [World.size_alloc, World.size_setCell, World.size_drew]; omega))]; first | with_reducible assumption | (simp [go_sem]; done) | (simp [go_sem, *]; done)
  have qb1_3 : w1.cell? ⟨w.heap.size + 1, 3, none⟩ = some (.int .i64 m) := by rw [hc1 _ _ (by first | omega | (simp only [World.size_alloc, World.size_setCell, World.size_drew]; omega))]; first | with_reducible assumption | (simp [go_sem]; done) | (simp [go_sem, *]; done)
  have hz1_0 : w.heap.size < w1.heap.size := by omega
  have hy1_0 : w.heap.size ≤ w1.heap.size := by omega
  have hz1_1 : w.heap.size + 1 < w1.heap.size := by omega
  have hy1_1 : w.heap.size + 1 ≤ w1.heap.size := by omega
  go_wp2_with fail
  refine ((sign_any _ _).at _).mono ?_
  rintro e w2 ⟨rfl, hb2⟩
  obtain ⟨hc2, hf2⟩ := rulesB (B := w.heap.size + 2) hb2 (by first | omega | (simp only [World.size_alloc, World.size_setCell, World.size_drew]; omega))
  have hs2 := hb2.size
  try simp only [World.size_alloc, World.size_setCell, World.size_drew] at hs2
  go_wp2
  go_ret
  refine ⟨by rw [← S.out]; rfl, ?_⟩
  repeat (first | with_reducible exact Below.refl _ _ | with_reducible refine Below.setCell ?_ (by first | omega | (simp only [World.size_alloc, World.size_setCell, World.size_drew]; omega)) _ | with_reducible refine Below.alloc ?_ (by first | omega | (simp only [World.size_alloc, World.size_setCell, World.size_drew]; omega)) _ | with_reducible refine Below.drew ?_ | with_reducible refine Below.trans ?_ (hb2.mono (by first | omega | (simp only [World.size_alloc, World.size_setCell, World.size_drew]; omega))) | with_reducible refine Below.trans ?_ (hb1.mono (by first | omega | (simp only [World.size_alloc, World.size_setCell, World.size_drew]; omega))))

set_option maxHeartbeats 1600000 in
theorem specCP_eq (HA : Ret 20 #[.agg #[.bool sa, .int .u64 (ha), .int .u64 (la), .int .i64 (n)]] (.agg #[.bool sa, .int .u64 (hx), .int .u64 (lx), .int .i64 (n)])) (HB : Ret 20 #[.agg #[.bool sb, .int .u64 (hb), .int .u64 (lb), .int .i64 (n)]] (.agg #[.bool sb, .int .u64 (hy), .int .u64 (ly), .int .i64 (n)]))
    (HC : Ret 8 #[.agg #[.bool sa, .int .u64 (hx), .int .u64 (lx)], .agg #[.bool sb, .int .u64 (hy), .int .u64 (ly)]] (.int .i64 0)) (HD : Ret 8 #[.agg #[.bool sa, .int .u64 (ha), .int .u64 (la)], .agg #[.bool sb, .int .u64 (hb), .int .u64 (lb)]] (.int .i64 c)) : Ret 10 #[.agg #[.bool sa, .int .u64 (ha), .int .u64 (la), .int .i64 (n)], .agg #[.bool sb, .int .u64 (hb), .int .u64 (lb), .int .i64 (n)]] (.int .i64 c) := by
  intro w
  have F1 := field_ad
  go_enter Tryd.func10, Tryd.ntmps10
  go_wp2
  refine wp_region_quiet_below (by kernel_rfl) (by kernel_rfl) ?_
  repeat quiet_step (fail)
  quiet_step (with_reducible exact Calls.regrown_of (HA.at _))
  repeat quiet_step (fail)
  quiet_step (with_reducible exact Calls.regrown_of (HB.at _))
  repeat quiet_step (fail)
  quiet_step (with_reducible exact Calls.regrown_of (HC.at _))
  repeat quiet_step (fail)
  refine wpQuiet_nil ?_
  intro w1 hb1
  replace hb1 := below_of hb1
  obtain ⟨hc1, hf1⟩ := rules hb1
  have hs1 := hb1.size
  try simp only [World.size_alloc, World.size_setCell, World.size_drew] at hs1
  have qa1_0 : w1.cell? ⟨w.heap.size, 0, none⟩ = some (.bool sa) := by rw [hc1 _ _ (by first | omega | (simp only [World.size_alloc, World.size_setCell, World.size_drew]; omega))]; first | with_reducible assumption | (simp [go_sem]; done) | (simp [go_sem, *]; done)
  have qa1_1 : w1.cell? ⟨w.heap.size, 1, none⟩ = some (.int .u64 ha) := by rw [hc1 _ _ (by first | omega | (simp only [World.size_alloc, World.size_setCell, World.size_drew]; omega))]; first | with_reducible assumption | (simp [go_sem]; done) | (simp [go_sem, *]; done)
  have qa1_2 : w1.cell? ⟨w.heap.size, 2, none⟩ = some (.int .u64 la) := by rw [hc1 _ _ (by first | omega | (simp only [World.size_alloc, World.size_setCell, World.size_drew]; omega))]; first | with_reducible assumption | (simp [go_sem]; done) | (simp [go_sem, *]; done)
  have qa1_3 : w1.cell? ⟨w.heap.size, 3, none⟩ = some (.int .i64 n) := by rw [hc1 _ _ (by first | omega | (simp only [World.size_alloc, World.size_setCell, World.size_drew]; omega))]; first | with_reducible assumption | (simp [go_sem]; done) | (simp [go_sem, *]; done)
  have qb1_0 : w1.cell? ⟨w.heap.size + 1, 0, none⟩ = some (.bool sb) := by rw [hc1 _ _ (by first | omega | (simp only [World.size_alloc, World.size_setCell, World.size_drew]; omega))]; first | with_reducible assumption | (simp [go_sem]; done) | (simp [go_sem, *]; done)
  have qb1_1 : w1.cell? ⟨w.heap.size + 1, 1, none⟩ = some (.int .u64 hb) := by rw [hc1 _ _ (by first | omega | (simp only [World.size_alloc, World.size_setCell, World.size_drew]; omega))]; first | with_reducible assumption | (simp [go_sem]; done) | (simp [go_sem, *]; done)
  have qb1_2 : w1.cell? ⟨w.heap.size + 1, 2, none⟩ = some (.int .u64 lb) := by rw [hc1 _ _ (by first | omega | (simp only [World.size_alloc, World.size_setCell, World.size_drew]; omega))]; first | with_reducible assumption | (simp [go_sem]; done) | (simp [go_sem, *]; done)
  have qb1_3 : w1.cell? ⟨w.heap.size + 1, 3, none⟩ = some (.int .i64 n) := by rw [hc1 _ _ (by first | omega | (simp only [World.size_alloc, World.size_setCell, World.size_drew]; omega))]; first | with_reducible assumption | (simp [go_sem]; done) | (simp [go_sem, *]; done)
  have hz1_0 : w.heap.size < w1.heap.size := by omega
  have hy1_0 : w.heap.size ≤ w1.heap.size := by omega
  have hz1_1 : w.heap.size + 1 < w1.heap.size := by omega
  have hy1_1 : w.heap.size + 1 ≤ w1.heap.size := by omega
  go_wp2_with fail
  refine (HD.at _).mono ?_
  rintro e w2 ⟨rfl, hb2⟩
  obtain ⟨hc2, hf2⟩ := rulesB (B := w.heap.size + 2) hb2 (by first | omega | (simp only [World.size_alloc, World.size_setCell, World.size_drew]; omega))
  have hs2 := hb2.size
  try simp only [World.size_alloc, World.size_setCell, World.size_drew] at hs2
  go_wp2
  go_ret
  refine ⟨rfl, ?_⟩
  repeat (first | with_reducible exact Below.refl _ _ | with_reducible refine Below.setCell ?_ (by first | omega | (simp only [World.size_alloc, World.size_setCell, World.size_drew]; omega)) _ | with_reducible refine Below.alloc ?_ (by first | omega | (simp only [World.size_alloc, World.size_setCell, World.size_drew]; omega)) _ | with_reducible refine Below.drew ?_ | with_reducible refine Below.trans ?_ (hb2.mono (by first | omega | (simp only [World.size_alloc, World.size_setCell, World.size_drew]; omega))) | with_reducible refine Below.trans ?_ (hb1.mono (by first | omega | (simp only [World.size_alloc, World.size_setCell, World.size_drew]; omega))))
end

/-- Two prefixes compared. -/
def pcmp (sa : Bool) (ha la n : Int) (sb : Bool) (hb lb m : Int) : Int :=
  if scmp sa (mh sa ha n) (ml sa la n) sb (mh sb hb m) (ml sb lb m) = 0 then if n = m then scmp sa ha la sb hb lb else sgn n m else scmp sa (mh sa ha n) (ml sa la n) sb (mh sb hb m) (ml sb lb m)

theorem specCP_any {sa sb : Bool} {ha la n hb lb m : Int} (hA : InAd sa ha la) (hB : InAd sb hb lb) (n0 : 0 ≤ n) (n1 : n ≤ wide sa) (m0 : 0 ≤ m) (m1 : m ≤ wide sb) :
    Ret 10 #[.agg #[.bool sa, .int .u64 (ha), .int .u64 (la), .int .i64 (n)], .agg #[.bool sb, .int .u64 (hb), .int .u64 (lb), .int .i64 (m)]] (.int .i64 (pcmp sa ha la n sb hb lb m)) := by
  have HA := specMasked_of _ _ _ _ _ _ (top_any hA n0 n1)
  have HB := specMasked_of _ _ _ _ _ _ (top_any hB m0 m1)
  have HC := specCompare_any sa sb (mh sa ha n) (ml sa la n) (mh sb hb m) (ml sb lb m)
  unfold pcmp
  by_cases c : scmp sa (mh sa ha n) (ml sa la n) sb (mh sb hb m) (ml sb lb m) = 0
  · rw [if_pos c]
    rw [c] at HC
    by_cases e : n = m
    · subst e; rw [if_pos rfl]; exact specCP_eq _ _ _ _ _ _ _ _ _ _ _ _ HA HB HC (specCompare_any _ _ _ _ _ _)
    · rw [if_neg e]; exact specCP_bits _ _ _ _ _ _ _ _ _ _ _ _ HA HB HC (beq_eq_false_iff_ne.2 e)
  · rw [if_neg c]; exact specCP_ne _ _ _ _ _ _ _ _ _ _ _ _ _ HA HB HC (beq_eq_false_iff_ne.2 c)
end Go.Proofs.YtkploaapcpjkbaaDoor
