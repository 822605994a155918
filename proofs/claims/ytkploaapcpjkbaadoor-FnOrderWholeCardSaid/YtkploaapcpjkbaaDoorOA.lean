/- The walk of laws.FnOrderWhole. -/
import Derived.Test.YtkploaapcpjkbaaDoorO9
import Derived.Test.YtkploaapcpjkbaaDoorC3
namespace Go.Proofs.YtkploaapcpjkbaaDoor
open Go Go.RowKit Go.Sort
set_option linter.unusedVariables false
set_option linter.unusedSimpArgs false
attribute [local go_sem] cell_gr

theorem masked_in {six : Bool} {hi lo n : Int} (h : InAd six hi lo) : InAd six (mh six hi n) (ml six lo n) := by
  have b1 := fun m => floor_bd hi m h.h0
  have b2 := fun m => floor_bd lo m h.l0
  have l0 := h.l0; have l1 := h.l1; have h0 := h.h0; have h1 := h.h1
  cases six
  · have f := h.four rfl
    have := b2 (32 - n).toNat
    exact ⟨h.h0, h.h1, this.1, by simp only [ml, Bool.false_eq_true, if_false]; omega, fun _ => ⟨f.1, by simp only [ml, Bool.false_eq_true, if_false]; omega⟩⟩
  · by_cases c : n ≤ 64
    · have := b1 (64 - n).toNat
      exact ⟨by simp only [mh, if_true, if_pos c]; omega, by simp only [mh, if_true, if_pos c]; omega, by simp [ml, c], by simp [ml, c], fun h => by cases h⟩
    · have := b2 (128 - n).toNat
      exact ⟨by simp only [mh, if_true, if_neg c]; omega, by simp only [mh, if_true, if_neg c]; omega, by simp only [ml, if_true, if_neg c]; omega, by simp only [ml, if_true, if_neg c]; omega, fun h => by cases h⟩

theorem sgn_zero {a b : Int} (h : (sgn a b == 0) = false) : a ≠ b := by rintro rfl; simp [sgn] at h
theorem sgn_ne {a b : Int} (h : a ≠ b) : (sgn a b == 0) = false := by
  unfold sgn; split
  · rfl
  · split
    · rfl
    · omega
theorem sgn_self (a : Int) : sgn a a = 0 := by simp [sgn]

theorem implCP_any {sa sb : Bool} {ha la n hb lb m : Int} (hA : InAd sa ha la) (hB : InAd sb hb lb) (n0 : 0 ≤ n) (n1 : n ≤ wide sa) (m0 : 0 ≤ m) (m1 : m ≤ wide sb) :
    Ret 9 #[.agg #[.bool sa, .int .u64 (ha), .int .u64 (la), .int .i64 (n)], .agg #[.bool sb, .int .u64 (hb), .int .u64 (lb), .int .i64 (m)]] (.int .i64 (pcmp sa ha la n sb hb lb m)) := by
  have wA : wide sa ≤ 128 := by unfold wide; split <;> omega
  have wB : wide sb ≤ 128 := by unfold wide; split <;> omega
  have PA := implPrefix_of sa sa ha la _ _ n _ (given_six hA) (prefixFrom_any sa _ _ n n0 n1)
  have PB := implPrefix_of sb sb hb lb _ _ m _ (given_six hB) (prefixFrom_any sb _ _ m m0 m1)
  have MA := masked_given hA n0 n1
  have MB := masked_given hB m0 m1
  have HC := compare_any sa sb (gh sa (mh sa ha n)) (gl sa (ml sa la n)) (gh sb (mh sb hb m)) (gl sb (ml sb lb m))
  rw [scmp_given (masked_in hA) (masked_in hB)] at HC
  have HD := compare_any sa sb (gh sa ha) (gl sa la) (gh sb hb) (gl sb lb)
  rw [scmp_given hA hB] at HD
  refine implCP_of sa sb ha la n hb lb m _ _ _ _ _ PA PB ?_
  unfold pcmp
  by_cases c : scmp sa (mh sa ha n) (ml sa la n) sb (mh sb hb m) (ml sb lb m) = 0
  · rw [if_pos c]
    rw [c] at HC
    by_cases e : n = m
    · subst e
      rw [if_pos rfl]
      have HS := cmp_any n n
      rw [sgn_self] at HS
      exact pfxCompare_eq _ _ _ _ _ _ _ _ _ _ _ _ MA MB HC n0 (by omega) HS HD
    · rw [if_neg e]
      exact pfxCompare_bits _ _ _ _ _ _ _ _ _ _ _ _ _ MA MB HC n0 (by omega) m0 (by omega) (sgn_ne e) (cmp_any n m)
  · rw [if_neg c]
    exact pfxCompare_ne _ _ _ _ _ _ _ _ _ _ _ _ _ MA MB HC (beq_eq_false_iff_ne.2 c)

set_option maxHeartbeats 3200000 in
theorem order_of (sa sb : Bool) (h1 l1 ha la b n h2 l2 hb lb d m c e : Int)
    (A1 : Ret 6 #[.bool sa, .int .u64 h1, .int .u64 l1] (.agg #[.bool sa, .int .u64 (ha), .int .u64 (la)])) (A2 : Ret 6 #[.bool sb, .int .u64 h2, .int .u64 l2] (.agg #[.bool sb, .int .u64 (hb), .int .u64 (lb)]))
    (P1 : Ret 5 #[.agg #[.bool sa, .int .u64 (ha), .int .u64 (la)], .int .u8 b] (.agg #[.bool sa, .int .u64 (ha), .int .u64 (la), .int .i64 (n)])) (P2 : Ret 5 #[.agg #[.bool sb, .int .u64 (hb), .int .u64 (lb)], .int .u8 d] (.agg #[.bool sb, .int .u64 (hb), .int .u64 (lb), .int .i64 (m)]))
    (C1 : Ret 7 #[.agg #[.bool sa, .int .u64 (ha), .int .u64 (la)], .agg #[.bool sb, .int .u64 (hb), .int .u64 (lb)]] (.int .i64 c)) (C2 : Ret 8 #[.agg #[.bool sa, .int .u64 (ha), .int .u64 (la)], .agg #[.bool sb, .int .u64 (hb), .int .u64 (lb)]] (.int .i64 c))
    (D1 : Ret 9 #[.agg #[.bool sa, .int .u64 (ha), .int .u64 (la), .int .i64 (n)], .agg #[.bool sb, .int .u64 (hb), .int .u64 (lb), .int .i64 (m)]] (.int .i64 e)) (D2 : Ret 10 #[.agg #[.bool sa, .int .u64 (ha), .int .u64 (la), .int .i64 (n)], .agg #[.bool sb, .int .u64 (hb), .int .u64 (lb), .int .i64 (m)]] (.int .i64 e)) (w : World) :
    Calls Tryd.prog 3 #[.bool sa, .int .u64 h1, .int .u64 l1, .int .u8 b, .bool sb, .int .u64 h2, .int .u64 l2, .int .u8 d] w fun r w' => r = .returned (.bool true) ∧ Below w.heap.size w w' := by
  go_enter Tryd.func3, Tryd.ntmps3
  go_wp2_with fail
  refine (A1.at _).mono ?_
  rintro e w1 ⟨rfl, hb1⟩
  obtain ⟨hc1, hf1⟩ := rulesB (B := w.heap.size) hb1 (by first | omega | (simp only [World.size_alloc, World.size_setCell, World.size_drew]; omega))
  have hs1 := hb1.size
  try simp only [World.size_alloc, World.size_setCell, World.size_drew] at hs1
  go_wp2_with fail
  refine (P1.at _).mono ?_
  rintro e w2 ⟨rfl, hb2⟩
  obtain ⟨hc2, hf2⟩ := rulesB (B := w1.heap.size) hb2 (by first | omega | (simp only [World.size_alloc, World.size_setCell, World.size_drew]; omega))
  have hs2 := hb2.size
  try simp only [World.size_alloc, World.size_setCell, World.size_drew] at hs2
  go_wp2_with fail
  refine (A2.at _).mono ?_
  rintro e w3 ⟨rfl, hb3⟩
  obtain ⟨hc3, hf3⟩ := rulesB (B := w2.heap.size + 1) hb3 (by first | omega | (simp only [World.size_alloc, World.size_setCell, World.size_drew]; omega))
  have hs3 := hb3.size
  try simp only [World.size_alloc, World.size_setCell, World.size_drew] at hs3
  have qa3_0 : w3.cell? ⟨w2.heap.size, 0, none⟩ = some (.bool sa) := by rw [hc3 _ _ (by first | omega | (simp only [World.size_alloc, World.size_setCell, World.size_drew]; omega))]; first | with_reducible assumption | (simp [go_sem]; done) | (simp [go_sem, *]; done)
  have qa3_1 : w3.cell? ⟨w2.heap.size, 1, none⟩ = some (.int .u64 ha) := by rw [hc3 _ _ (by first | omega | (simp only [World.size_alloc, World.size_setCell, World.size_drew]; omega))]; first | with_reducible assumption | (simp [go_sem]; done) | (simp [go_sem, *]; done)
  have qa3_2 : w3.cell? ⟨w2.heap.size, 2, none⟩ = some (.int .u64 la) := by rw [hc3 _ _ (by first | omega | (simp only [World.size_alloc, World.size_setCell, World.size_drew]; omega))]; first | with_reducible assumption | (simp [go_sem]; done) | (simp [go_sem, *]; done)
  have qa3_3 : w3.cell? ⟨w2.heap.size, 3, none⟩ = some (.int .i64 n) := by rw [hc3 _ _ (by first | omega | (simp only [World.size_alloc, World.size_setCell, World.size_drew]; omega))]; first | with_reducible assumption | (simp [go_sem]; done) | (simp [go_sem, *]; done)
  have z3 : w2.heap.size < w3.heap.size := by omega
  go_wp2_with fail
  refine (P2.at _).mono ?_
  rintro e w4 ⟨rfl, hb4⟩
  obtain ⟨hc4, hf4⟩ := rulesB (B := w3.heap.size) hb4 (by first | omega | (simp only [World.size_alloc, World.size_setCell, World.size_drew]; omega))
  have hs4 := hb4.size
  try simp only [World.size_alloc, World.size_setCell, World.size_drew] at hs4
  have qa4_0 : w4.cell? ⟨w2.heap.size, 0, none⟩ = some (.bool sa) := by rw [hc4 _ _ (by first | omega | (simp only [World.size_alloc, World.size_setCell, World.size_drew]; omega))]; first | with_reducible assumption | (simp [go_sem]; done) | (simp [go_sem, *]; done)
  have qa4_1 : w4.cell? ⟨w2.heap.size, 1, none⟩ = some (.int .u64 ha) := by rw [hc4 _ _ (by first | omega | (simp only [World.size_alloc, World.size_setCell, World.size_drew]; omega))]; first | with_reducible assumption | (simp [go_sem]; done) | (simp [go_sem, *]; done)
  have qa4_2 : w4.cell? ⟨w2.heap.size, 2, none⟩ = some (.int .u64 la) := by rw [hc4 _ _ (by first | omega | (simp only [World.size_alloc, World.size_setCell, World.size_drew]; omega))]; first | with_reducible assumption | (simp [go_sem]; done) | (simp [go_sem, *]; done)
  have qa4_3 : w4.cell? ⟨w2.heap.size, 3, none⟩ = some (.int .i64 n) := by rw [hc4 _ _ (by first | omega | (simp only [World.size_alloc, World.size_setCell, World.size_drew]; omega))]; first | with_reducible assumption | (simp [go_sem]; done) | (simp [go_sem, *]; done)
  have z4 : w2.heap.size < w4.heap.size := by omega
  go_wp2
  refine wp_region_quiet_below (by kernel_rfl) (by kernel_rfl) ?_
  repeat quiet_step (fail)
  quiet_step (with_reducible exact Calls.regrown_of (C1.at _))
  repeat quiet_step (fail)
  quiet_step (with_reducible exact Calls.regrown_of (C2.at _))
  repeat quiet_step (fail)
  quiet_step (with_reducible exact Calls.regrown_of (D1.at _))
  repeat quiet_step (fail)
  quiet_step (with_reducible exact Calls.regrown_of (D2.at _))
  repeat quiet_step (fail)
  quiet_step (with_reducible exact Calls.regrown_of (sane_any _))
  repeat quiet_step (fail)
  refine wpQuiet_nil ?_
  intro w5 hb5
  replace hb5 := below_of hb5
  obtain ⟨hc5, hf5⟩ := rules hb5
  have hs5 := hb5.size
  try simp only [World.size_alloc, World.size_setCell, World.size_drew] at hs5
  go_wp2
  go_ret
  refine ⟨rfl, ?_⟩
  repeat (first | with_reducible exact Below.refl _ _ | with_reducible refine Below.setCell ?_ (by first | omega | (simp only [World.size_alloc, World.size_setCell, World.size_drew]; omega)) _ | with_reducible refine Below.alloc ?_ (by first | omega | (simp only [World.size_alloc, World.size_setCell, World.size_drew]; omega)) _ | with_reducible refine Below.drew ?_ | with_reducible refine Below.trans ?_ (hb5.mono (by first | omega | (simp only [World.size_alloc, World.size_setCell, World.size_drew]; omega))) | with_reducible refine Below.trans ?_ (hb4.mono (by first | omega | (simp only [World.size_alloc, World.size_setCell, World.size_drew]; omega))) | with_reducible refine Below.trans ?_ (hb3.mono (by first | omega | (simp only [World.size_alloc, World.size_setCell, World.size_drew]; omega))) | with_reducible refine Below.trans ?_ (hb2.mono (by first | omega | (simp only [World.size_alloc, World.size_setCell, World.size_drew]; omega))) | with_reducible refine Below.trans ?_ (hb1.mono (by first | omega | (simp only [World.size_alloc, World.size_setCell, World.size_drew]; omega))))
end Go.Proofs.YtkploaapcpjkbaaDoor
