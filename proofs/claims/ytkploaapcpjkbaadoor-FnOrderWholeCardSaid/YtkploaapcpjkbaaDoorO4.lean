/- Contracts: the reference's Prefix, top. -/
import Derived.Test.YtkploaapcpjkbaaDoorO3
namespace Go.Proofs.YtkploaapcpjkbaaDoor
open Go Go.RowKit Go.Sort
set_option linter.unusedVariables false
set_option linter.unusedSimpArgs false
attribute [local go_sem] cell_gr

theorem specLen4 (hi lo : Int) : Ret 14 #[.agg #[.bool false, .int .u64 (hi), .int .u64 (lo)]] (.int .i64 32) := specLen_any false hi lo
theorem specLen6 (hi lo : Int) : Ret 14 #[.agg #[.bool true, .int .u64 (hi), .int .u64 (lo)]] (.int .i64 128) := specLen_any true hi lo


set_option maxHeartbeats 800000 in
theorem specPrefix_v4 (hi lo n : Int) (h0 : 0 ≤ n) (h1 : n < 256) : Ret 5 #[.agg #[.bool false, .int .u64 (hi), .int .u64 (lo)], .int .u8 n] (.agg #[.bool false, .int .u64 (hi), .int .u64 (lo), .int .i64 (n % 33)]) := by
  intro w
  have e0 : IntKind.i64.wrap n = n := by rw [IntKind.wrap_i64]; omega
  have e1 : Int.tmod n 33 = n % 33 := Int.tmod_eq_emod_of_nonneg h0
  have e3 : IntKind.i64.wrap (n % 33) = n % 33 := by rw [IntKind.wrap_i64]; omega
  have e5 : IntKind.i64.wrap 33 = 33 := by decide
  go_enter Tryd.func5, Tryd.ntmps5
  go_wp2
  refine region_tail 8 (by kernel_rfl) (by kernel_rfl) ?_
  simp only [List.take_succ_cons, List.take_zero, List.drop_succ_cons, List.drop_zero]
  repeat quiet_step (fail)
  quiet_step (with_reducible exact Calls.regrown_of ((specLen4 _ _).at _))
  repeat quiet_step (fail)
  refine wpQuiet_nil ?_
  intro w1 hb1
  obtain ⟨hc1, hf1⟩ := rules hb1
  have hs1 := hb1.size
  try simp only [World.size_alloc, World.size_setCell, World.size_drew] at hs1
  go_wp2
  refine bodyPost_ret (v := .agg #[.bool false, .int .u64 (hi), .int .u64 (lo), .int .i64 (n % 33)]) ?_ rfl ⟨rfl, ?_⟩
  · simp [results, Tryd.results5, go_sem, hc1]
  repeat (first | with_reducible exact Below.refl _ _ | with_reducible refine Below.setCell ?_ (by first | omega | (simp only [World.size_alloc, World.size_setCell, World.size_drew]; omega)) _ | with_reducible refine Below.alloc ?_ (by first | omega | (simp only [World.size_alloc, World.size_setCell, World.size_drew]; omega)) _ | with_reducible refine Below.drew ?_ | with_reducible refine Below.trans ?_ (hb1.mono (by first | omega | (simp only [World.size_alloc, World.size_setCell, World.size_drew]; omega))))

set_option maxHeartbeats 800000 in
theorem specPrefix_v6 (hi lo n : Int) (h0 : 0 ≤ n) (h1 : n < 256) : Ret 5 #[.agg #[.bool true, .int .u64 (hi), .int .u64 (lo)], .int .u8 n] (.agg #[.bool true, .int .u64 (hi), .int .u64 (lo), .int .i64 (n % 129)]) := by
  intro w
  have e0 : IntKind.i64.wrap n = n := by rw [IntKind.wrap_i64]; omega
  have e1 : Int.tmod n 129 = n % 129 := Int.tmod_eq_emod_of_nonneg h0
  have e3 : IntKind.i64.wrap (n % 129) = n % 129 := by rw [IntKind.wrap_i64]; omega
  have e5 : IntKind.i64.wrap 129 = 129 := by decide
  go_enter Tryd.func5, Tryd.ntmps5
  go_wp2
  refine region_tail 8 (by kernel_rfl) (by kernel_rfl) ?_
  simp only [List.take_succ_cons, List.take_zero, List.drop_succ_cons, List.drop_zero]
  repeat quiet_step (fail)
  quiet_step (with_reducible exact Calls.regrown_of ((specLen6 _ _).at _))
  repeat quiet_step (fail)
  refine wpQuiet_nil ?_
  intro w1 hb1
  obtain ⟨hc1, hf1⟩ := rules hb1
  have hs1 := hb1.size
  try simp only [World.size_alloc, World.size_setCell, World.size_drew] at hs1
  go_wp2
  refine bodyPost_ret (v := .agg #[.bool true, .int .u64 (hi), .int .u64 (lo), .int .i64 (n % 129)]) ?_ rfl ⟨rfl, ?_⟩
  · simp [results, Tryd.results5, go_sem, hc1]
  repeat (first | with_reducible exact Below.refl _ _ | with_reducible refine Below.setCell ?_ (by first | omega | (simp only [World.size_alloc, World.size_setCell, World.size_drew]; omega)) _ | with_reducible refine Below.alloc ?_ (by first | omega | (simp only [World.size_alloc, World.size_setCell, World.size_drew]; omega)) _ | with_reducible refine Below.drew ?_ | with_reducible refine Below.trans ?_ (hb1.mono (by first | omega | (simp only [World.size_alloc, World.size_setCell, World.size_drew]; omega))))

theorem specPrefix_any (six : Bool) (hi lo n : Int) (h0 : 0 ≤ n) (h1 : n < 256) : Ret 5 #[.agg #[.bool six, .int .u64 (hi), .int .u64 (lo)], .int .u8 n] (.agg #[.bool six, .int .u64 (hi), .int .u64 (lo), .int .i64 (n % (wide six + 1))]) := by
  cases six
  · exact specPrefix_v4 hi lo n h0 h1
  · exact specPrefix_v6 hi lo n h0 h1

set_option maxHeartbeats 800000 in
theorem top_v4 (hi lo n k : Int) (m : Nat) (H : IntKind.i64.wrap (32 - n) = k) (hk : 0 ≤ k) (hm : min k.toNat 64 = m) (hw : IntKind.u64.wrap (lo / 2 ^ m * 2 ^ m) = lo / 2 ^ m * 2 ^ m) :
    Ret 36 #[.agg #[.bool false, .int .u64 (hi), .int .u64 (lo)], .int .i64 n] (.agg #[.bool false, .int .u64 (hi), .int .u64 (lo / 2 ^ m * 2 ^ m)]) := by
  intro w
  go_enter Tryd.func36, Tryd.ntmps36
  go_wp2
  refine bodyPost_ret (v := .agg #[.bool false, .int .u64 (hi), .int .u64 (lo / 2 ^ m * 2 ^ m)]) ?_ rfl ⟨rfl, ?_⟩
  · simp [results, Tryd.results36, go_sem]
  repeat (first | with_reducible exact Below.refl _ _ | with_reducible refine Below.setCell ?_ (by first | omega | (simp only [World.size_alloc, World.size_setCell, World.size_drew]; omega)) _ | with_reducible refine Below.alloc ?_ (by first | omega | (simp only [World.size_alloc, World.size_setCell, World.size_drew]; omega)) _ | with_reducible refine Below.drew ?_)
set_option maxHeartbeats 800000 in
theorem top_v6_hi (hi lo n k : Int) (m : Nat) (hn : n ≤ 64) (H : IntKind.i64.wrap (64 - n) = k) (hk : 0 ≤ k) (hm : min k.toNat 64 = m) (hw : IntKind.u64.wrap (hi / 2 ^ m * 2 ^ m) = hi / 2 ^ m * 2 ^ m) :
    Ret 36 #[.agg #[.bool true, .int .u64 (hi), .int .u64 (lo)], .int .i64 n] (.agg #[.bool true, .int .u64 (hi / 2 ^ m * 2 ^ m), .int .u64 (0)]) := by
  intro w
  go_enter Tryd.func36, Tryd.ntmps36
  go_wp2
  refine bodyPost_ret (v := .agg #[.bool true, .int .u64 (hi / 2 ^ m * 2 ^ m), .int .u64 (0)]) ?_ rfl ⟨rfl, ?_⟩
  · simp [results, Tryd.results36, go_sem]
  repeat (first | with_reducible exact Below.refl _ _ | with_reducible refine Below.setCell ?_ (by first | omega | (simp only [World.size_alloc, World.size_setCell, World.size_drew]; omega)) _ | with_reducible refine Below.alloc ?_ (by first | omega | (simp only [World.size_alloc, World.size_setCell, World.size_drew]; omega)) _ | with_reducible refine Below.drew ?_)
set_option maxHeartbeats 800000 in
theorem top_v6_lo (hi lo n k : Int) (m : Nat) (hn : ¬ n ≤ 64) (H : IntKind.i64.wrap (128 - n) = k) (hk : 0 ≤ k) (hm : min k.toNat 64 = m) (hw : IntKind.u64.wrap (lo / 2 ^ m * 2 ^ m) = lo / 2 ^ m * 2 ^ m) :
    Ret 36 #[.agg #[.bool true, .int .u64 (hi), .int .u64 (lo)], .int .i64 n] (.agg #[.bool true, .int .u64 (hi), .int .u64 (lo / 2 ^ m * 2 ^ m)]) := by
  intro w
  go_enter Tryd.func36, Tryd.ntmps36
  go_wp2
  refine bodyPost_ret (v := .agg #[.bool true, .int .u64 (hi), .int .u64 (lo / 2 ^ m * 2 ^ m)]) ?_ rfl ⟨rfl, ?_⟩
  · simp [results, Tryd.results36, go_sem]
  repeat (first | with_reducible exact Below.refl _ _ | with_reducible refine Below.setCell ?_ (by first | omega | (simp only [World.size_alloc, World.size_setCell, World.size_drew]; omega)) _ | with_reducible refine Below.alloc ?_ (by first | omega | (simp only [World.size_alloc, World.size_setCell, World.size_drew]; omega)) _ | with_reducible refine Below.drew ?_)
end Go.Proofs.YtkploaapcpjkbaaDoor
