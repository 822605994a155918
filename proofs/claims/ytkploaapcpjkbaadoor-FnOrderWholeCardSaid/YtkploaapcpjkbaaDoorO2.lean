/- Contracts: Compare of two addresses of one family. -/
import Derived.Test.YtkploaapcpjkbaaDoorO1
namespace Go.Proofs.YtkploaapcpjkbaaDoor
open Go Go.RowKit Go.Sort
set_option linter.unusedVariables false
set_option linter.unusedSimpArgs false
attribute [local go_sem] cell_gr

set_option maxHeartbeats 1600000 in
theorem compare_hi_lt (s : Bool) (ha la hb lb : Int) (d : decide (ha < hb) = true) : Ret 16 #[.agg #[.int .u64 (ha), .int .u64 (la), .bool true, .bool s, .string ⟨#[]⟩], .agg #[.int .u64 (hb), .int .u64 (lb), .bool true, .bool s, .string ⟨#[]⟩]] (.int .i64 (-1)) := by
  intro w
  cases s
  · go_enter Tryd.func16, Tryd.ntmps16
    go_wp2
    refine wp_region_quiet_below (by kernel_rfl) (by kernel_rfl) ?_
    repeat quiet_step (fail)
    quiet_step (with_reducible exact Calls.regrown_of ((bitLen_v4 _ _).at _))
    repeat quiet_step (fail)
    quiet_step (with_reducible exact Calls.regrown_of ((bitLen_v4 _ _).at _))
    repeat quiet_step (fail)
    refine wpQuiet_nil ?_
    intro w1 hb1
    replace hb1 := below_of hb1
    obtain ⟨hc1, hf1⟩ := rules hb1
    have hs1 := hb1.size
    try simp only [World.size_alloc, World.size_setCell, World.size_drew] at hs1
    have qa1_0 : w1.cell? ⟨w.heap.size, 0, none⟩ = some (.int .u64 ha) := by rw [hc1 _ _ (by first | omega | (simp only [World.size_alloc, World.size_setCell, World.size_drew]; omega))]; first | with_reducible assumption | (simp [go_sem]; done) | (simp [go_sem, *]; done)
    have qa1_1 : w1.cell? ⟨w.heap.size, 1, none⟩ = some (.int .u64 la) := by rw [hc1 _ _ (by first | omega | (simp only [World.size_alloc, World.size_setCell, World.size_drew]; omega))]; first | with_reducible assumption | (simp [go_sem]; done) | (simp [go_sem, *]; done)
    have qa1_2 : w1.cell? ⟨w.heap.size, 2, none⟩ = some (.bool true) := by rw [hc1 _ _ (by first | omega | (simp only [World.size_alloc, World.size_setCell, World.size_drew]; omega))]; first | with_reducible assumption | (simp [go_sem]; done) | (simp [go_sem, *]; done)
    have qa1_3 : w1.cell? ⟨w.heap.size, 3, none⟩ = some (.bool false) := by rw [hc1 _ _ (by first | omega | (simp only [World.size_alloc, World.size_setCell, World.size_drew]; omega))]; first | with_reducible assumption | (simp [go_sem]; done) | (simp [go_sem, *]; done)
    have qa1_4 : w1.cell? ⟨w.heap.size, 4, none⟩ = some (.string ⟨#[]⟩) := by rw [hc1 _ _ (by first | omega | (simp only [World.size_alloc, World.size_setCell, World.size_drew]; omega))]; first | with_reducible assumption | (simp [go_sem]; done) | (simp [go_sem, *]; done)
    have qb1_0 : w1.cell? ⟨w.heap.size + 1, 0, none⟩ = some (.int .u64 hb) := by rw [hc1 _ _ (by first | omega | (simp only [World.size_alloc, World.size_setCell, World.size_drew]; omega))]; first | with_reducible assumption | (simp [go_sem]; done) | (simp [go_sem, *]; done)
    have qb1_1 : w1.cell? ⟨w.heap.size + 1, 1, none⟩ = some (.int .u64 lb) := by rw [hc1 _ _ (by first | omega | (simp only [World.size_alloc, World.size_setCell, World.size_drew]; omega))]; first | with_reducible assumption | (simp [go_sem]; done) | (simp [go_sem, *]; done)
    have qb1_2 : w1.cell? ⟨w.heap.size + 1, 2, none⟩ = some (.bool true) := by rw [hc1 _ _ (by first | omega | (simp only [World.size_alloc, World.size_setCell, World.size_drew]; omega))]; first | with_reducible assumption | (simp [go_sem]; done) | (simp [go_sem, *]; done)
    have qb1_3 : w1.cell? ⟨w.heap.size + 1, 3, none⟩ = some (.bool false) := by rw [hc1 _ _ (by first | omega | (simp only [World.size_alloc, World.size_setCell, World.size_drew]; omega))]; first | with_reducible assumption | (simp [go_sem]; done) | (simp [go_sem, *]; done)
    have qb1_4 : w1.cell? ⟨w.heap.size + 1, 4, none⟩ = some (.string ⟨#[]⟩) := by rw [hc1 _ _ (by first | omega | (simp only [World.size_alloc, World.size_setCell, World.size_drew]; omega))]; first | with_reducible assumption | (simp [go_sem]; done) | (simp [go_sem, *]; done)
    have hz1_0 : w.heap.size < w1.heap.size := by omega
    have hy1_0 : w.heap.size ≤ w1.heap.size := by omega
    have hz1_1 : w.heap.size + 1 < w1.heap.size := by omega
    have hy1_1 : w.heap.size + 1 ≤ w1.heap.size := by omega
    go_wp2
    refine wp_region_quiet_below (by kernel_rfl) (by kernel_rfl) ?_
    repeat quiet_step (fail)
    refine wpQuiet_nil ?_
    intro w2 hb2
    replace hb2 := below_of hb2
    obtain ⟨hc2, hf2⟩ := rules hb2
    have hs2 := hb2.size
    try simp only [World.size_alloc, World.size_setCell, World.size_drew] at hs2
    have qa2_0 : w2.cell? ⟨w.heap.size, 0, none⟩ = some (.int .u64 ha) := by rw [hc2 _ _ (by first | omega | (simp only [World.size_alloc, World.size_setCell, World.size_drew]; omega))]; first | with_reducible assumption | (simp [go_sem]; done) | (simp [go_sem, *]; done)
    have qa2_1 : w2.cell? ⟨w.heap.size, 1, none⟩ = some (.int .u64 la) := by rw [hc2 _ _ (by first | omega | (simp only [World.size_alloc, World.size_setCell, World.size_drew]; omega))]; first | with_reducible assumption | (simp [go_sem]; done) | (simp [go_sem, *]; done)
    have qa2_2 : w2.cell? ⟨w.heap.size, 2, none⟩ = some (.bool true) := by rw [hc2 _ _ (by first | omega | (simp only [World.size_alloc, World.size_setCell, World.size_drew]; omega))]; first | with_reducible assumption | (simp [go_sem]; done) | (simp [go_sem, *]; done)
    have qa2_3 : w2.cell? ⟨w.heap.size, 3, none⟩ = some (.bool false) := by rw [hc2 _ _ (by first | omega | (simp only [World.size_alloc, World.size_setCell, World.size_drew]; omega))]; first | with_reducible assumption | (simp [go_sem]; done) | (simp [go_sem, *]; done)
    have qa2_4 : w2.cell? ⟨w.heap.size, 4, none⟩ = some (.string ⟨#[]⟩) := by rw [hc2 _ _ (by first | omega | (simp only [World.size_alloc, World.size_setCell, World.size_drew]; omega))]; first | with_reducible assumption | (simp [go_sem]; done) | (simp [go_sem, *]; done)
    have qb2_0 : w2.cell? ⟨w.heap.size + 1, 0, none⟩ = some (.int .u64 hb) := by rw [hc2 _ _ (by first | omega | (simp only [World.size_alloc, World.size_setCell, World.size_drew]; omega))]; first | with_reducible assumption | (simp [go_sem]; done) | (simp [go_sem, *]; done)
    have qb2_1 : w2.cell? ⟨w.heap.size + 1, 1, none⟩ = some (.int .u64 lb) := by rw [hc2 _ _ (by first | omega | (simp only [World.size_alloc, World.size_setCell, World.size_drew]; omega))]; first | with_reducible assumption | (simp [go_sem]; done) | (simp [go_sem, *]; done)
    have qb2_2 : w2.cell? ⟨w.heap.size + 1, 2, none⟩ = some (.bool true) := by rw [hc2 _ _ (by first | omega | (simp only [World.size_alloc, World.size_setCell, World.size_drew]; omega))]; first | with_reducible assumption | (simp [go_sem]; done) | (simp [go_sem, *]; done)
    have qb2_3 : w2.cell? ⟨w.heap.size + 1, 3, none⟩ = some (.bool false) := by rw [hc2 _ _ (by first | omega | (simp only [World.size_alloc, World.size_setCell, World.size_drew]; omega))]; first | with_reducible assumption | (simp [go_sem]; done) | (simp [go_sem, *]; done)
    have qb2_4 : w2.cell? ⟨w.heap.size + 1, 4, none⟩ = some (.string ⟨#[]⟩) := by rw [hc2 _ _ (by first | omega | (simp only [World.size_alloc, World.size_setCell, World.size_drew]; omega))]; first | with_reducible assumption | (simp [go_sem]; done) | (simp [go_sem, *]; done)
    have hz2_0 : w.heap.size < w2.heap.size := by omega
    have hy2_0 : w.heap.size ≤ w2.heap.size := by omega
    have hz2_1 : w.heap.size + 1 < w2.heap.size := by omega
    have hy2_1 : w.heap.size + 1 ≤ w2.heap.size := by omega
    go_wp2
    go_ret
    refine ⟨rfl, ?_⟩
    repeat (first | with_reducible exact Below.refl _ _ | with_reducible refine Below.setCell ?_ (by first | omega | (simp only [World.size_alloc, World.size_setCell, World.size_drew]; omega)) _ | with_reducible refine Below.alloc ?_ (by first | omega | (simp only [World.size_alloc, World.size_setCell, World.size_drew]; omega)) _ | with_reducible refine Below.drew ?_ | with_reducible refine Below.trans ?_ (hb2.mono (by first | omega | (simp only [World.size_alloc, World.size_setCell, World.size_drew]; omega))) | with_reducible refine Below.trans ?_ (hb1.mono (by first | omega | (simp only [World.size_alloc, World.size_setCell, World.size_drew]; omega))))
  · go_enter Tryd.func16, Tryd.ntmps16
    go_wp2
    refine wp_region_quiet_below (by kernel_rfl) (by kernel_rfl) ?_
    repeat quiet_step (fail)
    quiet_step (with_reducible exact Calls.regrown_of ((bitLen_v6 _ _).at _))
    repeat quiet_step (fail)
    quiet_step (with_reducible exact Calls.regrown_of ((bitLen_v6 _ _).at _))
    repeat quiet_step (fail)
    refine wpQuiet_nil ?_
    intro w1 hb1
    replace hb1 := below_of hb1
    obtain ⟨hc1, hf1⟩ := rules hb1
    have hs1 := hb1.size
    try simp only [World.size_alloc, World.size_setCell, World.size_drew] at hs1
    have qa1_0 : w1.cell? ⟨w.heap.size, 0, none⟩ = some (.int .u64 ha) := by rw [hc1 _ _ (by first | omega | (simp only [World.size_alloc, World.size_setCell, World.size_drew]; omega))]; first | with_reducible assumption | (simp [go_sem]; done) | (simp [go_sem, *]; done)
    have qa1_1 : w1.cell? ⟨w.heap.size, 1, none⟩ = some (.int .u64 la) := by rw [hc1 _ _ (by first | omega | (simp only [World.size_alloc, World.size_setCell, World.size_drew]; omega))]; first | with_reducible assumption | (simp [go_sem]; done) | (simp [go_sem, *]; done)
    have qa1_2 : w1.cell? ⟨w.heap.size, 2, none⟩ = some (.bool true) := by rw [hc1 _ _ (by first | omega | (simp only [World.size_alloc, World.size_setCell, World.size_drew]; omega))]; first | with_reducible assumption | (simp [go_sem]; done) | (simp [go_sem, *]; done)
    have qa1_3 : w1.cell? ⟨w.heap.size, 3, none⟩ = some (.bool true) := by rw [hc1 _ _ (by first | omega | (simp only [World.size_alloc, World.size_setCell, World.size_drew]; omega))]; first | with_reducible assumption | (simp [go_sem]; done) | (simp [go_sem, *]; done)
    have qa1_4 : w1.cell? ⟨w.heap.size, 4, none⟩ = some (.string ⟨#[]⟩) := by rw [hc1 _ _ (by first | omega | (simp only [World.size_alloc, World.size_setCell, World.size_drew]; omega))]; first | with_reducible assumption | (simp [go_sem]; done) | (simp [go_sem, *]; done)
    have qb1_0 : w1.cell? ⟨w.heap.size + 1, 0, none⟩ = some (.int .u64 hb) := by rw [hc1 _ _ (by first | omega | (simp only [World.size_alloc, World.size_setCell, World.size_drew]; omega))]; first | with_reducible assumption | (simp [go_sem]; done) | (simp [go_sem, *]; done)
    have qb1_1 : w1.cell? ⟨w.heap.size + 1, 1, none⟩ = some (.int .u64 lb) := by rw [hc1 _ _ (by first | omega | (simp only [World.size_alloc, World.size_setCell, World.size_drew]; omega))]; first | with_reducible assumption | (simp [go_sem]; done) | (simp [go_sem, *]; done)
    have qb1_2 : w1.cell? ⟨w.heap.size + 1, 2, none⟩ = some (.bool true) := by rw [hc1 _ _ (by first | omega | (simp only [World.size_alloc, World.size_setCell, World.size_drew]; omega))]; first | with_reducible assumption | (simp [go_sem]; done) | (simp [go_sem, *]; done)
    have qb1_3 : w1.cell? ⟨w.heap.size + 1, 3, none⟩ = some (.bool true) := by rw [hc1 _ _ (by first | omega | (simp only [World.size_alloc, World.size_setCell, World.size_drew]; omega))]; first | with_reducible assumption | (simp [go_sem]; done) | (simp [go_sem, *]; done)
    have qb1_4 : w1.cell? ⟨w.heap.size + 1, 4, none⟩ = some (.string ⟨#[]⟩) := by rw [hc1 _ _ (by first | omega | (simp only [World.size_alloc, World.size_setCell, World.size_drew]; omega))]; first | with_reducible assumption | (simp [go_sem]; done) | (simp [go_sem, *]; done)
    have hz1_0 : w.heap.size < w1.heap.size := by omega
    have hy1_0 : w.heap.size ≤ w1.heap.size := by omega
    have hz1_1 : w.heap.size + 1 < w1.heap.size := by omega
    have hy1_1 : w.heap.size + 1 ≤ w1.heap.size := by omega
    go_wp2
    refine wp_region_quiet_below (by kernel_rfl) (by kernel_rfl) ?_
    repeat quiet_step (fail)
    refine wpQuiet_nil ?_
    intro w2 hb2
    replace hb2 := below_of hb2
    obtain ⟨hc2, hf2⟩ := rules hb2
    have hs2 := hb2.size
    try simp only [World.size_alloc, World.size_setCell, World.size_drew] at hs2
    have qa2_0 : w2.cell? ⟨w.heap.size, 0, none⟩ = some (.int .u64 ha) := by rw [hc2 _ _ (by first | omega | (simp only [World.size_alloc, World.size_setCell, World.size_drew]; omega))]; first | with_reducible assumption | (simp [go_sem]; done) | (simp [go_sem, *]; done)
    have qa2_1 : w2.cell? ⟨w.heap.size, 1, none⟩ = some (.int .u64 la) := by rw [hc2 _ _ (by first | omega | (simp only [World.size_alloc, World.size_setCell, World.size_drew]; omega))]; first | with_reducible assumption | (simp [go_sem]; done) | (simp [go_sem, *]; done)
    have qa2_2 : w2.cell? ⟨w.heap.size, 2, none⟩ = some (.bool true) := by rw [hc2 _ _ (by first | omega | (simp only [World.size_alloc, World.size_setCell, World.size_drew]; omega))]; first | with_reducible assumption | (simp [go_sem]; done) | (simp [go_sem, *]; done)
    have qa2_3 : w2.cell? ⟨w.heap.size, 3, none⟩ = some (.bool true) := by rw [hc2 _ _ (by first | omega | (simp only [World.size_alloc, World.size_setCell, World.size_drew]; omega))]; first | with_reducible assumption | (simp [go_sem]; done) | (simp [go_sem, *]; done)
    have qa2_4 : w2.cell? ⟨w.heap.size, 4, none⟩ = some (.string ⟨#[]⟩) := by rw [hc2 _ _ (by first | omega | (simp only [World.size_alloc, World.size_setCell, World.size_drew]; omega))]; first | with_reducible assumption | (simp [go_sem]; done) | (simp [go_sem, *]; done)
    have qb2_0 : w2.cell? ⟨w.heap.size + 1, 0, none⟩ = some (.int .u64 hb) := by rw [hc2 _ _ (by first | omega | (simp only [World.size_alloc, World.size_setCell, World.size_drew]; omega))]; first | with_reducible assumption | (simp [go_sem]; done) | (simp [go_sem, *]; done)
    have qb2_1 : w2.cell? ⟨w.heap.size + 1, 1, none⟩ = some (.int .u64 lb) := by rw [hc2 _ _ (by first | omega | (simp only [World.size_alloc, World.size_setCell, World.size_drew]; omega))]; first | with_reducible assumption | (simp [go_sem]; done) | (simp [go_sem, *]; done)
    have qb2_2 : w2.cell? ⟨w.heap.size + 1, 2, none⟩ = some (.bool true) := by rw [hc2 _ _ (by first | omega | (simp only [World.size_alloc, World.size_setCell, World.size_drew]; omega))]; first | with_reducible assumption | (simp [go_sem]; done) | (simp [go_sem, *]; done)
    have qb2_3 : w2.cell? ⟨w.heap.size + 1, 3, none⟩ = some (.bool true) := by rw [hc2 _ _ (by first | omega | (simp only [World.size_alloc, World.size_setCell, World.size_drew]; omega))]; first | with_reducible assumption | (simp [go_sem]; done) | (simp [go_sem, *]; done)
    have qb2_4 : w2.cell? ⟨w.heap.size + 1, 4, none⟩ = some (.string ⟨#[]⟩) := by rw [hc2 _ _ (by first | omega | (simp only [World.size_alloc, World.size_setCell, World.size_drew]; omega))]; first | with_reducible assumption | (simp [go_sem]; done) | (simp [go_sem, *]; done)
    have hz2_0 : w.heap.size < w2.heap.size := by omega
    have hy2_0 : w.heap.size ≤ w2.heap.size := by omega
    have hz2_1 : w.heap.size + 1 < w2.heap.size := by omega
    have hy2_1 : w.heap.size + 1 ≤ w2.heap.size := by omega
    go_wp2
    go_ret
    refine ⟨rfl, ?_⟩
    repeat (first | with_reducible exact Below.refl _ _ | with_reducible refine Below.setCell ?_ (by first | omega | (simp only [World.size_alloc, World.size_setCell, World.size_drew]; omega)) _ | with_reducible refine Below.alloc ?_ (by first | omega | (simp only [World.size_alloc, World.size_setCell, World.size_drew]; omega)) _ | with_reducible refine Below.drew ?_ | with_reducible refine Below.trans ?_ (hb2.mono (by first | omega | (simp only [World.size_alloc, World.size_setCell, World.size_drew]; omega))) | with_reducible refine Below.trans ?_ (hb1.mono (by first | omega | (simp only [World.size_alloc, World.size_setCell, World.size_drew]; omega))))

set_option maxHeartbeats 1600000 in
theorem compare_hi_gt (s : Bool) (ha la hb lb : Int) (d : decide (ha < hb) = false) (d2 : decide (hb < ha) = true) : Ret 16 #[.agg #[.int .u64 (ha), .int .u64 (la), .bool true, .bool s, .string ⟨#[]⟩], .agg #[.int .u64 (hb), .int .u64 (lb), .bool true, .bool s, .string ⟨#[]⟩]] (.int .i64 (1)) := by
  intro w
  cases s
  · go_enter Tryd.func16, Tryd.ntmps16
    go_wp2
    refine wp_region_quiet_below (by kernel_rfl) (by kernel_rfl) ?_
    repeat quiet_step (fail)
    quiet_step (with_reducible exact Calls.regrown_of ((bitLen_v4 _ _).at _))
    repeat quiet_step (fail)
    quiet_step (with_reducible exact Calls.regrown_of ((bitLen_v4 _ _).at _))
    repeat quiet_step (fail)
    refine wpQuiet_nil ?_
    intro w1 hb1
    replace hb1 := below_of hb1
    obtain ⟨hc1, hf1⟩ := rules hb1
    have hs1 := hb1.size
    try simp only [World.size_alloc, World.size_setCell, World.size_drew] at hs1
    have qa1_0 : w1.cell? ⟨w.heap.size, 0, none⟩ = some (.int .u64 ha) := by rw [hc1 _ _ (by first | omega | (simp only [World.size_alloc, World.size_setCell, World.size_drew]; omega))]; first | with_reducible assumption | (simp [go_sem]; done) | (simp [go_sem, *]; done)
    have qa1_1 : w1.cell? ⟨w.heap.size, 1, none⟩ = some (.int .u64 la) := by rw [hc1 _ _ (by first | omega | (simp only [World.size_alloc, World.size_setCell, World.size_drew]; omega))]; first | with_reducible assumption | (simp [go_sem]; done) | (simp [go_sem, *]; done)
    have qa1_2 : w1.cell? ⟨w.heap.size, 2, none⟩ = some (.bool true) := by rw [hc1 _ _ (by first | omega | (simp only [World.size_alloc, World.size_setCell, World.size_drew]; omega))]; first | with_reducible assumption | (simp [go_sem]; done) | (simp [go_sem, *]; done)
    have qa1_3 : w1.cell? ⟨w.heap.size, 3, none⟩ = some (.bool false) := by rw [hc1 _ _ (by first | omega | (simp only [World.size_alloc, World.size_setCell, World.size_drew]; omega))]; first | with_reducible assumption | (simp [go_sem]; done) | (simp [go_sem, *]; done)
    have qa1_4 : w1.cell? ⟨w.heap.size, 4, none⟩ = some (.string ⟨#[]⟩) := by rw [hc1 _ _ (by first | omega | (simp only [World.size_alloc, World.size_setCell, World.size_drew]; omega))]; first | with_reducible assumption | (simp [go_sem]; done) | (simp [go_sem, *]; done)
    have qb1_0 : w1.cell? ⟨w.heap.size + 1, 0, none⟩ = some (.int .u64 hb) := by rw [hc1 _ _ (by first | omega | (simp only [World.size_alloc, World.size_setCell, World.size_drew]; omega))]; first | with_reducible assumption | (simp [go_sem]; done) | (simp [go_sem, *]; done)
    have qb1_1 : w1.cell? ⟨w.heap.size + 1, 1, none⟩ = some (.int .u64 lb) := by rw [hc1 _ _ (by first | omega | (simp only [World.size_alloc, World.size_setCell, World.size_drew]; omega))]; first | with_reducible assumption | (simp [go_sem]; done) | (simp [go_sem, *]; done)
    have qb1_2 : w1.cell? ⟨w.heap.size + 1, 2, none⟩ = some (.bool true) := by rw [hc1 _ _ (by first | omega | (simp only [World.size_alloc, World.size_setCell, World.size_drew]; omega))]; first | with_reducible assumption | (simp [go_sem]; done) | (simp [go_sem, *]; done)
    have qb1_3 : w1.cell? ⟨w.heap.size + 1, 3, none⟩ = some (.bool false) := by rw [hc1 _ _ (by first | omega | (simp only [World.size_alloc, World.size_setCell, World.size_drew]; omega))]; first | with_reducible assumption | (simp [go_sem]; done) | (simp [go_sem, *]; done)
    have qb1_4 : w1.cell? ⟨w.heap.size + 1, 4, none⟩ = some (.string ⟨#[]⟩) := by rw [hc1 _ _ (by first | omega | (simp only [World.size_alloc, World.size_setCell, World.size_drew]; omega))]; first | with_reducible assumption | (simp [go_sem]; done) | (simp [go_sem, *]; done)
    have hz1_0 : w.heap.size < w1.heap.size := by omega
    have hy1_0 : w.heap.size ≤ w1.heap.size := by omega
    have hz1_1 : w.heap.size + 1 < w1.heap.size := by omega
    have hy1_1 : w.heap.size + 1 ≤ w1.heap.size := by omega
    go_wp2
    refine wp_region_quiet_below (by kernel_rfl) (by kernel_rfl) ?_
    repeat quiet_step (fail)
    refine wpQuiet_nil ?_
    intro w2 hb2
    replace hb2 := below_of hb2
    obtain ⟨hc2, hf2⟩ := rules hb2
    have hs2 := hb2.size
    try simp only [World.size_alloc, World.size_setCell, World.size_drew] at hs2
    have qa2_0 : w2.cell? ⟨w.heap.size, 0, none⟩ = some (.int .u64 ha) := by rw [hc2 _ _ (by first | omega | (simp only [World.size_alloc, World.size_setCell, World.size_drew]; omega))]; first | with_reducible assumption | (simp [go_sem]; done) | (simp [go_sem, *]; done)
    have qa2_1 : w2.cell? ⟨w.heap.size, 1, none⟩ = some (.int .u64 la) := by rw [hc2 _ _ (by first | omega | (simp only [World.size_alloc, World.size_setCell, World.size_drew]; omega))]; first | with_reducible assumption | (simp [go_sem]; done) | (simp [go_sem, *]; done)
    have qa2_2 : w2.cell? ⟨w.heap.size, 2, none⟩ = some (.bool true) := by rw [hc2 _ _ (by first | omega | (simp only [World.size_alloc, World.size_setCell, World.size_drew]; omega))]; first | with_reducible assumption | (simp [go_sem]; done) | (simp [go_sem, *]; done)
    have qa2_3 : w2.cell? ⟨w.heap.size, 3, none⟩ = some (.bool false) := by rw [hc2 _ _ (by first | omega | (simp only [World.size_alloc, World.size_setCell, World.size_drew]; omega))]; first | with_reducible assumption | (simp [go_sem]; done) | (simp [go_sem, *]; done)
    have qa2_4 : w2.cell? ⟨w.heap.size, 4, none⟩ = some (.string ⟨#[]⟩) := by rw [hc2 _ _ (by first | omega | (simp only [World.size_alloc, World.size_setCell, World.size_drew]; omega))]; first | with_reducible assumption | (simp [go_sem]; done) | (simp [go_sem, *]; done)
    have qb2_0 : w2.cell? ⟨w.heap.size + 1, 0, none⟩ = some (.int .u64 hb) := by rw [hc2 _ _ (by first | omega | (simp only [World.size_alloc, World.size_setCell, World.size_drew]; omega))]; first | with_reducible assumption | (simp [go_sem]; done) | (simp [go_sem, *]; done)
    have qb2_1 : w2.cell? ⟨w.heap.size + 1, 1, none⟩ = some (.int .u64 lb) := by rw [hc2 _ _ (by first | omega | (simp only [World.size_alloc, World.size_setCell, World.size_drew]; omega))]; first | with_reducible assumption | (simp [go_sem]; done) | (simp [go_sem, *]; done)
    have qb2_2 : w2.cell? ⟨w.heap.size + 1, 2, none⟩ = some (.bool true) := by rw [hc2 _ _ (by first | omega | (simp only [World.size_alloc, World.size_setCell, World.size_drew]; omega))]; first | with_reducible assumption | (simp [go_sem]; done) | (simp [go_sem, *]; done)
    have qb2_3 : w2.cell? ⟨w.heap.size + 1, 3, none⟩ = some (.bool false) := by rw [hc2 _ _ (by first | omega | (simp only [World.size_alloc, World.size_setCell, World.size_drew]; omega))]; first | with_reducible assumption | (simp [go_sem]; done) | (simp [go_sem, *]; done)
    have qb2_4 : w2.cell? ⟨w.heap.size + 1, 4, none⟩ = some (.string ⟨#[]⟩) := by rw [hc2 _ _ (by first | omega | (simp only [World.size_alloc, World.size_setCell, World.size_drew]; omega))]; first | with_reducible assumption | (simp [go_sem]; done) | (simp [go_sem, *]; done)
    have hz2_0 : w.heap.size < w2.heap.size := by omega
    have hy2_0 : w.heap.size ≤ w2.heap.size := by omega
    have hz2_1 : w.heap.size + 1 < w2.heap.size := by omega
    have hy2_1 : w.heap.size + 1 ≤ w2.heap.size := by omega
    go_wp2
    go_ret
    refine ⟨rfl, ?_⟩
    repeat (first | with_reducible exact Below.refl _ _ | with_reducible refine Below.setCell ?_ (by first | omega | (simp only [World.size_alloc, World.size_setCell, World.size_drew]; omega)) _ | with_reducible refine Below.alloc ?_ (by first | omega | (simp only [World.size_alloc, World.size_setCell, World.size_drew]; omega)) _ | with_reducible refine Below.drew ?_ | with_reducible refine Below.trans ?_ (hb2.mono (by first | omega | (simp only [World.size_alloc, World.size_setCell, World.size_drew]; omega))) | with_reducible refine Below.trans ?_ (hb1.mono (by first | omega | (simp only [World.size_alloc, World.size_setCell, World.size_drew]; omega))))
  · go_enter Tryd.func16, Tryd.ntmps16
    go_wp2
    refine wp_region_quiet_below (by kernel_rfl) (by kernel_rfl) ?_
    repeat quiet_step (fail)
    quiet_step (with_reducible exact Calls.regrown_of ((bitLen_v6 _ _).at _))
    repeat quiet_step (fail)
    quiet_step (with_reducible exact Calls.regrown_of ((bitLen_v6 _ _).at _))
    repeat quiet_step (fail)
    refine wpQuiet_nil ?_
    intro w1 hb1
    replace hb1 := below_of hb1
    obtain ⟨hc1, hf1⟩ := rules hb1
    have hs1 := hb1.size
    try simp only [World.size_alloc, World.size_setCell, World.size_drew] at hs1
    have qa1_0 : w1.cell? ⟨w.heap.size, 0, none⟩ = some (.int .u64 ha) := by rw [hc1 _ _ (by first | omega | (simp only [World.size_alloc, World.size_setCell, World.size_drew]; omega))]; first | with_reducible assumption | (simp [go_sem]; done) | (simp [go_sem, *]; done)
    have qa1_1 : w1.cell? ⟨w.heap.size, 1, none⟩ = some (.int .u64 la) := by rw [hc1 _ _ (by first | omega | (simp only [World.size_alloc, World.size_setCell, World.size_drew]; omega))]; first | with_reducible assumption | (simp [go_sem]; done) | (simp [go_sem, *]; done)
    have qa1_2 : w1.cell? ⟨w.heap.size, 2, none⟩ = some (.bool true) := by rw [hc1 _ _ (by first | omega | (simp only [World.size_alloc, World.size_setCell, World.size_drew]; omega))]; first | with_reducible assumption | (simp [go_sem]; done) | (simp [go_sem, *]; done)
    have qa1_3 : w1.cell? ⟨w.heap.size, 3, none⟩ = some (.bool true) := by rw [hc1 _ _ (by first | omega | (simp only [World.size_alloc, World.size_setCell, World.size_drew]; omega))]; first | with_reducible assumption | (simp [go_sem]; done) | (simp [go_sem, *]; done)
    have qa1_4 : w1.cell? ⟨w.heap.size, 4, none⟩ = some (.string ⟨#[]⟩) := by rw [hc1 _ _ (by first | omega | (simp only [World.size_alloc, World.size_setCell, World.size_drew]; omega))]; first | with_reducible assumption | (simp [go_sem]; done) | (simp [go_sem, *]; done)
    have qb1_0 : w1.cell? ⟨w.heap.size + 1, 0, none⟩ = some (.int .u64 hb) := by rw [hc1 _ _ (by first | omega | (simp only [World.size_alloc, World.size_setCell, World.size_drew]; omega))]; first | with_reducible assumption | (simp [go_sem]; done) | (simp [go_sem, *]; done)
    have qb1_1 : w1.cell? ⟨w.heap.size + 1, 1, none⟩ = some (.int .u64 lb) := by rw [hc1 _ _ (by first | omega | (simp only [World.size_alloc, World.size_setCell, World.size_drew]; omega))]; first | with_reducible assumption | (simp [go_sem]; done) | (simp [go_sem, *]; done)
    have qb1_2 : w1.cell? ⟨w.heap.size + 1, 2, none⟩ = some (.bool true) := by rw [hc1 _ _ (by first | omega | (simp only [World.size_alloc, World.size_setCell, World.size_drew]; omega))]; first | with_reducible assumption | (simp [go_sem]; done) | (simp [go_sem, *]; done)
    have qb1_3 : w1.cell? ⟨w.heap.size + 1, 3, none⟩ = some (.bool true) := by rw [hc1 _ _ (by first | omega | (simp only [World.size_alloc, World.size_setCell, World.size_drew]; omega))]; first | with_reducible assumption | (simp [go_sem]; done) | (simp [go_sem, *]; done)
    have qb1_4 : w1.cell? ⟨w.heap.size + 1, 4, none⟩ = some (.string ⟨#[]⟩) := by rw [hc1 _ _ (by first | omega | (simp only [World.size_alloc, World.size_setCell, World.size_drew]; omega))]; first | with_reducible assumption | (simp [go_sem]; done) | (simp [go_sem, *]; done)
    have hz1_0 : w.heap.size < w1.heap.size := by omega
    have hy1_0 : w.heap.size ≤ w1.heap.size := by omega
    have hz1_1 : w.heap.size + 1 < w1.heap.size := by omega
    have hy1_1 : w.heap.size + 1 ≤ w1.heap.size := by omega
    go_wp2
    refine wp_region_quiet_below (by kernel_rfl) (by kernel_rfl) ?_
    repeat quiet_step (fail)
    refine wpQuiet_nil ?_
    intro w2 hb2
    replace hb2 := below_of hb2
    obtain ⟨hc2, hf2⟩ := rules hb2
    have hs2 := hb2.size
    try simp only [World.size_alloc, World.size_setCell, World.size_drew] at hs2
    have qa2_0 : w2.cell? ⟨w.heap.size, 0, none⟩ = some (.int .u64 ha) := by rw [hc2 _ _ (by first | omega | (simp only [World.size_alloc, World.size_setCell, World.size_drew]; omega))]; first | with_reducible assumption | (simp [go_sem]; done) | (simp [go_sem, *]; done)
    have qa2_1 : w2.cell? ⟨w.heap.size, 1, none⟩ = some (.int .u64 la) := by rw [hc2 _ _ (by first | omega | (simp only [World.size_alloc, World.size_setCell, World.size_drew]; omega))]; first | with_reducible assumption | (simp [go_sem]; done) | (simp [go_sem, *]; done)
    have qa2_2 : w2.cell? ⟨w.heap.size, 2, none⟩ = some (.bool true) := by rw [hc2 _ _ (by first | omega | (simp only [World.size_alloc, World.size_setCell, World.size_drew]; omega))]; first | with_reducible assumption | (simp [go_sem]; done) | (simp [go_sem, *]; done)
    have qa2_3 : w2.cell? ⟨w.heap.size, 3, none⟩ = some (.bool true) := by rw [hc2 _ _ (by first | omega | (simp only [World.size_alloc, World.size_setCell, World.size_drew]; omega))]; first | with_reducible assumption | (simp [go_sem]; done) | (simp [go_sem, *]; done)
    have qa2_4 : w2.cell? ⟨w.heap.size, 4, none⟩ = some (.string ⟨#[]⟩) := by rw [hc2 _ _ (by first | omega | (simp only [World.size_alloc, World.size_setCell, World.size_drew]; omega))]; first | with_reducible assumption | (simp [go_sem]; done) | (simp [go_sem, *]; done)
    have qb2_0 : w2.cell? ⟨w.heap.size + 1, 0, none⟩ = some (.int .u64 hb) := by rw [hc2 _ _ (by first | omega | (simp only [World.size_alloc, World.size_setCell, World.size_drew]; omega))]; first | with_reducible assumption | (simp [go_sem]; done) | (simp [go_sem, *]; done)
    have qb2_1 : w2.cell? ⟨w.heap.size + 1, 1, none⟩ = some (.int .u64 lb) := by rw [hc2 _ _ (by first | omega | (simp only [World.size_alloc, World.size_setCell, World.size_drew]; omega))]; first | with_reducible assumption | (simp [go_sem]; done) | (simp [go_sem, *]; done)
    have qb2_2 : w2.cell? ⟨w.heap.size + 1, 2, none⟩ = some (.bool true) := by rw [hc2 _ _ (by first | omega | (simp only [World.size_alloc, World.size_setCell, World.size_drew]; omega))]; first | with_reducible assumption | (simp [go_sem]; done) | (simp [go_sem, *]; done)
    have qb2_3 : w2.cell? ⟨w.heap.size + 1, 3, none⟩ = some (.bool true) := by rw [hc2 _ _ (by first | omega | (simp only [World.size_alloc, World.size_setCell, World.size_drew]; omega))]; first | with_reducible assumption | (simp [go_sem]; done) | (simp [go_sem, *]; done)
    have qb2_4 : w2.cell? ⟨w.heap.size + 1, 4, none⟩ = some (.string ⟨#[]⟩) := by rw [hc2 _ _ (by first | omega | (simp only [World.size_alloc, World.size_setCell, World.size_drew]; omega))]; first | with_reducible assumption | (simp [go_sem]; done) | (simp [go_sem, *]; done)
    have hz2_0 : w.heap.size < w2.heap.size := by omega
    have hy2_0 : w.heap.size ≤ w2.heap.size := by omega
    have hz2_1 : w.heap.size + 1 < w2.heap.size := by omega
    have hy2_1 : w.heap.size + 1 ≤ w2.heap.size := by omega
    go_wp2
    go_ret
    refine ⟨rfl, ?_⟩
    repeat (first | with_reducible exact Below.refl _ _ | with_reducible refine Below.setCell ?_ (by first | omega | (simp only [World.size_alloc, World.size_setCell, World.size_drew]; omega)) _ | with_reducible refine Below.alloc ?_ (by first | omega | (simp only [World.size_alloc, World.size_setCell, World.size_drew]; omega)) _ | with_reducible refine Below.drew ?_ | with_reducible refine Below.trans ?_ (hb2.mono (by first | omega | (simp only [World.size_alloc, World.size_setCell, World.size_drew]; omega))) | with_reducible refine Below.trans ?_ (hb1.mono (by first | omega | (simp only [World.size_alloc, World.size_setCell, World.size_drew]; omega))))

set_option maxHeartbeats 1600000 in
theorem compare_lo_lt (s : Bool) (ha la lb : Int) (d : decide (la < lb) = true) : Ret 16 #[.agg #[.int .u64 (ha), .int .u64 (la), .bool true, .bool s, .string ⟨#[]⟩], .agg #[.int .u64 (ha), .int .u64 (lb), .bool true, .bool s, .string ⟨#[]⟩]] (.int .i64 (-1)) := by
  intro w
  cases s
  · go_enter Tryd.func16, Tryd.ntmps16
    go_wp2
    refine wp_region_quiet_below (by kernel_rfl) (by kernel_rfl) ?_
    repeat quiet_step (fail)
    quiet_step (with_reducible exact Calls.regrown_of ((bitLen_v4 _ _).at _))
    repeat quiet_step (fail)
    quiet_step (with_reducible exact Calls.regrown_of ((bitLen_v4 _ _).at _))
    repeat quiet_step (fail)
    refine wpQuiet_nil ?_
    intro w1 hb1
    replace hb1 := below_of hb1
    obtain ⟨hc1, hf1⟩ := rules hb1
    have hs1 := hb1.size
    try simp only [World.size_alloc, World.size_setCell, World.size_drew] at hs1
    have qa1_0 : w1.cell? ⟨w.heap.size, 0, none⟩ = some (.int .u64 ha) := by rw [hc1 _ _ (by first | omega | (simp only [World.size_alloc, World.size_setCell, World.size_drew]; omega))]; first | with_reducible assumption | (simp [go_sem]; done) | (simp [go_sem, *]; done)
    have qa1_1 : w1.cell? ⟨w.heap.size, 1, none⟩ = some (.int .u64 la) := by rw [hc1 _ _ (by first | omega | (simp only [World.size_alloc, World.size_setCell, World.size_drew]; omega))]; first | with_reducible assumption | (simp [go_sem]; done) | (simp [go_sem, *]; done)
    have qa1_2 : w1.cell? ⟨w.heap.size, 2, none⟩ = some (.bool true) := by rw [hc1 _ _ (by first | omega | (simp only [World.size_alloc, World.size_setCell, World.size_drew]; omega))]; first | with_reducible assumption | (simp [go_sem]; done) | (simp [go_sem, *]; done)
    have qa1_3 : w1.cell? ⟨w.heap.size, 3, none⟩ = some (.bool false) := by rw [hc1 _ _ (by first | omega | (simp only [World.size_alloc, World.size_setCell, World.size_drew]; omega))]; first | with_reducible assumption | (simp [go_sem]; done) | (simp [go_sem, *]; done)
    have qa1_4 : w1.cell? ⟨w.heap.size, 4, none⟩ = some (.string ⟨#[]⟩) := by rw [hc1 _ _ (by first | omega | (simp only [World.size_alloc, World.size_setCell, World.size_drew]; omega))]; first | with_reducible assumption | (simp [go_sem]; done) | (simp [go_sem, *]; done)
    have qb1_0 : w1.cell? ⟨w.heap.size + 1, 0, none⟩ = some (.int .u64 ha) := by rw [hc1 _ _ (by first | omega | (simp only [World.size_alloc, World.size_setCell, World.size_drew]; omega))]; first | with_reducible assumption | (simp [go_sem]; done) | (simp [go_sem, *]; done)
    have qb1_1 : w1.cell? ⟨w.heap.size + 1, 1, none⟩ = some (.int .u64 lb) := by rw [hc1 _ _ (by first | omega | (simp only [World.size_alloc, World.size_setCell, World.size_drew]; omega))]; first | with_reducible assumption | (simp [go_sem]; done) | (simp [go_sem, *]; done)
    have qb1_2 : w1.cell? ⟨w.heap.size + 1, 2, none⟩ = some (.bool true) := by rw [hc1 _ _ (by first | omega | (simp only [World.size_alloc, World.size_setCell, World.size_drew]; omega))]; first | with_reducible assumption | (simp [go_sem]; done) | (simp [go_sem, *]; done)
    have qb1_3 : w1.cell? ⟨w.heap.size + 1, 3, none⟩ = some (.bool false) := by rw [hc1 _ _ (by first | omega | (simp only [World.size_alloc, World.size_setCell, World.size_drew]; omega))]; first | with_reducible assumption | (simp [go_sem]; done) | (simp [go_sem, *]; done)
    have qb1_4 : w1.cell? ⟨w.heap.size + 1, 4, none⟩ = some (.string ⟨#[]⟩) := by rw [hc1 _ _ (by first | omega | (simp only [World.size_alloc, World.size_setCell, World.size_drew]; omega))]; first | with_reducible assumption | (simp [go_sem]; done) | (simp [go_sem, *]; done)
    have hz1_0 : w.heap.size < w1.heap.size := by omega
    have hy1_0 : w.heap.size ≤ w1.heap.size := by omega
    have hz1_1 : w.heap.size + 1 < w1.heap.size := by omega
    have hy1_1 : w.heap.size + 1 ≤ w1.heap.size := by omega
    go_wp2
    refine wp_region_quiet_below (by kernel_rfl) (by kernel_rfl) ?_
    repeat quiet_step (fail)
    refine wpQuiet_nil ?_
    intro w2 hb2
    replace hb2 := below_of hb2
    obtain ⟨hc2, hf2⟩ := rules hb2
    have hs2 := hb2.size
    try simp only [World.size_alloc, World.size_setCell, World.size_drew] at hs2
    have qa2_0 : w2.cell? ⟨w.heap.size, 0, none⟩ = some (.int .u64 ha) := by rw [hc2 _ _ (by first | omega | (simp only [World.size_alloc, World.size_setCell, World.size_drew]; omega))]; first | with_reducible assumption | (simp [go_sem]; done) | (simp [go_sem, *]; done)
    have qa2_1 : w2.cell? ⟨w.heap.size, 1, none⟩ = some (.int .u64 la) := by rw [hc2 _ _ (by first | omega | (simp only [World.size_alloc, World.size_setCell, World.size_drew]; omega))]; first | with_reducible assumption | (simp [go_sem]; done) | (simp [go_sem, *]; done)
    have qa2_2 : w2.cell? ⟨w.heap.size, 2, none⟩ = some (.bool true) := by rw [hc2 _ _ (by first | omega | (simp only [World.size_alloc, World.size_setCell, World.size_drew]; omega))]; first | with_reducible assumption | (simp [go_sem]; done) | (simp [go_sem, *]; done)
    have qa2_3 : w2.cell? ⟨w.heap.size, 3, none⟩ = some (.bool false) := by rw [hc2 _ _ (by first | omega | (simp only [World.size_alloc, World.size_setCell, World.size_drew]; omega))]; first | with_reducible assumption | (simp [go_sem]; done) | (simp [go_sem, *]; done)
    have qa2_4 : w2.cell? ⟨w.heap.size, 4, none⟩ = some (.string ⟨#[]⟩) := by rw [hc2 _ _ (by first | omega | (simp only [World.size_alloc, World.size_setCell, World.size_drew]; omega))]; first | with_reducible assumption | (simp [go_sem]; done) | (simp [go_sem, *]; done)
    have qb2_0 : w2.cell? ⟨w.heap.size + 1, 0, none⟩ = some (.int .u64 ha) := by rw [hc2 _ _ (by first | omega | (simp only [World.size_alloc, World.size_setCell, World.size_drew]; omega))]; first | with_reducible assumption | (simp [go_sem]; done) | (simp [go_sem, *]; done)
    have qb2_1 : w2.cell? ⟨w.heap.size + 1, 1, none⟩ = some (.int .u64 lb) := by rw [hc2 _ _ (by first | omega | (simp only [World.size_alloc, World.size_setCell, World.size_drew]; omega))]; first | with_reducible assumption | (simp [go_sem]; done) | (simp [go_sem, *]; done)
    have qb2_2 : w2.cell? ⟨w.heap.size + 1, 2, none⟩ = some (.bool true) := by rw [hc2 _ _ (by first | omega | (simp only [World.size_alloc, World.size_setCell, World.size_drew]; omega))]; first | with_reducible assumption | (simp [go_sem]; done) | (simp [go_sem, *]; done)
    have qb2_3 : w2.cell? ⟨w.heap.size + 1, 3, none⟩ = some (.bool false) := by rw [hc2 _ _ (by first | omega | (simp only [World.size_alloc, World.size_setCell, World.size_drew]; omega))]; first | with_reducible assumption | (simp [go_sem]; done) | (simp [go_sem, *]; done)
    have qb2_4 : w2.cell? ⟨w.heap.size + 1, 4, none⟩ = some (.string ⟨#[]⟩) := by rw [hc2 _ _ (by first | omega | (simp only [World.size_alloc, World.size_setCell, World.size_drew]; omega))]; first | with_reducible assumption | (simp [go_sem]; done) | (simp [go_sem, *]; done)
    have hz2_0 : w.heap.size < w2.heap.size := by omega
    have hy2_0 : w.heap.size ≤ w2.heap.size := by omega
    have hz2_1 : w.heap.size + 1 < w2.heap.size := by omega
    have hy2_1 : w.heap.size + 1 ≤ w2.heap.size := by omega
    go_wp2
    refine wp_region_quiet_below (by kernel_rfl) (by kernel_rfl) ?_
    repeat quiet_step (fail)
    refine wpQuiet_nil ?_
    intro w3 hb3
    replace hb3 := below_of hb3
    obtain ⟨hc3, hf3⟩ := rules hb3
    have hs3 := hb3.size
    try simp only [World.size_alloc, World.size_setCell, World.size_drew] at hs3
    have qa3_0 : w3.cell? ⟨w.heap.size, 0, none⟩ = some (.int .u64 ha) := by rw [hc3 _ _ (by first | omega | (simp only [World.size_alloc, World.size_setCell, World.size_drew]; omega))]; first | with_reducible assumption | (simp [go_sem]; done) | (simp [go_sem, *]; done)
    have qa3_1 : w3.cell? ⟨w.heap.size, 1, none⟩ = some (.int .u64 la) := by rw [hc3 _ _ (by first | omega | (simp only [World.size_alloc, World.size_setCell, World.size_drew]; omega))]; first | with_reducible assumption | (simp [go_sem]; done) | (simp [go_sem, *]; done)
    have qa3_2 : w3.cell? ⟨w.heap.size, 2, none⟩ = some (.bool true) := by rw [hc3 _ _ (by first | omega | (simp only [World.size_alloc, World.size_setCell, World.size_drew]; omega))]; first | with_reducible assumption | (simp [go_sem]; done) | (simp [go_sem, *]; done)
    have qa3_3 : w3.cell? ⟨w.heap.size, 3, none⟩ = some (.bool false) := by rw [hc3 _ _ (by first | omega | (simp only [World.size_alloc, World.size_setCell, World.size_drew]; omega))]; first | with_reducible assumption | (simp [go_sem]; done) | (simp [go_sem, *]; done)
    have qa3_4 : w3.cell? ⟨w.heap.size, 4, none⟩ = some (.string ⟨#[]⟩) := by rw [hc3 _ _ (by first | omega | (simp only [World.size_alloc, World.size_setCell, World.size_drew]; omega))]; first | with_reducible assumption | (simp [go_sem]; done) | (simp [go_sem, *]; done)
    have qb3_0 : w3.cell? ⟨w.heap.size + 1, 0, none⟩ = some (.int .u64 ha) := by rw [hc3 _ _ (by first | omega | (simp only [World.size_alloc, World.size_setCell, World.size_drew]; omega))]; first | with_reducible assumption | (simp [go_sem]; done) | (simp [go_sem, *]; done)
    have qb3_1 : w3.cell? ⟨w.heap.size + 1, 1, none⟩ = some (.int .u64 lb) := by rw [hc3 _ _ (by first | omega | (simp only [World.size_alloc, World.size_setCell, World.size_drew]; omega))]; first | with_reducible assumption | (simp [go_sem]; done) | (simp [go_sem, *]; done)
    have qb3_2 : w3.cell? ⟨w.heap.size + 1, 2, none⟩ = some (.bool true) := by rw [hc3 _ _ (by first | omega | (simp only [World.size_alloc, World.size_setCell, World.size_drew]; omega))]; first | with_reducible assumption | (simp [go_sem]; done) | (simp [go_sem, *]; done)
    have qb3_3 : w3.cell? ⟨w.heap.size + 1, 3, none⟩ = some (.bool false) := by rw [hc3 _ _ (by first | omega | (simp only [World.size_alloc, World.size_setCell, World.size_drew]; omega))]; first | with_reducible assumption | (simp [go_sem]; done) | (simp [go_sem, *]; done)
    have qb3_4 : w3.cell? ⟨w.heap.size + 1, 4, none⟩ = some (.string ⟨#[]⟩) := by rw [hc3 _ _ (by first | omega | (simp only [World.size_alloc, World.size_setCell, World.size_drew]; omega))]; first | with_reducible assumption | (simp [go_sem]; done) | (simp [go_sem, *]; done)
    have hz3_0 : w.heap.size < w3.heap.size := by omega
    have hy3_0 : w.heap.size ≤ w3.heap.size := by omega
    have hz3_1 : w.heap.size + 1 < w3.heap.size := by omega
    have hy3_1 : w.heap.size + 1 ≤ w3.heap.size := by omega
    go_wp2
    go_ret
    refine ⟨rfl, ?_⟩
    repeat (first | with_reducible exact Below.refl _ _ | with_reducible refine Below.setCell ?_ (by first | omega | (simp only [World.size_alloc, World.size_setCell, World.size_drew]; omega)) _ | with_reducible refine Below.alloc ?_ (by first | omega | (simp only [World.size_alloc, World.size_setCell, World.size_drew]; omega)) _ | with_reducible refine Below.drew ?_ | with_reducible refine Below.trans ?_ (hb3.mono (by first | omega | (simp only [World.size_alloc, World.size_setCell, World.size_drew]; omega))) | with_reducible refine Below.trans ?_ (hb2.mono (by first | omega | (simp only [World.size_alloc, World.size_setCell, World.size_drew]; omega))) | with_reducible refine Below.trans ?_ (hb1.mono (by first | omega | (simp only [World.size_alloc, World.size_setCell, World.size_drew]; omega))))
  · go_enter Tryd.func16, Tryd.ntmps16
    go_wp2
    refine wp_region_quiet_below (by kernel_rfl) (by kernel_rfl) ?_
    repeat quiet_step (fail)
    quiet_step (with_reducible exact Calls.regrown_of ((bitLen_v6 _ _).at _))
    repeat quiet_step (fail)
    quiet_step (with_reducible exact Calls.regrown_of ((bitLen_v6 _ _).at _))
    repeat quiet_step (fail)
    refine wpQuiet_nil ?_
    intro w1 hb1
    replace hb1 := below_of hb1
    obtain ⟨hc1, hf1⟩ := rules hb1
    have hs1 := hb1.size
    try simp only [World.size_alloc, World.size_setCell, World.size_drew] at hs1
    have qa1_0 : w1.cell? ⟨w.heap.size, 0, none⟩ = some (.int .u64 ha) := by rw [hc1 _ _ (by first | omega | (simp only [World.size_alloc, World.size_setCell, World.size_drew]; omega))]; first | with_reducible assumption | (simp [go_sem]; done) | (simp [go_sem, *]; done)
    have qa1_1 : w1.cell? ⟨w.heap.size, 1, none⟩ = some (.int .u64 la) := by rw [hc1 _ _ (by first | omega | (simp only [World.size_alloc, World.size_setCell, World.size_drew]; omega))]; first | with_reducible assumption | (simp [go_sem]; done) | (simp [go_sem, *]; done)
    have qa1_2 : w1.cell? ⟨w.heap.size, 2, none⟩ = some (.bool true) := by rw [hc1 _ _ (by first | omega | (simp only [World.size_alloc, World.size_setCell, World.size_drew]; omega))]; first | with_reducible assumption | (simp [go_sem]; done) | (simp [go_sem, *]; done)
    have qa1_3 : w1.cell? ⟨w.heap.size, 3, none⟩ = some (.bool true) := by rw [hc1 _ _ (by first | omega | (simp only [World.size_alloc, World.size_setCell, World.size_drew]; omega))]; first | with_reducible assumption | (simp [go_sem]; done) | (simp [go_sem, *]; done)
    have qa1_4 : w1.cell? ⟨w.heap.size, 4, none⟩ = some (.string ⟨#[]⟩) := by rw [hc1 _ _ (by first | omega | (simp only [World.size_alloc, World.size_setCell, World.size_drew]; omega))]; first | with_reducible assumption | (simp [go_sem]; done) | (simp [go_sem, *]; done)
    have qb1_0 : w1.cell? ⟨w.heap.size + 1, 0, none⟩ = some (.int .u64 ha) := by rw [hc1 _ _ (by first | omega | (simp only [World.size_alloc, World.size_setCell, World.size_drew]; omega))]; first | with_reducible assumption | (simp [go_sem]; done) | (simp [go_sem, *]; done)
    have qb1_1 : w1.cell? ⟨w.heap.size + 1, 1, none⟩ = some (.int .u64 lb) := by rw [hc1 _ _ (by first | omega | (simp only [World.size_alloc, World.size_setCell, World.size_drew]; omega))]; first | with_reducible assumption | (simp [go_sem]; done) | (simp [go_sem, *]; done)
    have qb1_2 : w1.cell? ⟨w.heap.size + 1, 2, none⟩ = some (.bool true) := by rw [hc1 _ _ (by first | omega | (simp only [World.size_alloc, World.size_setCell, World.size_drew]; omega))]; first | with_reducible assumption | (simp [go_sem]; done) | (simp [go_sem, *]; done)
    have qb1_3 : w1.cell? ⟨w.heap.size + 1, 3, none⟩ = some (.bool true) := by rw [hc1 _ _ (by first | omega | (simp only [World.size_alloc, World.size_setCell, World.size_drew]; omega))]; first | with_reducible assumption | (simp [go_sem]; done) | (simp [go_sem, *]; done)
    have qb1_4 : w1.cell? ⟨w.heap.size + 1, 4, none⟩ = some (.string ⟨#[]⟩) := by rw [hc1 _ _ (by first | omega | (simp only [World.size_alloc, World.size_setCell, World.size_drew]; omega))]; first | with_reducible assumption | (simp [go_sem]; done) | (simp [go_sem, *]; done)
    have hz1_0 : w.heap.size < w1.heap.size := by omega
    have hy1_0 : w.heap.size ≤ w1.heap.size := by omega
    have hz1_1 : w.heap.size + 1 < w1.heap.size := by omega
    have hy1_1 : w.heap.size + 1 ≤ w1.heap.size := by omega
    go_wp2
    refine wp_region_quiet_below (by kernel_rfl) (by kernel_rfl) ?_
    repeat quiet_step (fail)
    refine wpQuiet_nil ?_
    intro w2 hb2
    replace hb2 := below_of hb2
    obtain ⟨hc2, hf2⟩ := rules hb2
    have hs2 := hb2.size
    try simp only [World.size_alloc, World.size_setCell, World.size_drew] at hs2
    have qa2_0 : w2.cell? ⟨w.heap.size, 0, none⟩ = some (.int .u64 ha) := by rw [hc2 _ _ (by first | omega | (simp only [World.size_alloc, World.size_setCell, World.size_drew]; omega))]; first | with_reducible assumption | (simp [go_sem]; done) | (simp [go_sem, *]; done)
    have qa2_1 : w2.cell? ⟨w.heap.size, 1, none⟩ = some (.int .u64 la) := by rw [hc2 _ _ (by first | omega | (simp only [World.size_alloc, World.size_setCell, World.size_drew]; omega))]; first | with_reducible assumption | (simp [go_sem]; done) | (simp [go_sem, *]; done)
    have qa2_2 : w2.cell? ⟨w.heap.size, 2, none⟩ = some (.bool true) := by rw [hc2 _ _ (by first | omega | (simp only [World.size_alloc, World.size_setCell, World.size_drew]; omega))]; first | with_reducible assumption | (simp [go_sem]; done) | (simp [go_sem, *]; done)
    have qa2_3 : w2.cell? ⟨w.heap.size, 3, none⟩ = some (.bool true) := by rw [hc2 _ _ (by first | omega | (simp only [World.size_alloc, World.size_setCell, World.size_drew]; omega))]; first | with_reducible assumption | (simp [go_sem]; done) | (simp [go_sem, *]; done)
    have qa2_4 : w2.cell? ⟨w.heap.size, 4, none⟩ = some (.string ⟨#[]⟩) := by rw [hc2 _ _ (by first | omega | (simp only [World.size_alloc, World.size_setCell, World.size_drew]; omega))]; first | with_reducible assumption | (simp [go_sem]; done) | (simp [go_sem, *]; done)
    have qb2_0 : w2.cell? ⟨w.heap.size + 1, 0, none⟩ = some (.int .u64 ha) := by rw [hc2 _ _ (by first | omega | (simp only [World.size_alloc, World.size_setCell, World.size_drew]; omega))]; first | with_reducible assumption | (simp [go_sem]; done) | (simp [go_sem, *]; done)
    have qb2_1 : w2.cell? ⟨w.heap.size + 1, 1, none⟩ = some (.int .u64 lb) := by rw [hc2 _ _ (by first | omega | (simp only [World.size_alloc, World.size_setCell, World.size_drew]; omega))]; first | with_reducible assumption | (simp [go_sem]; done) | (simp [go_sem, *]; done)
    have qb2_2 : w2.cell? ⟨w.heap.size + 1, 2, none⟩ = some (.bool true) := by rw [hc2 _ _ (by first | omega | (simp only [World.size_alloc, World.size_setCell, World.size_drew]; omega))]; first | with_reducible assumption | (simp [go_sem]; done) | (simp [go_sem, *]; done)
    have qb2_3 : w2.cell? ⟨w.heap.size + 1, 3, none⟩ = some (.bool true) := by rw [hc2 _ _ (by first | omega | (simp only [World.size_alloc, World.size_setCell, World.size_drew]; omega))]; first | with_reducible assumption | (simp [go_sem]; done) | (simp [go_sem, *]; done)
    have qb2_4 : w2.cell? ⟨w.heap.size + 1, 4, none⟩ = some (.string ⟨#[]⟩) := by rw [hc2 _ _ (by first | omega | (simp only [World.size_alloc, World.size_setCell, World.size_drew]; omega))]; first | with_reducible assumption | (simp [go_sem]; done) | (simp [go_sem, *]; done)
    have hz2_0 : w.heap.size < w2.heap.size := by omega
    have hy2_0 : w.heap.size ≤ w2.heap.size := by omega
    have hz2_1 : w.heap.size + 1 < w2.heap.size := by omega
    have hy2_1 : w.heap.size + 1 ≤ w2.heap.size := by omega
    go_wp2
    refine wp_region_quiet_below (by kernel_rfl) (by kernel_rfl) ?_
    repeat quiet_step (fail)
    refine wpQuiet_nil ?_
    intro w3 hb3
    replace hb3 := below_of hb3
    obtain ⟨hc3, hf3⟩ := rules hb3
    have hs3 := hb3.size
    try simp only [World.size_alloc, World.size_setCell, World.size_drew] at hs3
    have qa3_0 : w3.cell? ⟨w.heap.size, 0, none⟩ = some (.int .u64 ha) := by rw [hc3 _ _ (by first | omega | (simp only [World.size_alloc, World.size_setCell, World.size_drew]; omega))]; first | with_reducible assumption | (simp [go_sem]; done) | (simp [go_sem, *]; done)
    have qa3_1 : w3.cell? ⟨w.heap.size, 1, none⟩ = some (.int .u64 la) := by rw [hc3 _ _ (by first | omega | (simp only [World.size_alloc, World.size_setCell, World.size_drew]; omega))]; first | with_reducible assumption | (simp [go_sem]; done) | (simp [go_sem, *]; done)
    have qa3_2 : w3.cell? ⟨w.heap.size, 2, none⟩ = some (.bool true) := by rw [hc3 _ _ (by first | omega | (simp only [World.size_alloc, World.size_setCell, World.size_drew]; omega))]; first | with_reducible assumption | (simp [go_sem]; done) | (simp [go_sem, *]; done)
    have qa3_3 : w3.cell? ⟨w.heap.size, 3, none⟩ = some (.bool true) := by rw [hc3 _ _ (by first | omega | (simp only [World.size_alloc, World.size_setCell, World.size_drew]; omega))]; first | with_reducible assumption | (simp [go_sem]; done) | (simp [go_sem, *]; done)
    have qa3_4 : w3.cell? ⟨w.heap.size, 4, none⟩ = some (.string ⟨#[]⟩) := by rw [hc3 _ _ (by first | omega | (simp only [World.size_alloc, World.size_setCell, World.size_drew]; omega))]; first | with_reducible assumption | (simp [go_sem]; done) | (simp [go_sem, *]; done)
    have qb3_0 : w3.cell? ⟨w.heap.size + 1, 0, none⟩ = some (.int .u64 ha) := by rw [hc3 _ _ (by first | omega | (simp only [World.size_alloc, World.size_setCell, World.size_drew]; omega))]; first | with_reducible assumption | (simp [go_sem]; done) | (simp [go_sem, *]; done)
    have qb3_1 : w3.cell? ⟨w.heap.size + 1, 1, none⟩ = some (.int .u64 lb) := by rw [hc3 _ _ (by first | omega | (simp only [World.size_alloc, World.size_setCell, World.size_drew]; omega))]; first | with_reducible assumption | (simp [go_sem]; done) | (simp [go_sem, *]; done)
    have qb3_2 : w3.cell? ⟨w.heap.size + 1, 2, none⟩ = some (.bool true) := by rw [hc3 _ _ (by first | omega | (simp only [World.size_alloc, World.size_setCell, World.size_drew]; omega))]; first | with_reducible assumption | (simp [go_sem]; done) | (simp [go_sem, *]; done)
    have qb3_3 : w3.cell? ⟨w.heap.size + 1, 3, none⟩ = some (.bool true) := by rw [hc3 _ _ (by first | omega | (simp only [World.size_alloc, World.size_setCell, World.size_drew]; omega))]; first | with_reducible assumption | (simp [go_sem]; done) | (simp [go_sem, *]; done)
    have qb3_4 : w3.cell? ⟨w.heap.size + 1, 4, none⟩ = some (.string ⟨#[]⟩) := by rw [hc3 _ _ (by first | omega | (simp only [World.size_alloc, World.size_setCell, World.size_drew]; omega))]; first | with_reducible assumption | (simp [go_sem]; done) | (simp [go_sem, *]; done)
    have hz3_0 : w.heap.size < w3.heap.size := by omega
    have hy3_0 : w.heap.size ≤ w3.heap.size := by omega
    have hz3_1 : w.heap.size + 1 < w3.heap.size := by omega
    have hy3_1 : w.heap.size + 1 ≤ w3.heap.size := by omega
    go_wp2
    go_ret
    refine ⟨rfl, ?_⟩
    repeat (first | with_reducible exact Below.refl _ _ | with_reducible refine Below.setCell ?_ (by first | omega | (simp only [World.size_alloc, World.size_setCell, World.size_drew]; omega)) _ | with_reducible refine Below.alloc ?_ (by first | omega | (simp only [World.size_alloc, World.size_setCell, World.size_drew]; omega)) _ | with_reducible refine Below.drew ?_ | with_reducible refine Below.trans ?_ (hb3.mono (by first | omega | (simp only [World.size_alloc, World.size_setCell, World.size_drew]; omega))) | with_reducible refine Below.trans ?_ (hb2.mono (by first | omega | (simp only [World.size_alloc, World.size_setCell, World.size_drew]; omega))) | with_reducible refine Below.trans ?_ (hb1.mono (by first | omega | (simp only [World.size_alloc, World.size_setCell, World.size_drew]; omega))))

set_option maxHeartbeats 1600000 in
theorem compare_lo_gt (s : Bool) (ha la lb : Int) (d : decide (la < lb) = false) (d2 : decide (lb < la) = true) : Ret 16 #[.agg #[.int .u64 (ha), .int .u64 (la), .bool true, .bool s, .string ⟨#[]⟩], .agg #[.int .u64 (ha), .int .u64 (lb), .bool true, .bool s, .string ⟨#[]⟩]] (.int .i64 (1)) := by
  intro w
  cases s
  · go_enter Tryd.func16, Tryd.ntmps16
    go_wp2
    refine wp_region_quiet_below (by kernel_rfl) (by kernel_rfl) ?_
    repeat quiet_step (fail)
    quiet_step (with_reducible exact Calls.regrown_of ((bitLen_v4 _ _).at _))
    repeat quiet_step (fail)
    quiet_step (with_reducible exact Calls.regrown_of ((bitLen_v4 _ _).at _))
    repeat quiet_step (fail)
    refine wpQuiet_nil ?_
    intro w1 hb1
    replace hb1 := below_of hb1
    obtain ⟨hc1, hf1⟩ := rules hb1
    have hs1 := hb1.size
    try simp only [World.size_alloc, World.size_setCell, World.size_drew] at hs1
    have qa1_0 : w1.cell? ⟨w.heap.size, 0, none⟩ = some (.int .u64 ha) := by rw [hc1 _ _ (by first | omega | (simp only [World.size_alloc, World.size_setCell, World.size_drew]; omega))]; first | with_reducible assumption | (simp [go_sem]; done) | (simp [go_sem, *]; done)
    have qa1_1 : w1.cell? ⟨w.heap.size, 1, none⟩ = some (.int .u64 la) := by rw [hc1 _ _ (by first | omega | (simp only [World.size_alloc, World.size_setCell, World.size_drew]; omega))]; first | with_reducible assumption | (simp [go_sem]; done) | (simp [go_sem, *]; done)
    have qa1_2 : w1.cell? ⟨w.heap.size, 2, none⟩ = some (.bool true) := by rw [hc1 _ _ (by first | omega | (simp only [World.size_alloc, World.size_setCell, World.size_drew]; omega))]; first | with_reducible assumption | (simp [go_sem]; done) | (simp [go_sem, *]; done)
    have qa1_3 : w1.cell? ⟨w.heap.size, 3, none⟩ = some (.bool false) := by rw [hc1 _ _ (by first | omega | (simp only [World.size_alloc, World.size_setCell, World.size_drew]; omega))]; first | with_reducible assumption | (simp [go_sem]; done) | (simp [go_sem, *]; done)
    have qa1_4 : w1.cell? ⟨w.heap.size, 4, none⟩ = some (.string ⟨#[]⟩) := by rw [hc1 _ _ (by first | omega | (simp only [World.size_alloc, World.size_setCell, World.size_drew]; omega))]; first | with_reducible assumption | (simp [go_sem]; done) | (simp [go_sem, *]; done)
    have qb1_0 : w1.cell? ⟨w.heap.size + 1, 0, none⟩ = some (.int .u64 ha) := by rw [hc1 _ _ (by first | omega | (simp only [World.size_alloc, World.size_setCell, World.size_drew]; omega))]; first | with_reducible assumption | (simp [go_sem]; done) | (simp [go_sem, *]; done)
    have qb1_1 : w1.cell? ⟨w.heap.size + 1, 1, none⟩ = some (.int .u64 lb) := by rw [hc1 _ _ (by first | omega | (simp only [World.size_alloc, World.size_setCell, World.size_drew]; omega))]; first | with_reducible assumption | (simp [go_sem]; done) | (simp [go_sem, *]; done)
    have qb1_2 : w1.cell? ⟨w.heap.size + 1, 2, none⟩ = some (.bool true) := by rw [hc1 _ _ (by first | omega | (simp only [World.size_alloc, World.size_setCell, World.size_drew]; omega))]; first | with_reducible assumption | (simp [go_sem]; done) | (simp [go_sem, *]; done)
    have qb1_3 : w1.cell? ⟨w.heap.size + 1, 3, none⟩ = some (.bool false) := by rw [hc1 _ _ (by first | omega | (simp only [World.size_alloc, World.size_setCell, World.size_drew]; omega))]; first | with_reducible assumption | (simp [go_sem]; done) | (simp [go_sem, *]; done)
    have qb1_4 : w1.cell? ⟨w.heap.size + 1, 4, none⟩ = some (.string ⟨#[]⟩) := by rw [hc1 _ _ (by first | omega | (simp only [World.size_alloc, World.size_setCell, World.size_drew]; omega))]; first | with_reducible assumption | (simp [go_sem]; done) | (simp [go_sem, *]; done)
    have hz1_0 : w.heap.size < w1.heap.size := by omega
    have hy1_0 : w.heap.size ≤ w1.heap.size := by omega
    have hz1_1 : w.heap.size + 1 < w1.heap.size := by omega
    have hy1_1 : w.heap.size + 1 ≤ w1.heap.size := by omega
    go_wp2
    refine wp_region_quiet_below (by kernel_rfl) (by kernel_rfl) ?_
    repeat quiet_step (fail)
    refine wpQuiet_nil ?_
    intro w2 hb2
    replace hb2 := below_of hb2
    obtain ⟨hc2, hf2⟩ := rules hb2
    have hs2 := hb2.size
    try simp only [World.size_alloc, World.size_setCell, World.size_drew] at hs2
    have qa2_0 : w2.cell? ⟨w.heap.size, 0, none⟩ = some (.int .u64 ha) := by rw [hc2 _ _ (by first | omega | (simp only [World.size_alloc, World.size_setCell, World.size_drew]; omega))]; first | with_reducible assumption | (simp [go_sem]; done) | (simp [go_sem, *]; done)
    have qa2_1 : w2.cell? ⟨w.heap.size, 1, none⟩ = some (.int .u64 la) := by rw [hc2 _ _ (by first | omega | (simp only [World.size_alloc, World.size_setCell, World.size_drew]; omega))]; first | with_reducible assumption | (simp [go_sem]; done) | (simp [go_sem, *]; done)
    have qa2_2 : w2.cell? ⟨w.heap.size, 2, none⟩ = some (.bool true) := by rw [hc2 _ _ (by first | omega | (simp only [World.size_alloc, World.size_setCell, World.size_drew]; omega))]; first | with_reducible assumption | (simp [go_sem]; done) | (simp [go_sem, *]; done)
    have qa2_3 : w2.cell? ⟨w.heap.size, 3, none⟩ = some (.bool false) := by rw [hc2 _ _ (by first | omega | (simp only [World.size_alloc, World.size_setCell, World.size_drew]; omega))]; first | with_reducible assumption | (simp [go_sem]; done) | (simp [go_sem, *]; done)
    have qa2_4 : w2.cell? ⟨w.heap.size, 4, none⟩ = some (.string ⟨#[]⟩) := by rw [hc2 _ _ (by first | omega | (simp only [World.size_alloc, World.size_setCell, World.size_drew]; omega))]; first | with_reducible assumption | (simp [go_sem]; done) | (simp [go_sem, *]; done)
    have qb2_0 : w2.cell? ⟨w.heap.size + 1, 0, none⟩ = some (.int .u64 ha) := by rw [hc2 _ _ (by first | omega | (simp only [World.size_alloc, World.size_setCell, World.size_drew]; omega))]; first | with_reducible assumption | (simp [go_sem]; done) | (simp [go_sem, *]; done)
    have qb2_1 : w2.cell? ⟨w.heap.size + 1, 1, none⟩ = some (.int .u64 lb) := by rw [hc2 _ _ (by first | omega | (simp only [World.size_alloc, World.size_setCell, World.size_drew]; omega))]; first | with_reducible assumption | (simp [go_sem]; done) | (simp [go_sem, *]; done)
    have qb2_2 : w2.cell? ⟨w.heap.size + 1, 2, none⟩ = some (.bool true) := by rw [hc2 _ _ (by first | omega | (simp only [World.size_alloc, World.size_setCell, World.size_drew]; omega))]; first | with_reducible assumption | (simp [go_sem]; done) | (simp [go_sem, *]; done)
    have qb2_3 : w2.cell? ⟨w.heap.size + 1, 3, none⟩ = some (.bool false) := by rw [hc2 _ _ (by first | omega | (simp only [World.size_alloc, World.size_setCell, World.size_drew]; omega))]; first | with_reducible assumption | (simp [go_sem]; done) | (simp [go_sem, *]; done)
    have qb2_4 : w2.cell? ⟨w.heap.size + 1, 4, none⟩ = some (.string ⟨#[]⟩) := by rw [hc2 _ _ (by first | omega | (simp only [World.size_alloc, World.size_setCell, World.size_drew]; omega))]; first | with_reducible assumption | (simp [go_sem]; done) | (simp [go_sem, *]; done)
    have hz2_0 : w.heap.size < w2.heap.size := by omega
    have hy2_0 : w.heap.size ≤ w2.heap.size := by omega
    have hz2_1 : w.heap.size + 1 < w2.heap.size := by omega
    have hy2_1 : w.heap.size + 1 ≤ w2.heap.size := by omega
    go_wp2
    refine wp_region_quiet_below (by kernel_rfl) (by kernel_rfl) ?_
    repeat quiet_step (fail)
    refine wpQuiet_nil ?_
    intro w3 hb3
    replace hb3 := below_of hb3
    obtain ⟨hc3, hf3⟩ := rules hb3
    have hs3 := hb3.size
    try simp only [World.size_alloc, World.size_setCell, World.size_drew] at hs3
    have qa3_0 : w3.cell? ⟨w.heap.size, 0, none⟩ = some (.int .u64 ha) := by rw [hc3 _ _ (by first | omega | (simp only [World.size_alloc, World.size_setCell, World.size_drew]; omega))]; first | with_reducible assumption | (simp [go_sem]; done) | (simp [go_sem, *]; done)
    have qa3_1 : w3.cell? ⟨w.heap.size, 1, none⟩ = some (.int .u64 la) := by rw [hc3 _ _ (by first | omega | (simp only [World.size_alloc, World.size_setCell, World.size_drew]; omega))]; first | with_reducible assumption | (simp [go_sem]; done) | (simp [go_sem, *]; done)
    have qa3_2 : w3.cell? ⟨w.heap.size, 2, none⟩ = some (.bool true) := by rw [hc3 _ _ (by first | omega | (simp only [World.size_alloc, World.size_setCell, World.size_drew]; omega))]; first | with_reducible assumption | (simp [go_sem]; done) | (simp [go_sem, *]; done)
    have qa3_3 : w3.cell? ⟨w.heap.size, 3, none⟩ = some (.bool false) := by rw [hc3 _ _ (by first | omega | (simp only [World.size_alloc, World.size_setCell, World.size_drew]; omega))]; first | with_reducible assumption | (simp [go_sem]; done) | (simp [go_sem, *]; done)
    have qa3_4 : w3.cell? ⟨w.heap.size, 4, none⟩ = some (.string ⟨#[]⟩) := by rw [hc3 _ _ (by first | omega | (simp only [World.size_alloc, World.size_setCell, World.size_drew]; omega))]; first | with_reducible assumption | (simp [go_sem]; done) | (simp [go_sem, *]; done)
    have qb3_0 : w3.cell? ⟨w.heap.size + 1, 0, none⟩ = some (.int .u64 ha) := by rw [hc3 _ _ (by first | omega | (simp only [World.size_alloc, World.size_setCell, World.size_drew]; omega))]; first | with_reducible assumption | (simp [go_sem]; done) | (simp [go_sem, *]; done)
    have qb3_1 : w3.cell? ⟨w.heap.size + 1, 1, none⟩ = some (.int .u64 lb) := by rw [hc3 _ _ (by first | omega | (simp only [World.size_alloc, World.size_setCell, World.size_drew]; omega))]; first | with_reducible assumption | (simp [go_sem]; done) | (simp [go_sem, *]; done)
    have qb3_2 : w3.cell? ⟨w.heap.size + 1, 2, none⟩ = some (.bool true) := by rw [hc3 _ _ (by first | omega | (simp only [World.size_alloc, World.size_setCell, World.size_drew]; omega))]; first | with_reducible assumption | (simp [go_sem]; done) | (simp [go_sem, *]; done)
    have qb3_3 : w3.cell? ⟨w.heap.size + 1, 3, none⟩ = some (.bool false) := by rw [hc3 _ _ (by first | omega | (simp only [World.size_alloc, World.size_setCell, World.size_drew]; omega))]; first | with_reducible assumption | (simp [go_sem]; done) | (simp [go_sem, *]; done)
    have qb3_4 : w3.cell? ⟨w.heap.size + 1, 4, none⟩ = some (.string ⟨#[]⟩) := by rw [hc3 _ _ (by first | omega | (simp only [World.size_alloc, World.size_setCell, World.size_drew]; omega))]; first | with_reducible assumption | (simp [go_sem]; done) | (simp [go_sem, *]; done)
    have hz3_0 : w.heap.size < w3.heap.size := by omega
    have hy3_0 : w.heap.size ≤ w3.heap.size := by omega
    have hz3_1 : w.heap.size + 1 < w3.heap.size := by omega
    have hy3_1 : w.heap.size + 1 ≤ w3.heap.size := by omega
    go_wp2
    go_ret
    refine ⟨rfl, ?_⟩
    repeat (first | with_reducible exact Below.refl _ _ | with_reducible refine Below.setCell ?_ (by first | omega | (simp only [World.size_alloc, World.size_setCell, World.size_drew]; omega)) _ | with_reducible refine Below.alloc ?_ (by first | omega | (simp only [World.size_alloc, World.size_setCell, World.size_drew]; omega)) _ | with_reducible refine Below.drew ?_ | with_reducible refine Below.trans ?_ (hb3.mono (by first | omega | (simp only [World.size_alloc, World.size_setCell, World.size_drew]; omega))) | with_reducible refine Below.trans ?_ (hb2.mono (by first | omega | (simp only [World.size_alloc, World.size_setCell, World.size_drew]; omega))) | with_reducible refine Below.trans ?_ (hb1.mono (by first | omega | (simp only [World.size_alloc, World.size_setCell, World.size_drew]; omega))))
  · go_enter Tryd.func16, Tryd.ntmps16
    go_wp2
    refine wp_region_quiet_below (by kernel_rfl) (by kernel_rfl) ?_
    repeat quiet_step (fail)
    quiet_step (with_reducible exact Calls.regrown_of ((bitLen_v6 _ _).at _))
    repeat quiet_step (fail)
    quiet_step (with_reducible exact Calls.regrown_of ((bitLen_v6 _ _).at _))
    repeat quiet_step (fail)
    refine wpQuiet_nil ?_
    intro w1 hb1
    replace hb1 := below_of hb1
    obtain ⟨hc1, hf1⟩ := rules hb1
    have hs1 := hb1.size
    try simp only [World.size_alloc, World.size_setCell, World.size_drew] at hs1
    have qa1_0 : w1.cell? ⟨w.heap.size, 0, none⟩ = some (.int .u64 ha) := by rw [hc1 _ _ (by first | omega | (simp only [World.size_alloc, World.size_setCell, World.size_drew]; omega))]; first | with_reducible assumption | (simp [go_sem]; done) | (simp [go_sem, *]; done)
    have qa1_1 : w1.cell? ⟨w.heap.size, 1, none⟩ = some (.int .u64 la) := by rw [hc1 _ _ (by first | omega | (simp only [World.size_alloc, World.size_setCell, World.size_drew]; omega))]; first | with_reducible assumption | (simp [go_sem]; done) | (simp [go_sem, *]; done)
    have qa1_2 : w1.cell? ⟨w.heap.size, 2, none⟩ = some (.bool true) := by rw [hc1 _ _ (by first | omega | (simp only [World.size_alloc, World.size_setCell, World.size_drew]; omega))]; first | with_reducible assumption | (simp [go_sem]; done) | (simp [go_sem, *]; done)
    have qa1_3 : w1.cell? ⟨w.heap.size, 3, none⟩ = some (.bool true) := by rw [hc1 _ _ (by first | omega | (simp only [World.size_alloc, World.size_setCell, World.size_drew]; omega))]; first | with_reducible assumption | (simp [go_sem]; done) | (simp [go_sem, *]; done)
    have qa1_4 : w1.cell? ⟨w.heap.size, 4, none⟩ = some (.string ⟨#[]⟩) := by rw [hc1 _ _ (by first | omega | (simp only [World.size_alloc, World.size_setCell, World.size_drew]; omega))]; first | with_reducible assumption | (simp [go_sem]; done) | (simp [go_sem, *]; done)
    have qb1_0 : w1.cell? ⟨w.heap.size + 1, 0, none⟩ = some (.int .u64 ha) := by rw [hc1 _ _ (by first | omega | (simp only [World.size_alloc, World.size_setCell, World.size_drew]; omega))]; first | with_reducible assumption | (simp [go_sem]; done) | (simp [go_sem, *]; done)
    have qb1_1 : w1.cell? ⟨w.heap.size + 1, 1, none⟩ = some (.int .u64 lb) := by rw [hc1 _ _ (by first | omega | (simp only [World.size_alloc, World.size_setCell, World.size_drew]; omega))]; first | with_reducible assumption | (simp [go_sem]; done) | (simp [go_sem, *]; done)
    have qb1_2 : w1.cell? ⟨w.heap.size + 1, 2, none⟩ = some (.bool true) := by rw [hc1 _ _ (by first | omega | (simp only [World.size_alloc, World.size_setCell, World.size_drew]; omega))]; first | with_reducible assumption | (simp [go_sem]; done) | (simp [go_sem, *]; done)
    have qb1_3 : w1.cell? ⟨w.heap.size + 1, 3, none⟩ = some (.bool true) := by rw [hc1 _ _ (by first | omega | (simp only [World.size_alloc, World.size_setCell, World.size_drew]; omega))]; first | with_reducible assumption | (simp [go_sem]; done) | (simp [go_sem, *]; done)
    have qb1_4 : w1.cell? ⟨w.heap.size + 1, 4, none⟩ = some (.string ⟨#[]⟩) := by rw [hc1 _ _ (by first | omega | (simp only [World.size_alloc, World.size_setCell, World.size_drew]; omega))]; first | with_reducible assumption | (simp [go_sem]; done) | (simp [go_sem, *]; done)
    have hz1_0 : w.heap.size < w1.heap.size := by omega
    have hy1_0 : w.heap.size ≤ w1.heap.size := by omega
    have hz1_1 : w.heap.size + 1 < w1.heap.size := by omega
    have hy1_1 : w.heap.size + 1 ≤ w1.heap.size := by omega
    go_wp2
    refine wp_region_quiet_below (by kernel_rfl) (by kernel_rfl) ?_
    repeat quiet_step (fail)
    refine wpQuiet_nil ?_
    intro w2 hb2
    replace hb2 := below_of hb2
    obtain ⟨hc2, hf2⟩ := rules hb2
    have hs2 := hb2.size
    try simp only [World.size_alloc, World.size_setCell, World.size_drew] at hs2
    have qa2_0 : w2.cell? ⟨w.heap.size, 0, none⟩ = some (.int .u64 ha) := by rw [hc2 _ _ (by first | omega | (simp only [World.size_alloc, World.size_setCell, World.size_drew]; omega))]; first | with_reducible assumption | (simp [go_sem]; done) | (simp [go_sem, *]; done)
    have qa2_1 : w2.cell? ⟨w.heap.size, 1, none⟩ = some (.int .u64 la) := by rw [hc2 _ _ (by first | omega | (simp only [World.size_alloc, World.size_setCell, World.size_drew]; omega))]; first | with_reducible assumption | (simp [go_sem]; done) | (simp [go_sem, *]; done)
    have qa2_2 : w2.cell? ⟨w.heap.size, 2, none⟩ = some (.bool true) := by rw [hc2 _ _ (by first | omega | (simp only [World.size_alloc, World.size_setCell, World.size_drew]; omega))]; first | with_reducible assumption | (simp [go_sem]; done) | (simp [go_sem, *]; done)
    have qa2_3 : w2.cell? ⟨w.heap.size, 3, none⟩ = some (.bool true) := by rw [hc2 _ _ (by first | omega | (simp only [World.size_alloc, World.size_setCell, World.size_drew]; omega))]; first | with_reducible assumption | (simp [go_sem]; done) | (simp [go_sem, *]; done)
    have qa2_4 : w2.cell? ⟨w.heap.size, 4, none⟩ = some (.string ⟨#[]⟩) := by rw [hc2 _ _ (by first | omega | (simp only [World.size_alloc, World.size_setCell, World.size_drew]; omega))]; first | with_reducible assumption | (simp [go_sem]; done) | (simp [go_sem, *]; done)
    have qb2_0 : w2.cell? ⟨w.heap.size + 1, 0, none⟩ = some (.int .u64 ha) := by rw [hc2 _ _ (by first | omega | (simp only [World.size_alloc, World.size_setCell, World.size_drew]; omega))]; first | with_reducible assumption | (simp [go_sem]; done) | (simp [go_sem, *]; done)
    have qb2_1 : w2.cell? ⟨w.heap.size + 1, 1, none⟩ = some (.int .u64 lb) := by rw [hc2 _ _ (by first | omega | (simp only [World.size_alloc, World.size_setCell, World.size_drew]; omega))]; first | with_reducible assumption | (simp [go_sem]; done) | (simp [go_sem, *]; done)
    have qb2_2 : w2.cell? ⟨w.heap.size + 1, 2, none⟩ = some (.bool true) := by rw [hc2 _ _ (by first | omega | (simp only [World.size_alloc, World.size_setCell, World.size_drew]; omega))]; first | with_reducible assumption | (simp [go_sem]; done) | (simp [go_sem, *]; done)
    have qb2_3 : w2.cell? ⟨w.heap.size + 1, 3, none⟩ = some (.bool true) := by rw [hc2 _ _ (by first | omega | (simp only [World.size_alloc, World.size_setCell, World.size_drew]; omega))]; first | with_reducible assumption | (simp [go_sem]; done) | (simp [go_sem, *]; done)
    have qb2_4 : w2.cell? ⟨w.heap.size + 1, 4, none⟩ = some (.string ⟨#[]⟩) := by rw [hc2 _ _ (by first | omega | (simp only [World.size_alloc, World.size_setCell, World.size_drew]; omega))]; first | with_reducible assumption | (simp [go_sem]; done) | (simp [go_sem, *]; done)
    have hz2_0 : w.heap.size < w2.heap.size := by omega
    have hy2_0 : w.heap.size ≤ w2.heap.size := by omega
    have hz2_1 : w.heap.size + 1 < w2.heap.size := by omega
    have hy2_1 : w.heap.size + 1 ≤ w2.heap.size := by omega
    go_wp2
    refine wp_region_quiet_below (by kernel_rfl) (by kernel_rfl) ?_
    repeat quiet_step (fail)
    refine wpQuiet_nil ?_
    intro w3 hb3
    replace hb3 := below_of hb3
    obtain ⟨hc3, hf3⟩ := rules hb3
    have hs3 := hb3.size
    try simp only [World.size_alloc, World.size_setCell, World.size_drew] at hs3
    have qa3_0 : w3.cell? ⟨w.heap.size, 0, none⟩ = some (.int .u64 ha) := by rw [hc3 _ _ (by first | omega | (simp only [World.size_alloc, World.size_setCell, World.size_drew]; omega))]; first | with_reducible assumption | (simp [go_sem]; done) | (simp [go_sem, *]; done)
    have qa3_1 : w3.cell? ⟨w.heap.size, 1, none⟩ = some (.int .u64 la) := by rw [hc3 _ _ (by first | omega | (simp only [World.size_alloc, World.size_setCell, World.size_drew]; omega))]; first | with_reducible assumption | (simp [go_sem]; done) | (simp [go_sem, *]; done)
    have qa3_2 : w3.cell? ⟨w.heap.size, 2, none⟩ = some (.bool true) := by rw [hc3 _ _ (by first | omega | (simp only [World.size_alloc, World.size_setCell, World.size_drew]; omega))]; first | with_reducible assumption | (simp [go_sem]; done) | (simp [go_sem, *]; done)
    have qa3_3 : w3.cell? ⟨w.heap.size, 3, none⟩ = some (.bool true) := by rw [hc3 _ _ (by first | omega | (simp only [World.size_alloc, World.size_setCell, World.size_drew]; omega))]; first | with_reducible assumption | (simp [go_sem]; done) | (simp [go_sem, *]; done)
    have qa3_4 : w3.cell? ⟨w.heap.size, 4, none⟩ = some (.string ⟨#[]⟩) := by rw [hc3 _ _ (by first | omega | (simp only [World.size_alloc, World.size_setCell, World.size_drew]; omega))]; first | with_reducible assumption | (simp [go_sem]; done) | (simp [go_sem, *]; done)
    have qb3_0 : w3.cell? ⟨w.heap.size + 1, 0, none⟩ = some (.int .u64 ha) := by rw [hc3 _ _ (by first | omega | (simp only [World.size_alloc, World.size_setCell, World.size_drew]; omega))]; first | with_reducible assumption | (simp [go_sem]; done) | (simp [go_sem, *]; done)
    have qb3_1 : w3.cell? ⟨w.heap.size + 1, 1, none⟩ = some (.int .u64 lb) := by rw [hc3 _ _ (by first | omega | (simp only [World.size_alloc, World.size_setCell, World.size_drew]; omega))]; first | with_reducible assumption | (simp [go_sem]; done) | (simp [go_sem, *]; done)
    have qb3_2 : w3.cell? ⟨w.heap.size + 1, 2, none⟩ = some (.bool true) := by rw [hc3 _ _ (by first | omega | (simp only [World.size_alloc, World.size_setCell, World.size_drew]; omega))]; first | with_reducible assumption | (simp [go_sem]; done) | (simp [go_sem, *]; done)
    have qb3_3 : w3.cell? ⟨w.heap.size + 1, 3, none⟩ = some (.bool true) := by rw [hc3 _ _ (by first | omega | (simp only [World.size_alloc, World.size_setCell, World.size_drew]; omega))]; first | with_reducible assumption | (simp [go_sem]; done) | (simp [go_sem, *]; done)
    have qb3_4 : w3.cell? ⟨w.heap.size + 1, 4, none⟩ = some (.string ⟨#[]⟩) := by rw [hc3 _ _ (by first | omega | (simp only [World.size_alloc, World.size_setCell, World.size_drew]; omega))]; first | with_reducible assumption | (simp [go_sem]; done) | (simp [go_sem, *]; done)
    have hz3_0 : w.heap.size < w3.heap.size := by omega
    have hy3_0 : w.heap.size ≤ w3.heap.size := by omega
    have hz3_1 : w.heap.size + 1 < w3.heap.size := by omega
    have hy3_1 : w.heap.size + 1 ≤ w3.heap.size := by omega
    go_wp2
    go_ret
    refine ⟨rfl, ?_⟩
    repeat (first | with_reducible exact Below.refl _ _ | with_reducible refine Below.setCell ?_ (by first | omega | (simp only [World.size_alloc, World.size_setCell, World.size_drew]; omega)) _ | with_reducible refine Below.alloc ?_ (by first | omega | (simp only [World.size_alloc, World.size_setCell, World.size_drew]; omega)) _ | with_reducible refine Below.drew ?_ | with_reducible refine Below.trans ?_ (hb3.mono (by first | omega | (simp only [World.size_alloc, World.size_setCell, World.size_drew]; omega))) | with_reducible refine Below.trans ?_ (hb2.mono (by first | omega | (simp only [World.size_alloc, World.size_setCell, World.size_drew]; omega))) | with_reducible refine Below.trans ?_ (hb1.mono (by first | omega | (simp only [World.size_alloc, World.size_setCell, World.size_drew]; omega))))

set_option maxHeartbeats 1600000 in
theorem compare_eq (s : Bool) (ha la : Int) : Ret 16 #[.agg #[.int .u64 (ha), .int .u64 (la), .bool true, .bool s, .string ⟨#[]⟩], .agg #[.int .u64 (ha), .int .u64 (la), .bool true, .bool s, .string ⟨#[]⟩]] (.int .i64 (0)) := by
  intro w
  cases s
  · go_enter Tryd.func16, Tryd.ntmps16
    go_wp2
    refine wp_region_quiet_below (by kernel_rfl) (by kernel_rfl) ?_
    repeat quiet_step (fail)
    quiet_step (with_reducible exact Calls.regrown_of ((bitLen_v4 _ _).at _))
    repeat quiet_step (fail)
    quiet_step (with_reducible exact Calls.regrown_of ((bitLen_v4 _ _).at _))
    repeat quiet_step (fail)
    refine wpQuiet_nil ?_
    intro w1 hb1
    replace hb1 := below_of hb1
    obtain ⟨hc1, hf1⟩ := rules hb1
    have hs1 := hb1.size
    try simp only [World.size_alloc, World.size_setCell, World.size_drew] at hs1
    have qa1_0 : w1.cell? ⟨w.heap.size, 0, none⟩ = some (.int .u64 ha) := by rw [hc1 _ _ (by first | omega | (simp only [World.size_alloc, World.size_setCell, World.size_drew]; omega))]; first | with_reducible assumption | (simp [go_sem]; done) | (simp [go_sem, *]; done)
    have qa1_1 : w1.cell? ⟨w.heap.size, 1, none⟩ = some (.int .u64 la) := by rw [hc1 _ _ (by first | omega | (simp only [World.size_alloc, World.size_setCell, World.size_drew]; omega))]; first | with_reducible assumption | (simp [go_sem]; done) | (simp [go_sem, *]; done)
    have qa1_2 : w1.cell? ⟨w.heap.size, 2, none⟩ = some (.bool true) := by rw [hc1 _ _ (by first | omega | (simp only [World.size_alloc, World.size_setCell, World.size_drew]; omega))]; first | with_reducible assumption | (simp [go_sem]; done) | (simp [go_sem, *]; done)
    have qa1_3 : w1.cell? ⟨w.heap.size, 3, none⟩ = some (.bool false) := by rw [hc1 _ _ (by first | omega | (simp only [World.size_alloc, World.size_setCell, World.size_drew]; omega))]; first | with_reducible assumption | (simp [go_sem]; done) | (simp [go_sem, *]; done)
    have qa1_4 : w1.cell? ⟨w.heap.size, 4, none⟩ = some (.string ⟨#[]⟩) := by rw [hc1 _ _ (by first | omega | (simp only [World.size_alloc, World.size_setCell, World.size_drew]; omega))]; first | with_reducible assumption | (simp [go_sem]; done) | (simp [go_sem, *]; done)
    have qb1_0 : w1.cell? ⟨w.heap.size + 1, 0, none⟩ = some (.int .u64 ha) := by rw [hc1 _ _ (by first | omega | (simp only [World.size_alloc, World.size_setCell, World.size_drew]; omega))]; first | with_reducible assumption | (simp [go_sem]; done) | (simp [go_sem, *]; done)
    have qb1_1 : w1.cell? ⟨w.heap.size + 1, 1, none⟩ = some (.int .u64 la) := by rw [hc1 _ _ (by first | omega | (simp only [World.size_alloc, World.size_setCell, World.size_drew]; omega))]; first | with_reducible assumption | (simp [go_sem]; done) | (simp [go_sem, *]; done)
    have qb1_2 : w1.cell? ⟨w.heap.size + 1, 2, none⟩ = some (.bool true) := by rw [hc1 _ _ (by first | omega | (simp only [World.size_alloc, World.size_setCell, World.size_drew]; omega))]; first | with_reducible assumption | (simp [go_sem]; done) | (simp [go_sem, *]; done)
    have qb1_3 : w1.cell? ⟨w.heap.size + 1, 3, none⟩ = some (.bool false) := by rw [hc1 _ _ (by first | omega | (simp only [World.size_alloc, World.size_setCell, World.size_drew]; omega))]; first | with_reducible assumption | (simp [go_sem]; done) | (simp [go_sem, *]; done)
    have qb1_4 : w1.cell? ⟨w.heap.size + 1, 4, none⟩ = some (.string ⟨#[]⟩) := by rw [hc1 _ _ (by first | omega | (simp only [World.size_alloc, World.size_setCell, World.size_drew]; omega))]; first | with_reducible assumption | (simp [go_sem]; done) | (simp [go_sem, *]; done)
    have hz1_0 : w.heap.size < w1.heap.size := by omega
    have hy1_0 : w.heap.size ≤ w1.heap.size := by omega
    have hz1_1 : w.heap.size + 1 < w1.heap.size := by omega
    have hy1_1 : w.heap.size + 1 ≤ w1.heap.size := by omega
    go_wp2
    refine wp_region_quiet_below (by kernel_rfl) (by kernel_rfl) ?_
    repeat quiet_step (fail)
    refine wpQuiet_nil ?_
    intro w2 hb2
    replace hb2 := below_of hb2
    obtain ⟨hc2, hf2⟩ := rules hb2
    have hs2 := hb2.size
    try simp only [World.size_alloc, World.size_setCell, World.size_drew] at hs2
    have qa2_0 : w2.cell? ⟨w.heap.size, 0, none⟩ = some (.int .u64 ha) := by rw [hc2 _ _ (by first | omega | (simp only [World.size_alloc, World.size_setCell, World.size_drew]; omega))]; first | with_reducible assumption | (simp [go_sem]; done) | (simp [go_sem, *]; done)
    have qa2_1 : w2.cell? ⟨w.heap.size, 1, none⟩ = some (.int .u64 la) := by rw [hc2 _ _ (by first | omega | (simp only [World.size_alloc, World.size_setCell, World.size_drew]; omega))]; first | with_reducible assumption | (simp [go_sem]; done) | (simp [go_sem, *]; done)
    have qa2_2 : w2.cell? ⟨w.heap.size, 2, none⟩ = some (.bool true) := by rw [hc2 _ _ (by first | omega | (simp only [World.size_alloc, World.size_setCell, World.size_drew]; omega))]; first | with_reducible assumption | (simp [go_sem]; done) | (simp [go_sem, *]; done)
    have qa2_3 : w2.cell? ⟨w.heap.size, 3, none⟩ = some (.bool false) := by rw [hc2 _ _ (by first | omega | (simp only [World.size_alloc, World.size_setCell, World.size_drew]; omega))]; first | with_reducible assumption | (simp [go_sem]; done) | (simp [go_sem, *]; done)
    have qa2_4 : w2.cell? ⟨w.heap.size, 4, none⟩ = some (.string ⟨#[]⟩) := by rw [hc2 _ _ (by first | omega | (simp only [World.size_alloc, World.size_setCell, World.size_drew]; omega))]; first | with_reducible assumption | (simp [go_sem]; done) | (simp [go_sem, *]; done)
    have qb2_0 : w2.cell? ⟨w.heap.size + 1, 0, none⟩ = some (.int .u64 ha) := by rw [hc2 _ _ (by first | omega | (simp only [World.size_alloc, World.size_setCell, World.size_drew]; omega))]; first | with_reducible assumption | (simp [go_sem]; done) | (simp [go_sem, *]; done)
    have qb2_1 : w2.cell? ⟨w.heap.size + 1, 1, none⟩ = some (.int .u64 la) := by rw [hc2 _ _ (by first | omega | (simp only [World.size_alloc, World.size_setCell, World.size_drew]; omega))]; first | with_reducible assumption | (simp [go_sem]; done) | (simp [go_sem, *]; done)
    have qb2_2 : w2.cell? ⟨w.heap.size + 1, 2, none⟩ = some (.bool true) := by rw [hc2 _ _ (by first | omega | (simp only [World.size_alloc, World.size_setCell, World.size_drew]; omega))]; first | with_reducible assumption | (simp [go_sem]; done) | (simp [go_sem, *]; done)
    have qb2_3 : w2.cell? ⟨w.heap.size + 1, 3, none⟩ = some (.bool false) := by rw [hc2 _ _ (by first | omega | (simp only [World.size_alloc, World.size_setCell, World.size_drew]; omega))]; first | with_reducible assumption | (simp [go_sem]; done) | (simp [go_sem, *]; done)
    have qb2_4 : w2.cell? ⟨w.heap.size + 1, 4, none⟩ = some (.string ⟨#[]⟩) := by rw [hc2 _ _ (by first | omega | (simp only [World.size_alloc, World.size_setCell, World.size_drew]; omega))]; first | with_reducible assumption | (simp [go_sem]; done) | (simp [go_sem, *]; done)
    have hz2_0 : w.heap.size < w2.heap.size := by omega
    have hy2_0 : w.heap.size ≤ w2.heap.size := by omega
    have hz2_1 : w.heap.size + 1 < w2.heap.size := by omega
    have hy2_1 : w.heap.size + 1 ≤ w2.heap.size := by omega
    go_wp2
    refine wp_region_quiet_below (by kernel_rfl) (by kernel_rfl) ?_
    repeat quiet_step (fail)
    refine wpQuiet_nil ?_
    intro w3 hb3
    replace hb3 := below_of hb3
    obtain ⟨hc3, hf3⟩ := rules hb3
    have hs3 := hb3.size
    try simp only [World.size_alloc, World.size_setCell, World.size_drew] at hs3
    have qa3_0 : w3.cell? ⟨w.heap.size, 0, none⟩ = some (.int .u64 ha) := by rw [hc3 _ _ (by first | omega | (simp only [World.size_alloc, World.size_setCell, World.size_drew]; omega))]; first | with_reducible assumption | (simp [go_sem]; done) | (simp [go_sem, *]; done)
    have qa3_1 : w3.cell? ⟨w.heap.size, 1, none⟩ = some (.int .u64 la) := by rw [hc3 _ _ (by first | omega | (simp only [World.size_alloc, World.size_setCell, World.size_drew]; omega))]; first | with_reducible assumption | (simp [go_sem]; done) | (simp [go_sem, *]; done)
    have qa3_2 : w3.cell? ⟨w.heap.size, 2, none⟩ = some (.bool true) := by rw [hc3 _ _ (by first | omega | (simp only [World.size_alloc, World.size_setCell, World.size_drew]; omega))]; first | with_reducible assumption | (simp [go_sem]; done) | (simp [go_sem, *]; done)
    have qa3_3 : w3.cell? ⟨w.heap.size, 3, none⟩ = some (.bool false) := by rw [hc3 _ _ (by first | omega | (simp only [World.size_alloc, World.size_setCell, World.size_drew]; omega))]; first | with_reducible assumption | (simp [go_sem]; done) | (simp [go_sem, *]; done)
    have qa3_4 : w3.cell? ⟨w.heap.size, 4, none⟩ = some (.string ⟨#[]⟩) := by rw [hc3 _ _ (by first | omega | (simp only [World.size_alloc, World.size_setCell, World.size_drew]; omega))]; first | with_reducible assumption | (simp [go_sem]; done) | (simp [go_sem, *]; done)
    have qb3_0 : w3.cell? ⟨w.heap.size + 1, 0, none⟩ = some (.int .u64 ha) := by rw [hc3 _ _ (by first | omega | (simp only [World.size_alloc, World.size_setCell, World.size_drew]; omega))]; first | with_reducible assumption | (simp [go_sem]; done) | (simp [go_sem, *]; done)
    have qb3_1 : w3.cell? ⟨w.heap.size + 1, 1, none⟩ = some (.int .u64 la) := by rw [hc3 _ _ (by first | omega | (simp only [World.size_alloc, World.size_setCell, World.size_drew]; omega))]; first | with_reducible assumption | (simp [go_sem]; done) | (simp [go_sem, *]; done)
    have qb3_2 : w3.cell? ⟨w.heap.size + 1, 2, none⟩ = some (.bool true) := by rw [hc3 _ _ (by first | omega | (simp only [World.size_alloc, World.size_setCell, World.size_drew]; omega))]; first | with_reducible assumption | (simp [go_sem]; done) | (simp [go_sem, *]; done)
    have qb3_3 : w3.cell? ⟨w.heap.size + 1, 3, none⟩ = some (.bool false) := by rw [hc3 _ _ (by first | omega | (simp only [World.size_alloc, World.size_setCell, World.size_drew]; omega))]; first | with_reducible assumption | (simp [go_sem]; done) | (simp [go_sem, *]; done)
    have qb3_4 : w3.cell? ⟨w.heap.size + 1, 4, none⟩ = some (.string ⟨#[]⟩) := by rw [hc3 _ _ (by first | omega | (simp only [World.size_alloc, World.size_setCell, World.size_drew]; omega))]; first | with_reducible assumption | (simp [go_sem]; done) | (simp [go_sem, *]; done)
    have hz3_0 : w.heap.size < w3.heap.size := by omega
    have hy3_0 : w.heap.size ≤ w3.heap.size := by omega
    have hz3_1 : w.heap.size + 1 < w3.heap.size := by omega
    have hy3_1 : w.heap.size + 1 ≤ w3.heap.size := by omega
    go_wp2_with fail
    refine (is6_any false _ _ _).mono ?_
    rintro e w4 ⟨rfl, hb4⟩
    obtain ⟨hc4, hf4⟩ := rulesB (B := w.heap.size + 2) hb4 (by first | omega | (simp only [World.size_alloc, World.size_setCell, World.size_drew]; omega))
    have hs4 := hb4.size
    try simp only [World.size_alloc, World.size_setCell, World.size_drew] at hs4
    go_wp2
    go_ret
    refine ⟨rfl, ?_⟩
    repeat (first | with_reducible exact Below.refl _ _ | with_reducible refine Below.setCell ?_ (by first | omega | (simp only [World.size_alloc, World.size_setCell, World.size_drew]; omega)) _ | with_reducible refine Below.alloc ?_ (by first | omega | (simp only [World.size_alloc, World.size_setCell, World.size_drew]; omega)) _ | with_reducible refine Below.drew ?_ | with_reducible refine Below.trans ?_ (hb4.mono (by first | omega | (simp only [World.size_alloc, World.size_setCell, World.size_drew]; omega))) | with_reducible refine Below.trans ?_ (hb3.mono (by first | omega | (simp only [World.size_alloc, World.size_setCell, World.size_drew]; omega))) | with_reducible refine Below.trans ?_ (hb2.mono (by first | omega | (simp only [World.size_alloc, World.size_setCell, World.size_drew]; omega))) | with_reducible refine Below.trans ?_ (hb1.mono (by first | omega | (simp only [World.size_alloc, World.size_setCell, World.size_drew]; omega))))
  · go_enter Tryd.func16, Tryd.ntmps16
    go_wp2
    refine wp_region_quiet_below (by kernel_rfl) (by kernel_rfl) ?_
    repeat quiet_step (fail)
    quiet_step (with_reducible exact Calls.regrown_of ((bitLen_v6 _ _).at _))
    repeat quiet_step (fail)
    quiet_step (with_reducible exact Calls.regrown_of ((bitLen_v6 _ _).at _))
    repeat quiet_step (fail)
    refine wpQuiet_nil ?_
    intro w1 hb1
    replace hb1 := below_of hb1
    obtain ⟨hc1, hf1⟩ := rules hb1
    have hs1 := hb1.size
    try simp only [World.size_alloc, World.size_setCell, World.size_drew] at hs1
    have qa1_0 : w1.cell? ⟨w.heap.size, 0, none⟩ = some (.int .u64 ha) := by rw [hc1 _ _ (by first | omega | (simp only [World.size_alloc, World.size_setCell, World.size_drew]; omega))]; first | with_reducible assumption | (simp [go_sem]; done) | (simp [go_sem, *]; done)
    have qa1_1 : w1.cell? ⟨w.heap.size, 1, none⟩ = some (.int .u64 la) := by rw [hc1 _ _ (by first | omega | (simp only [World.size_alloc, World.size_setCell, World.size_drew]; omega))]; first | with_reducible assumption | (simp [go_sem]; done) | (simp [go_sem, *]; done)
    have qa1_2 : w1.cell? ⟨w.heap.size, 2, none⟩ = some (.bool true) := by rw [hc1 _ _ (by first | omega | (simp only [World.size_alloc, World.size_setCell, World.size_drew]; omega))]; first | with_reducible assumption | (simp [go_sem]; done) | (simp [go_sem, *]; done)
    have qa1_3 : w1.cell? ⟨w.heap.size, 3, none⟩ = some (.bool true) := by rw [hc1 _ _ (by first | omega | (simp only [World.size_alloc, World.size_setCell, World.size_drew]; omega))]; first | with_reducible assumption | (simp [go_sem]; done) | (simp [go_sem, *]; done)
    have qa1_4 : w1.cell? ⟨w.heap.size, 4, none⟩ = some (.string ⟨#[]⟩) := by rw [hc1 _ _ (by first | omega | (simp only [World.size_alloc, World.size_setCell, World.size_drew]; omega))]; first | with_reducible assumption | (simp [go_sem]; done) | (simp [go_sem, *]; done)
    have qb1_0 : w1.cell? ⟨w.heap.size + 1, 0, none⟩ = some (.int .u64 ha) := by rw [hc1 _ _ (by first | omega | (simp only [World.size_alloc, World.size_setCell, World.size_drew]; omega))]; first | with_reducible assumption | (simp [go_sem]; done) | (simp [go_sem, *]; done)
    have qb1_1 : w1.cell? ⟨w.heap.size + 1, 1, none⟩ = some (.int .u64 la) := by rw [hc1 _ _ (by first | omega | (simp only [World.size_alloc, World.size_setCell, World.size_drew]; omega))]; first | with_reducible assumption | (simp [go_sem]; done) | (simp [go_sem, *]; done)
    have qb1_2 : w1.cell? ⟨w.heap.size + 1, 2, none⟩ = some (.bool true) := by rw [hc1 _ _ (by first | omega | (simp only [World.size_alloc, World.size_setCell, World.size_drew]; omega))]; first | with_reducible assumption | (simp [go_sem]; done) | (simp [go_sem, *]; done)
    have qb1_3 : w1.cell? ⟨w.heap.size + 1, 3, none⟩ = some (.bool true) := by rw [hc1 _ _ (by first | omega | (simp only [World.size_alloc, World.size_setCell, World.size_drew]; omega))]; first | with_reducible assumption | (simp [go_sem]; done) | (simp [go_sem, *]; done)
    have qb1_4 : w1.cell? ⟨w.heap.size + 1, 4, none⟩ = some (.string ⟨#[]⟩) := by rw [hc1 _ _ (by first | omega | (simp only [World.size_alloc, World.size_setCell, World.size_drew]; omega))]; first | with_reducible assumption | (simp [go_sem]; done) | (simp [go_sem, *]; done)
    have hz1_0 : w.heap.size < w1.heap.size := by omega
    have hy1_0 : w.heap.size ≤ w1.heap.size := by omega
    have hz1_1 : w.heap.size + 1 < w1.heap.size := by omega
    have hy1_1 : w.heap.size + 1 ≤ w1.heap.size := by omega
    go_wp2
    refine wp_region_quiet_below (by kernel_rfl) (by kernel_rfl) ?_
    repeat quiet_step (fail)
    refine wpQuiet_nil ?_
    intro w2 hb2
    replace hb2 := below_of hb2
    obtain ⟨hc2, hf2⟩ := rules hb2
    have hs2 := hb2.size
    try simp only [World.size_alloc, World.size_setCell, World.size_drew] at hs2
    have qa2_0 : w2.cell? ⟨w.heap.size, 0, none⟩ = some (.int .u64 ha) := by rw [hc2 _ _ (by first | omega | (simp only [World.size_alloc, World.size_setCell, World.size_drew]; omega))]; first | with_reducible assumption | (simp [go_sem]; done) | (simp [go_sem, *]; done)
    have qa2_1 : w2.cell? ⟨w.heap.size, 1, none⟩ = some (.int .u64 la) := by rw [hc2 _ _ (by first | omega | (simp only [World.size_alloc, World.size_setCell, World.size_drew]; omega))]; first | with_reducible assumption | (simp [go_sem]; done) | (simp [go_sem, *]; done)
    have qa2_2 : w2.cell? ⟨w.heap.size, 2, none⟩ = some (.bool true) := by rw [hc2 _ _ (by first | omega | (simp only [World.size_alloc, World.size_setCell, World.size_drew]; omega))]; first | with_reducible assumption | (simp [go_sem]; done) | (simp [go_sem, *]; done)
    have qa2_3 : w2.cell? ⟨w.heap.size, 3, none⟩ = some (.bool true) := by rw [hc2 _ _ (by first | omega | (simp only [World.size_alloc, World.size_setCell, World.size_drew]; omega))]; first | with_reducible assumption | (simp [go_sem]; done) | (simp [go_sem, *]; done)
    have qa2_4 : w2.cell? ⟨w.heap.size, 4, none⟩ = some (.string ⟨#[]⟩) := by rw [hc2 _ _ (by first | omega | (simp only [World.size_alloc, World.size_setCell, World.size_drew]; omega))]; first | with_reducible assumption | (simp [go_sem]; done) | (simp [go_sem, *]; done)
    have qb2_0 : w2.cell? ⟨w.heap.size + 1, 0, none⟩ = some (.int .u64 ha) := by rw [hc2 _ _ (by first | omega | (simp only [World.size_alloc, World.size_setCell, World.size_drew]; omega))]; first | with_reducible assumption | (simp [go_sem]; done) | (simp [go_sem, *]; done)
    have qb2_1 : w2.cell? ⟨w.heap.size + 1, 1, none⟩ = some (.int .u64 la) := by rw [hc2 _ _ (by first | omega | (simp only [World.size_alloc, World.size_setCell, World.size_drew]; omega))]; first | with_reducible assumption | (simp [go_sem]; done) | (simp [go_sem, *]; done)
    have qb2_2 : w2.cell? ⟨w.heap.size + 1, 2, none⟩ = some (.bool true) := by rw [hc2 _ _ (by first | omega | (simp only [World.size_alloc, World.size_setCell, World.size_drew]; omega))]; first | with_reducible assumption | (simp [go_sem]; done) | (simp [go_sem, *]; done)
    have qb2_3 : w2.cell? ⟨w.heap.size + 1, 3, none⟩ = some (.bool true) := by rw [hc2 _ _ (by first | omega | (simp only [World.size_alloc, World.size_setCell, World.size_drew]; omega))]; first | with_reducible assumption | (simp [go_sem]; done) | (simp [go_sem, *]; done)
    have qb2_4 : w2.cell? ⟨w.heap.size + 1, 4, none⟩ = some (.string ⟨#[]⟩) := by rw [hc2 _ _ (by first | omega | (simp only [World.size_alloc, World.size_setCell, World.size_drew]; omega))]; first | with_reducible assumption | (simp [go_sem]; done) | (simp [go_sem, *]; done)
    have hz2_0 : w.heap.size < w2.heap.size := by omega
    have hy2_0 : w.heap.size ≤ w2.heap.size := by omega
    have hz2_1 : w.heap.size + 1 < w2.heap.size := by omega
    have hy2_1 : w.heap.size + 1 ≤ w2.heap.size := by omega
    go_wp2
    refine wp_region_quiet_below (by kernel_rfl) (by kernel_rfl) ?_
    repeat quiet_step (fail)
    refine wpQuiet_nil ?_
    intro w3 hb3
    replace hb3 := below_of hb3
    obtain ⟨hc3, hf3⟩ := rules hb3
    have hs3 := hb3.size
    try simp only [World.size_alloc, World.size_setCell, World.size_drew] at hs3
    have qa3_0 : w3.cell? ⟨w.heap.size, 0, none⟩ = some (.int .u64 ha) := by rw [hc3 _ _ (by first | omega | (simp only [World.size_alloc, World.size_setCell, World.size_drew]; omega))]; first | with_reducible assumption | (simp [go_sem]; done) | (simp [go_sem, *]; done)
    have qa3_1 : w3.cell? ⟨w.heap.size, 1, none⟩ = some (.int .u64 la) := by rw [hc3 _ _ (by first | omega | (simp only [World.size_alloc, World.size_setCell, World.size_drew]; omega))]; first | with_reducible assumption | (simp [go_sem]; done) | (simp [go_sem, *]; done)
    have qa3_2 : w3.cell? ⟨w.heap.size, 2, none⟩ = some (.bool true) := by rw [hc3 _ _ (by first | omega | (simp only [World.size_alloc, World.size_setCell, World.size_drew]; omega))]; first | with_reducible assumption | (simp [go_sem]; done) | (simp [go_sem, *]; done)
    have qa3_3 : w3.cell? ⟨w.heap.size, 3, none⟩ = some (.bool true) := by rw [hc3 _ _ (by first | omega | (simp only [World.size_alloc, World.size_setCell, World.size_drew]; omega))]; first | with_reducible assumption | (simp [go_sem]; done) | (simp [go_sem, *]; done)
    have qa3_4 : w3.cell? ⟨w.heap.size, 4, none⟩ = some (.string ⟨#[]⟩) := by rw [hc3 _ _ (by first | omega | (simp only [World.size_alloc, World.size_setCell, World.size_drew]; omega))]; first | with_reducible assumption | (simp [go_sem]; done) | (simp [go_sem, *]; done)
    have qb3_0 : w3.cell? ⟨w.heap.size + 1, 0, none⟩ = some (.int .u64 ha) := by rw [hc3 _ _ (by first | omega | (simp only [World.size_alloc, World.size_setCell, World.size_drew]; omega))]; first | with_reducible assumption | (simp [go_sem]; done) | (simp [go_sem, *]; done)
    have qb3_1 : w3.cell? ⟨w.heap.size + 1, 1, none⟩ = some (.int .u64 la) := by rw [hc3 _ _ (by first | omega | (simp only [World.size_alloc, World.size_setCell, World.size_drew]; omega))]; first | with_reducible assumption | (simp [go_sem]; done) | (simp [go_sem, *]; done)
    have qb3_2 : w3.cell? ⟨w.heap.size + 1, 2, none⟩ = some (.bool true) := by rw [hc3 _ _ (by first | omega | (simp only [World.size_alloc, World.size_setCell, World.size_drew]; omega))]; first | with_reducible assumption | (simp [go_sem]; done) | (simp [go_sem, *]; done)
    have qb3_3 : w3.cell? ⟨w.heap.size + 1, 3, none⟩ = some (.bool true) := by rw [hc3 _ _ (by first | omega | (simp only [World.size_alloc, World.size_setCell, World.size_drew]; omega))]; first | with_reducible assumption | (simp [go_sem]; done) | (simp [go_sem, *]; done)
    have qb3_4 : w3.cell? ⟨w.heap.size + 1, 4, none⟩ = some (.string ⟨#[]⟩) := by rw [hc3 _ _ (by first | omega | (simp only [World.size_alloc, World.size_setCell, World.size_drew]; omega))]; first | with_reducible assumption | (simp [go_sem]; done) | (simp [go_sem, *]; done)
    have hz3_0 : w.heap.size < w3.heap.size := by omega
    have hy3_0 : w.heap.size ≤ w3.heap.size := by omega
    have hz3_1 : w.heap.size + 1 < w3.heap.size := by omega
    have hy3_1 : w.heap.size + 1 ≤ w3.heap.size := by omega
    go_wp2_with fail
    refine (is6_any true _ _ _).mono ?_
    rintro e w4 ⟨rfl, hb4⟩
    obtain ⟨hc4, hf4⟩ := rulesB (B := w.heap.size + 2) hb4 (by first | omega | (simp only [World.size_alloc, World.size_setCell, World.size_drew]; omega))
    have hs4 := hb4.size
    try simp only [World.size_alloc, World.size_setCell, World.size_drew] at hs4
    have qa4_0 : w4.cell? ⟨w.heap.size, 0, none⟩ = some (.int .u64 ha) := by rw [hc4 _ _ (by first | omega | (simp only [World.size_alloc, World.size_setCell, World.size_drew]; omega))]; first | with_reducible assumption | (simp [go_sem]; done) | (simp [go_sem, *]; done)
    have qa4_1 : w4.cell? ⟨w.heap.size, 1, none⟩ = some (.int .u64 la) := by rw [hc4 _ _ (by first | omega | (simp only [World.size_alloc, World.size_setCell, World.size_drew]; omega))]; first | with_reducible assumption | (simp [go_sem]; done) | (simp [go_sem, *]; done)
    have qa4_2 : w4.cell? ⟨w.heap.size, 2, none⟩ = some (.bool true) := by rw [hc4 _ _ (by first | omega | (simp only [World.size_alloc, World.size_setCell, World.size_drew]; omega))]; first | with_reducible assumption | (simp [go_sem]; done) | (simp [go_sem, *]; done)
    have qa4_3 : w4.cell? ⟨w.heap.size, 3, none⟩ = some (.bool true) := by rw [hc4 _ _ (by first | omega | (simp only [World.size_alloc, World.size_setCell, World.size_drew]; omega))]; first | with_reducible assumption | (simp [go_sem]; done) | (simp [go_sem, *]; done)
    have qa4_4 : w4.cell? ⟨w.heap.size, 4, none⟩ = some (.string ⟨#[]⟩) := by rw [hc4 _ _ (by first | omega | (simp only [World.size_alloc, World.size_setCell, World.size_drew]; omega))]; first | with_reducible assumption | (simp [go_sem]; done) | (simp [go_sem, *]; done)
    have qb4_0 : w4.cell? ⟨w.heap.size + 1, 0, none⟩ = some (.int .u64 ha) := by rw [hc4 _ _ (by first | omega | (simp only [World.size_alloc, World.size_setCell, World.size_drew]; omega))]; first | with_reducible assumption | (simp [go_sem]; done) | (simp [go_sem, *]; done)
    have qb4_1 : w4.cell? ⟨w.heap.size + 1, 1, none⟩ = some (.int .u64 la) := by rw [hc4 _ _ (by first | omega | (simp only [World.size_alloc, World.size_setCell, World.size_drew]; omega))]; first | with_reducible assumption | (simp [go_sem]; done) | (simp [go_sem, *]; done)
    have qb4_2 : w4.cell? ⟨w.heap.size + 1, 2, none⟩ = some (.bool true) := by rw [hc4 _ _ (by first | omega | (simp only [World.size_alloc, World.size_setCell, World.size_drew]; omega))]; first | with_reducible assumption | (simp [go_sem]; done) | (simp [go_sem, *]; done)
    have qb4_3 : w4.cell? ⟨w.heap.size + 1, 3, none⟩ = some (.bool true) := by rw [hc4 _ _ (by first | omega | (simp only [World.size_alloc, World.size_setCell, World.size_drew]; omega))]; first | with_reducible assumption | (simp [go_sem]; done) | (simp [go_sem, *]; done)
    have qb4_4 : w4.cell? ⟨w.heap.size + 1, 4, none⟩ = some (.string ⟨#[]⟩) := by rw [hc4 _ _ (by first | omega | (simp only [World.size_alloc, World.size_setCell, World.size_drew]; omega))]; first | with_reducible assumption | (simp [go_sem]; done) | (simp [go_sem, *]; done)
    have hz4_0 : w.heap.size < w4.heap.size := by omega
    have hy4_0 : w.heap.size ≤ w4.heap.size := by omega
    have hz4_1 : w.heap.size + 1 < w4.heap.size := by omega
    have hy4_1 : w.heap.size + 1 ≤ w4.heap.size := by omega
    go_wp2
    refine wp_region_quiet_below (by kernel_rfl) (by kernel_rfl) ?_
    repeat quiet_step (fail)
    quiet_step (with_reducible exact Calls.regrown_of ((zone_any true _ _).at _))
    repeat quiet_step (fail)
    quiet_step (with_reducible exact Calls.regrown_of ((zone_any true _ _).at _))
    repeat quiet_step (fail)
    refine wpQuiet_nil ?_
    intro w5 hb5
    replace hb5 := below_of hb5
    obtain ⟨hc5, hf5⟩ := rules hb5
    have hs5 := hb5.size
    try simp only [World.size_alloc, World.size_setCell, World.size_drew] at hs5
    go_wp2
    go_ret
    refine ⟨rfl, ?_⟩
    repeat (first | with_reducible exact Below.refl _ _ | with_reducible refine Below.setCell ?_ (by first | omega | (simp only [World.size_alloc, World.size_setCell, World.size_drew]; omega)) _ | with_reducible refine Below.alloc ?_ (by first | omega | (simp only [World.size_alloc, World.size_setCell, World.size_drew]; omega)) _ | with_reducible refine Below.drew ?_ | with_reducible refine Below.trans ?_ (hb5.mono (by first | omega | (simp only [World.size_alloc, World.size_setCell, World.size_drew]; omega))) | with_reducible refine Below.trans ?_ (hb4.mono (by first | omega | (simp only [World.size_alloc, World.size_setCell, World.size_drew]; omega))) | with_reducible refine Below.trans ?_ (hb3.mono (by first | omega | (simp only [World.size_alloc, World.size_setCell, World.size_drew]; omega))) | with_reducible refine Below.trans ?_ (hb2.mono (by first | omega | (simp only [World.size_alloc, World.size_setCell, World.size_drew]; omega))) | with_reducible refine Below.trans ?_ (hb1.mono (by first | omega | (simp only [World.size_alloc, World.size_setCell, World.size_drew]; omega))))

theorem compare_same (s : Bool) (ha la hb lb : Int) : Ret 16 #[.agg #[.int .u64 (ha), .int .u64 (la), .bool true, .bool s, .string ⟨#[]⟩], .agg #[.int .u64 (hb), .int .u64 (lb), .bool true, .bool s, .string ⟨#[]⟩]] (.int .i64 (if ha ≠ hb then sgn ha hb else sgn la lb)) := by
  unfold sgn
  by_cases h1 : ha < hb
  · rw [if_pos (by omega), if_pos h1]; exact compare_hi_lt s ha la hb lb (decide_eq_true h1)
  · by_cases h2 : hb < ha
    · rw [if_pos (by omega), if_neg h1, if_pos h2]; exact compare_hi_gt s ha la hb lb (decide_eq_false h1) (decide_eq_true h2)
    · obtain rfl : ha = hb := by omega
      rw [if_neg (by simp)]
      by_cases h3 : la < lb
      · rw [if_pos h3]; exact compare_lo_lt s ha la lb (decide_eq_true h3)
      · by_cases h4 : lb < la
        · rw [if_neg h3, if_pos h4]; exact compare_lo_gt s ha la lb (decide_eq_false h3) (decide_eq_true h4)
        · obtain rfl : la = lb := by omega
          rw [if_neg h3, if_neg h4]; exact compare_eq s ha la
/-- COMPARE OF TWO ADDRESSES. -/
theorem compare_any (sa sb : Bool) (ha la hb lb : Int) : Ret 16 #[.agg #[.int .u64 (ha), .int .u64 (la), .bool true, .bool sa, .string ⟨#[]⟩], .agg #[.int .u64 (hb), .int .u64 (lb), .bool true, .bool sb, .string ⟨#[]⟩]] (.int .i64 (scmp sa ha la sb hb lb)) := by
  unfold scmp
  by_cases h : sa = sb
  · subst h; rw [if_neg (by simp)]; exact compare_same sa ha la hb lb
  · rw [if_pos h]; exact compare_apart sa sb ha la hb lb h
end Go.Proofs.YtkploaapcpjkbaaDoor