/- Contracts: parseIPv4, ParseAddr at a text whose first byte that is no digit is a point. -/
import Derived.Test.YtkploaapcpjkbaaDoorQ4
import Derived.Test.YtkploaapcpjkbaaDoorA1
namespace Go.Proofs.YtkploaapcpjkbaaDoor
open Go Go.RowKit Go.Sort
set_option linter.unusedVariables false
set_option linter.unusedSimpArgs false
attribute [local go_sem] cell_gr

set_option maxHeartbeats 1600000 in
theorem parse4_bad (l : List UInt8) (S : ByteArray) (HS : Hid (S = bs l)) (w : World) (hS : S.size ≤ 1000) (hn : Hid (run4 0 [] 0 true l = none)) :
    Calls Tryd.prog 39 #[.string S] w fun e w' => (∃ t x, e = .returned (.tuple #[.agg #[.int .u64 0, .int .u64 0, .bool false, .bool false, .string ⟨#[]⟩], .iface t x])) ∧ Below w.heap.size w w' := by
  go_enter Tryd.func39, Tryd.ntmps39
  go_wp2_with fail
  refine (fields_any l S HS (w.heap.size + 1) _ hS (fun i hi => ?_) (fun i hi => by simp [go_sem])).mono ?_
  · match i, hi with
    | 0, _ => exact ⟨_, by simp [go_sem]; rfl⟩
    | 1, _ => exact ⟨_, by simp [go_sem]; rfl⟩
    | 2, _ => exact ⟨_, by simp [go_sem]; rfl⟩
    | 3, _ => exact ⟨_, by simp [go_sem]; rfl⟩
    | n + 4, h => exact absurd h (by omega)
  · intro e w1 he
    rw [hn.out] at he
    obtain ⟨⟨t, x, rfl⟩, hb1⟩ := he
    have hc1 := fun b o (h : b < w.heap.size + 1) => hb1.cell (p := ⟨b, o, none⟩) h
    have hf1 := fun b o (h : b < w.heap.size + 1) => hb1.frozen (p := ⟨b, o, none⟩) h
    have hs1 := hb1.size
    simp only [World.size_alloc] at hs1
    have qr1_0 : w1.cell? ⟨w.heap.size, 0, none⟩ = some (.int .u64 0) := by rw [hc1 _ _ (by first | omega | (simp only [World.size_alloc, World.size_setCell, World.size_drew]; omega))]; first | with_reducible assumption | (simp [go_sem]; done) | (simp [go_sem, *]; done)
    have qr1_1 : w1.cell? ⟨w.heap.size, 1, none⟩ = some (.int .u64 0) := by rw [hc1 _ _ (by first | omega | (simp only [World.size_alloc, World.size_setCell, World.size_drew]; omega))]; first | with_reducible assumption | (simp [go_sem]; done) | (simp [go_sem, *]; done)
    have qr1_2 : w1.cell? ⟨w.heap.size, 2, none⟩ = some (.bool false) := by rw [hc1 _ _ (by first | omega | (simp only [World.size_alloc, World.size_setCell, World.size_drew]; omega))]; first | with_reducible assumption | (simp [go_sem]; done) | (simp [go_sem, *]; done)
    have qr1_3 : w1.cell? ⟨w.heap.size, 3, none⟩ = some (.bool false) := by rw [hc1 _ _ (by first | omega | (simp only [World.size_alloc, World.size_setCell, World.size_drew]; omega))]; first | with_reducible assumption | (simp [go_sem]; done) | (simp [go_sem, *]; done)
    have qr1_4 : w1.cell? ⟨w.heap.size, 4, none⟩ = some (.string ⟨#[]⟩) := by rw [hc1 _ _ (by first | omega | (simp only [World.size_alloc, World.size_setCell, World.size_drew]; omega))]; first | with_reducible assumption | (simp [go_sem]; done) | (simp [go_sem, *]; done)
    have hz1_0 : w.heap.size < w1.heap.size := by omega
    have hy1_0 : w.heap.size ≤ w1.heap.size := by omega
    have hz1_1 : w.heap.size + 1 < w1.heap.size := by omega
    have hy1_1 : w.heap.size + 1 ≤ w1.heap.size := by omega
    go_wp2_with fail
    refine bodyPost_ret (v := .tuple #[.agg #[.int .u64 0, .int .u64 0, .bool false, .bool false, .string ⟨#[]⟩], .iface t x]) ?_ rfl ⟨⟨t, x, rfl⟩, ?_⟩
    · simp [results, Tryd.results39, go_sem, qr1_0, qr1_1, qr1_2, qr1_3, qr1_4]
    repeat (first | with_reducible exact Below.refl _ _ | with_reducible refine Below.setCell ?_ (by first | omega | (simp only [World.size_alloc, World.size_setCell, World.size_drew]; omega)) _ | with_reducible refine Below.alloc ?_ (by first | omega | (simp only [World.size_alloc, World.size_setCell, World.size_drew]; omega)) _ | with_reducible refine Below.drew ?_ | with_reducible refine Below.trans ?_ (hb1.mono (by first | omega | (simp only [World.size_alloc, World.size_setCell, World.size_drew]; omega))))

set_option maxHeartbeats 1600000 in
theorem parse4_ok (l : List UInt8) (S : ByteArray) (HS : Hid (S = bs l)) (w : World) (hS : S.size ≤ 1000) (a b c d : Int) (ha : 0 ≤ a ∧ a < 256) (hb : 0 ≤ b ∧ b < 256) (hc : 0 ≤ c ∧ c < 256) (hd : 0 ≤ d ∧ d < 256) (hn : Hid (run4 0 [] 0 true l = some [a, b, c, d])) :
    Calls Tryd.prog 39 #[.string S] w fun e w' => e = .returned (.tuple #[.agg #[.int .u64 0, .int .u64 (281470681743360 + (a * 16777216 + b * 65536 + c * 256 + d)), .bool true, .bool false, .string ⟨#[]⟩], .nilIface]) ∧ Below w.heap.size w w' := by
  have HA := Lib.hid ha
  have HB := Lib.hid hb
  have HC := Lib.hid hc
  have HD := Lib.hid hd
  clear ha hb hc hd
  go_enter Tryd.func39, Tryd.ntmps39
  go_wp2_with fail
  refine (fields_any l S HS (w.heap.size + 1) _ hS (fun i hi => ?_) (fun i hi => by simp [go_sem])).mono ?_
  · match i, hi with
    | 0, _ => exact ⟨_, by simp [go_sem]; rfl⟩
    | 1, _ => exact ⟨_, by simp [go_sem]; rfl⟩
    | 2, _ => exact ⟨_, by simp [go_sem]; rfl⟩
    | 3, _ => exact ⟨_, by simp [go_sem]; rfl⟩
    | n + 4, h => exact absurd h (by omega)
  · intro e w1 he
    rw [hn.out] at he
    obtain ⟨rfl, hb1, _, hxs⟩ := he
    have x0 := hxs 0 a rfl
    have x1 := hxs 1 b rfl
    have x2 := hxs 2 c rfl
    have x3 := hxs 3 d rfl
    clear hxs
    have hc1 := fun b o (h : b < w.heap.size + 1) => hb1.cell (p := ⟨b, o, none⟩) h
    have hf1 := fun b o (h : b < w.heap.size + 1) => hb1.frozen (p := ⟨b, o, none⟩) h
    have hs1 := hb1.size
    simp only [World.size_alloc] at hs1
    have qr1_0 : w1.cell? ⟨w.heap.size, 0, none⟩ = some (.int .u64 0) := by rw [hc1 _ _ (by first | omega | (simp only [World.size_alloc, World.size_setCell, World.size_drew]; omega))]; first | with_reducible assumption | (simp [go_sem]; done) | (simp [go_sem, *]; done)
    have qr1_1 : w1.cell? ⟨w.heap.size, 1, none⟩ = some (.int .u64 0) := by rw [hc1 _ _ (by first | omega | (simp only [World.size_alloc, World.size_setCell, World.size_drew]; omega))]; first | with_reducible assumption | (simp [go_sem]; done) | (simp [go_sem, *]; done)
    have qr1_2 : w1.cell? ⟨w.heap.size, 2, none⟩ = some (.bool false) := by rw [hc1 _ _ (by first | omega | (simp only [World.size_alloc, World.size_setCell, World.size_drew]; omega))]; first | with_reducible assumption | (simp [go_sem]; done) | (simp [go_sem, *]; done)
    have qr1_3 : w1.cell? ⟨w.heap.size, 3, none⟩ = some (.bool false) := by rw [hc1 _ _ (by first | omega | (simp only [World.size_alloc, World.size_setCell, World.size_drew]; omega))]; first | with_reducible assumption | (simp [go_sem]; done) | (simp [go_sem, *]; done)
    have qr1_4 : w1.cell? ⟨w.heap.size, 4, none⟩ = some (.string ⟨#[]⟩) := by rw [hc1 _ _ (by first | omega | (simp only [World.size_alloc, World.size_setCell, World.size_drew]; omega))]; first | with_reducible assumption | (simp [go_sem]; done) | (simp [go_sem, *]; done)
    have hz1_0 : w.heap.size < w1.heap.size := by omega
    have hy1_0 : w.heap.size ≤ w1.heap.size := by omega
    have hz1_1 : w.heap.size + 1 < w1.heap.size := by omega
    have hy1_1 : w.heap.size + 1 ≤ w1.heap.size := by omega
    go_wp2_with fail
    refine (addrFrom4_any a b c d _ HA.out HB.out HC.out HD.out).mono ?_
    rintro e w2 ⟨rfl, hb2⟩
    obtain ⟨hc2, hf2⟩ := rulesB (B := w.heap.size + 1) hb2 (by omega)
    have hs2 := hb2.size
    have qr2_0 : w2.cell? ⟨w.heap.size, 0, none⟩ = some (.int .u64 0) := by rw [hc2 _ _ (by first | omega | (simp only [World.size_alloc, World.size_setCell, World.size_drew]; omega))]; first | with_reducible assumption | (simp [go_sem]; done) | (simp [go_sem, *]; done)
    have qr2_1 : w2.cell? ⟨w.heap.size, 1, none⟩ = some (.int .u64 0) := by rw [hc2 _ _ (by first | omega | (simp only [World.size_alloc, World.size_setCell, World.size_drew]; omega))]; first | with_reducible assumption | (simp [go_sem]; done) | (simp [go_sem, *]; done)
    have qr2_2 : w2.cell? ⟨w.heap.size, 2, none⟩ = some (.bool false) := by rw [hc2 _ _ (by first | omega | (simp only [World.size_alloc, World.size_setCell, World.size_drew]; omega))]; first | with_reducible assumption | (simp [go_sem]; done) | (simp [go_sem, *]; done)
    have qr2_3 : w2.cell? ⟨w.heap.size, 3, none⟩ = some (.bool false) := by rw [hc2 _ _ (by first | omega | (simp only [World.size_alloc, World.size_setCell, World.size_drew]; omega))]; first | with_reducible assumption | (simp [go_sem]; done) | (simp [go_sem, *]; done)
    have qr2_4 : w2.cell? ⟨w.heap.size, 4, none⟩ = some (.string ⟨#[]⟩) := by rw [hc2 _ _ (by first | omega | (simp only [World.size_alloc, World.size_setCell, World.size_drew]; omega))]; first | with_reducible assumption | (simp [go_sem]; done) | (simp [go_sem, *]; done)
    have hz2_0 : w.heap.size < w2.heap.size := by omega
    have hy2_0 : w.heap.size ≤ w2.heap.size := by omega
    have hz2_1 : w.heap.size + 1 < w2.heap.size := by omega
    have hy2_1 : w.heap.size + 1 ≤ w2.heap.size := by omega
    go_wp2_with fail
    refine bodyPost_ret (v := .tuple #[.agg #[.int .u64 0, .int .u64 (281470681743360 + (a * 16777216 + b * 65536 + c * 256 + d)), .bool true, .bool false, .string ⟨#[]⟩], .nilIface]) ?_ rfl ⟨rfl, ?_⟩
    · simp [results, Tryd.results39, go_sem, qr2_0, qr2_1, qr2_2, qr2_3, qr2_4]
    repeat (first | with_reducible exact Below.refl _ _ | with_reducible refine Below.setCell ?_ (by first | omega | (simp only [World.size_alloc, World.size_setCell, World.size_drew]; omega)) _ | with_reducible refine Below.alloc ?_ (by first | omega | (simp only [World.size_alloc, World.size_setCell, World.size_drew]; omega)) _ | with_reducible refine Below.drew ?_ | with_reducible refine Below.trans ?_ (hb2.mono (by first | omega | (simp only [World.size_alloc, World.size_setCell, World.size_drew]; omega))) | with_reducible refine Below.trans ?_ (hb1.mono (by first | omega | (simp only [World.size_alloc, World.size_setCell, World.size_drew]; omega))))
end Go.Proofs.YtkploaapcpjkbaaDoor
