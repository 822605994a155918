/- Contracts: put, given. -/
import Derived.Test.YtkploaapcpjkbaaGreatDoorA2
namespace Go.Proofs.YtkploaapcpjkbaaGreatDoor
open Go Go.RowKit Go.Sort
set_option linter.unusedVariables false
set_option linter.unusedSimpArgs false
attribute [local go_sem] cell_gr

/-- The byte of n with j bytes below it. -/
def byteAt (n : Int) (j : Nat) : Int := n / 256 ^ j % 256
theorem byteAt_bd (n : Int) (j : Nat) : 0 ≤ byteAt n j ∧ byteAt n j < 256 := by unfold byteAt; omega

theorem bytes4 (n : Int) (h0 : 0 ≤ n) (h1 : n < 4294967296) : byteAt n 3 * 16777216 + byteAt n 2 * 65536 + byteAt n 1 * 256 + byteAt n 0 = n := by
  simp only [byteAt, Int.reducePow]
  omega

/-- The bytes of an address of 16 bytes. -/
def pairF (hi lo : Int) (i : Nat) : Int := if i < 8 then byteAt hi (7 - i) else byteAt lo (15 - i)
theorem pairF_bd (hi lo : Int) : Bytes (pairF hi lo) := fun i => by
  unfold pairF; split <;> exact byteAt_bd _ _
theorem num_pair (hi lo : Int) (h0 : 0 ≤ hi) (h1 : hi < 18446744073709551616) : num (pairF hi lo) 8 = hi := by
  simp [num, pairF, byteAt]
  omega
theorem num_pair8 (hi lo : Int) (h0 : 0 ≤ lo) (h1 : lo < 18446744073709551616) : num (fun i => pairF hi lo (8 + i)) 8 = lo := by
  simp [num, pairF, byteAt]
  omega

/-- What put has done when the cells from j on are written. -/
structure PutAt (w wr : World) (b off len j : Nat) (n : Int) : Prop where
  done : ∀ i, j ≤ i → i < len → wr.cell? ⟨b, off + i, none⟩ = some (.int .u8 (byteAt n (len - 1 - i)))
  there : ∀ i, i < len → ∃ v, wr.cell? ⟨b, off + i, none⟩ = some v
  other : ∀ b' o, (b' ≠ b ∨ o < off ∨ off + len ≤ o) → wr.cell? ⟨b', o, none⟩ = w.cell? ⟨b', o, none⟩
  frozen : ∀ p, wr.frozen? p = w.frozen? p
  below : Below b w wr

theorem PutAt.step {w wr : World} {b off len j : Nat} {n : Int} (h : PutAt w wr b off len (j + 1) n) (hj : j < len) : PutAt w (wr.setCell ⟨b, off + j, none⟩ (.int .u8 (byteAt n (len - 1 - j)))) b off len j n := by
  obtain ⟨v, hv⟩ := h.there j hj
  have same : (wr.setCell ⟨b, off + j, none⟩ (.int .u8 (byteAt n (len - 1 - j)))).cell? ⟨b, off + j, none⟩ = some (.int .u8 (byteAt n (len - 1 - j))) := World.cell?_setCell_same _ _ _ hv
  refine ⟨fun i h1 h2 => ?_, fun i h1 => ?_, fun b' o h1 => ?_, fun p => ?_, h.below.setCell (Nat.le_refl _) _⟩
  · by_cases e : i = j
    · subst e; exact same
    · rw [World.cell?_setCell_other _ _ _ _ (by intro h3; injection h3; omega)]; exact h.done i (by omega) h2
  · by_cases e : i = j
    · subst e; exact ⟨_, same⟩
    · rw [World.cell?_setCell_other _ _ _ _ (by intro h3; injection h3; omega)]; exact h.there i h1
  · rw [World.cell?_setCell_other _ _ _ _ (by intro h3; injection h3; omega)]; exact h.other b' o h1
  · rw [World.frozen?_setCell]; exact h.frozen p

theorem byte_lt_size {w : World} {a : Addr} {v : Value} (h : w.cell? a = some v) : a.block < w.heap.size := block_lt_of_cell h

set_option maxHeartbeats 400000 in
theorem put_any (b off len cap : Nat) (n : Int) (w : World) (hn : 0 ≤ n) (hn2 : n < 18446744073709551616) (hl : len ≤ cap) (hcap : cap ≤ 100)
    (hc : ∀ i, i < len → ∃ v, w.cell? ⟨b, off + i, none⟩ = some v) (hf : ∀ i, i < len → w.frozen? ⟨b, off + i, none⟩ = false) :
    Calls Tryz.prog 26 #[.slice (some ⟨b, off, none⟩) len cap, .int .u64 n] w fun e w' => e = .returned (.tuple #[]) ∧ PutAt w w' b off len 0 n := by
  have HC := Lib.hid hc
  have HF := Lib.hid hf
  clear hc hf
  go_enter Tryz.func26, Tryz.ntmps26
  go_wp2
  go_loopw [1, 4] (fun q i wr => ∃ j : Nat, j ≤ len ∧ i = .int .i64 ((j : Int) - 1) ∧ q = .int .u64 (n / 256 ^ (len - j)) ∧ PutAt w wr b off len j n) (fun _ i _ => (intOf i + 1).toNat)
  case atStart => exact ⟨len, by omega, rfl, by simp, ⟨fun i h1 h2 => by omega, HC.out, fun _ _ _ => rfl, fun _ => rfl, Below.refl _ _⟩⟩
  case round =>
    obtain ⟨j, hj, rfl, rfl, hp⟩ := hrel
    cases j with
    | zero =>
      have HP := Lib.hid hp
      clear hp
      go_wp2
      go_end0
      exact ⟨rfl, HP.out⟩
    | succ j =>
      obtain ⟨v, hv⟩ := hp.there j (by omega)
      have hfz : wr.frozen? ⟨b, off + j, none⟩ = false := by rw [hp.frozen]; exact HF.out j (by omega)
      have HP := Lib.hid (hp.step (by omega))
      clear hp
      have hq0 : 0 ≤ n / 256 ^ (len - (j + 1)) := Int.ediv_nonneg hn (Int.pow_nonneg (by decide))
      have hq1 : n / 256 ^ (len - (j + 1)) < 18446744073709551616 := Int.lt_of_le_of_lt (Int.ediv_le_self _ hn) hn2
      have HQ := Lib.hid (show n / 256 ^ (len - (j + 1)) / 256 = n / 256 ^ (len - j) by
        rw [Int.ediv_ediv_of_nonneg (Int.pow_nonneg (by decide)), ← Int.pow_succ]; congr 2; omega)
      have HB := Lib.hid (show n / 256 ^ (len - (j + 1)) % 256 = byteAt n (len - 1 - j) by
        unfold byteAt; congr 3; omega)
      generalize n / 256 ^ (len - (j + 1)) = q at *
      go_wp2
      go_roundw
      case rel => exact ⟨j, by omega, by go_num, by rw [← HQ.out], by rw [HB.out]; exact HP.out⟩
      case measure => simp [intOf]

set_option maxHeartbeats 800000 in
theorem given4_any (hi lo : Int) (w : World) (hl : 0 ≤ lo) (hl2 : lo < 4294967296) :
    Calls Tryz.prog 11 #[.agg #[.bool false, .int .u64 (hi), .int .u64 (lo)]] w fun e w' => e = .returned (.agg #[.int .u64 0, .int .u64 (281470681743360 + lo), .bool true, .bool false, .string ⟨#[]⟩]) ∧ Below w.heap.size w w' := by
  go_enter Tryz.func11, Tryz.ntmps11
  go_wp2
  refine region_tail 3 (by kernel_rfl) (by kernel_rfl) ?_
  simp only [List.take_succ_cons, List.take_zero, List.drop_succ_cons, List.drop_zero]
  repeat quiet_step (fail)
  refine wpQuiet_nil ?_
  intro w1 hb1
  obtain ⟨hc1, hf1⟩ := rules hb1
  have hs1 := hb1.size
  try simp only [World.size_alloc, World.size_setCell, World.size_drew] at hs1
  go_wp2_with fail
  refine (put_any (w.heap.size + 1 + 1) 0 4 4 lo w1 hl (by omega) (by omega) (by omega) ?_ ?_).mono ?_
  · intro i hi
    rw [hc1 _ _ (by simp only [World.size_alloc]; omega)]
    match i, hi with
    | 0, _ | 1, _ | 2, _ | 3, _ => exact ⟨_, by simp [go_sem]; rfl⟩
  · intro i hi
    rw [hf1 _ _ (by simp only [World.size_alloc]; omega)]
    simp [go_sem]
  rintro e w2 ⟨rfl, hp⟩
  have d0 : w2.cell? ⟨w.heap.size + 1 + 1, 0, none⟩ = some (.int .u8 (byteAt lo 3)) := hp.done 0 (by omega) (by omega)
  have d1 : w2.cell? ⟨w.heap.size + 1 + 1, 1, none⟩ = some (.int .u8 (byteAt lo 2)) := hp.done 1 (by omega) (by omega)
  have d2 : w2.cell? ⟨w.heap.size + 1 + 1, 2, none⟩ = some (.int .u8 (byteAt lo 1)) := hp.done 2 (by omega) (by omega)
  have d3 : w2.cell? ⟨w.heap.size + 1 + 1, 3, none⟩ = some (.int .u8 (byteAt lo 0)) := hp.done 3 (by omega) (by omega)
  have hc2 : ∀ b o, b < w.heap.size + 1 + 1 → w2.cell? ⟨b, o, none⟩ = w1.cell? ⟨b, o, none⟩ := fun b o h => hp.other b o (by omega)
  have hf2 := hp.frozen
  have hs2 := hp.below.size
  have hb2 := hp.below
  clear hp
  go_wp2_with fail
  refine (addrFrom4_any _ _ _ _ _ (byteAt_bd _ _) (byteAt_bd _ _) (byteAt_bd _ _) (byteAt_bd _ _)).mono ?_
  rintro e w3 ⟨rfl, hb3⟩
  obtain ⟨hc3, hf3⟩ := rulesB (B := w.heap.size + 1 + 1) hb3 (by first | omega | (simp only [World.size_alloc, World.size_setCell, World.size_drew]; omega))
  have hs3 := hb3.size
  try simp only [World.size_alloc, World.size_setCell, World.size_drew] at hs3
  go_wp2
  refine bodyPost_ret (v := .agg #[.int .u64 0, .int .u64 (281470681743360 + (byteAt lo 3 * 16777216 + byteAt lo 2 * 65536 + byteAt lo 1 * 256 + byteAt lo 0)), .bool true, .bool false, .string ⟨#[]⟩]) ?_ rfl ⟨by rw [bytes4 lo hl hl2], ?_⟩
  · simp [results, Tryz.results11, go_sem, hc3, hc2, hc1]
  repeat (first | with_reducible exact Below.refl _ _ | with_reducible refine Below.setCell ?_ (by first | omega | (simp only [World.size_alloc, World.size_setCell, World.size_drew]; omega)) _ | with_reducible refine Below.alloc ?_ (by first | omega | (simp only [World.size_alloc, World.size_setCell, World.size_drew]; omega)) _ | with_reducible refine Below.drew ?_ | with_reducible refine Below.trans ?_ (hb3.mono (by first | omega | (simp only [World.size_alloc, World.size_setCell, World.size_drew]; omega))) | with_reducible refine Below.trans ?_ (hb2.mono (by first | omega | (simp only [World.size_alloc, World.size_setCell, World.size_drew]; omega))) | with_reducible refine Below.trans ?_ (hb1.mono (by first | omega | (simp only [World.size_alloc, World.size_setCell, World.size_drew]; omega))))

set_option maxHeartbeats 1600000 in
theorem given6_any (hi lo : Int) (w : World) (hh : 0 ≤ hi) (hh2 : hi < 18446744073709551616) (hl : 0 ≤ lo) (hl2 : lo < 18446744073709551616) :
    Calls Tryz.prog 11 #[.agg #[.bool true, .int .u64 (hi), .int .u64 (lo)]] w fun e w' => e = .returned (.agg #[.int .u64 (hi), .int .u64 (lo), .bool true, .bool true, .string ⟨#[]⟩]) ∧ Below w.heap.size w w' := by
  have HA : Hid (Value.agg #[.int .u8 (byteAt hi 7), .int .u8 (byteAt hi 6), .int .u8 (byteAt hi 5), .int .u8 (byteAt hi 4), .int .u8 (byteAt hi 3), .int .u8 (byteAt hi 2), .int .u8 (byteAt hi 1), .int .u8 (byteAt hi 0), .int .u8 (byteAt lo 7), .int .u8 (byteAt lo 6), .int .u8 (byteAt lo 5), .int .u8 (byteAt lo 4), .int .u8 (byteAt lo 3), .int .u8 (byteAt lo 2), .int .u8 (byteAt lo 1), .int .u8 (byteAt lo 0)] = .agg #[.int .u8 (pairF hi lo 0), .int .u8 (pairF hi lo 1), .int .u8 (pairF hi lo 2), .int .u8 (pairF hi lo 3), .int .u8 (pairF hi lo 4), .int .u8 (pairF hi lo 5), .int .u8 (pairF hi lo 6), .int .u8 (pairF hi lo 7), .int .u8 (pairF hi lo 8), .int .u8 (pairF hi lo 9), .int .u8 (pairF hi lo 10), .int .u8 (pairF hi lo 11), .int .u8 (pairF hi lo 12), .int .u8 (pairF hi lo 13), .int .u8 (pairF hi lo 14), .int .u8 (pairF hi lo 15)]) := Lib.hid rfl
  go_enter Tryz.func11, Tryz.ntmps11
  go_wp2
  refine region_tail 3 (by kernel_rfl) (by kernel_rfl) ?_
  simp only [List.take_succ_cons, List.take_zero, List.drop_succ_cons, List.drop_zero]
  repeat quiet_step (fail)
  refine wpQuiet_nil ?_
  intro w1 hb1
  obtain ⟨hc1, hf1⟩ := rules hb1
  have hs1 := hb1.size
  try simp only [World.size_alloc, World.size_setCell, World.size_drew] at hs1
  go_wp2_with fail
  refine (put_any (w.heap.size + 1 + 1) 0 8 16 hi w1 hh hh2 (by omega) (by omega) ?_ ?_).mono ?_
  · intro i hi
    rw [hc1 _ _ (by simp only [World.size_alloc]; omega)]
    match i, hi with
    | 0, _ | 1, _ | 2, _ | 3, _ | 4, _ | 5, _ | 6, _ | 7, _ => exact ⟨_, by simp [go_sem]; rfl⟩
  · intro i hi
    rw [hf1 _ _ (by simp only [World.size_alloc]; omega)]
    simp [go_sem]
  rintro e w2 ⟨rfl, hp⟩
  have d0 : w2.cell? ⟨w.heap.size + 1 + 1, 0, none⟩ = some (.int .u8 (byteAt hi 7)) := hp.done 0 (by omega) (by omega)
  have d1 : w2.cell? ⟨w.heap.size + 1 + 1, 1, none⟩ = some (.int .u8 (byteAt hi 6)) := hp.done 1 (by omega) (by omega)
  have d2 : w2.cell? ⟨w.heap.size + 1 + 1, 2, none⟩ = some (.int .u8 (byteAt hi 5)) := hp.done 2 (by omega) (by omega)
  have d3 : w2.cell? ⟨w.heap.size + 1 + 1, 3, none⟩ = some (.int .u8 (byteAt hi 4)) := hp.done 3 (by omega) (by omega)
  have d4 : w2.cell? ⟨w.heap.size + 1 + 1, 4, none⟩ = some (.int .u8 (byteAt hi 3)) := hp.done 4 (by omega) (by omega)
  have d5 : w2.cell? ⟨w.heap.size + 1 + 1, 5, none⟩ = some (.int .u8 (byteAt hi 2)) := hp.done 5 (by omega) (by omega)
  have d6 : w2.cell? ⟨w.heap.size + 1 + 1, 6, none⟩ = some (.int .u8 (byteAt hi 1)) := hp.done 6 (by omega) (by omega)
  have d7 : w2.cell? ⟨w.heap.size + 1 + 1, 7, none⟩ = some (.int .u8 (byteAt hi 0)) := hp.done 7 (by omega) (by omega)
  have hc2 : ∀ b o, b < w.heap.size + 1 + 1 → w2.cell? ⟨b, o, none⟩ = w1.cell? ⟨b, o, none⟩ := fun b o h => hp.other b o (by omega)
  have ht2 := Lib.hid fun o (h : 8 ≤ o) => hp.other (w.heap.size + 1 + 1) o (by omega)
  have hf2 := hp.frozen
  have hs2 := hp.below.size
  have hb2 := hp.below
  clear hp
  have hz0 : w.heap.size < w2.heap.size := by omega
  go_wp2
  refine region_tail 3 (by kernel_rfl) (by kernel_rfl) ?_
  simp only [List.take_succ_cons, List.take_zero, List.drop_succ_cons, List.drop_zero]
  repeat quiet_step (fail)
  refine wpQuiet_nil ?_
  intro w3 hb3
  obtain ⟨hc3, hf3⟩ := rules hb3
  have hs3 := hb3.size
  try simp only [World.size_alloc, World.size_setCell, World.size_drew] at hs3
  go_wp2_with fail
  refine (put_any (w.heap.size + 1 + 1) 8 8 8 lo w3 hl hl2 (by omega) (by omega) ?_ ?_).mono ?_
  · intro i hi
    rw [hc3 _ _ (by omega), ht2.out _ (by omega), hc1 _ _ (by simp only [World.size_alloc]; omega)]
    match i, hi with
    | 0, _ | 1, _ | 2, _ | 3, _ | 4, _ | 5, _ | 6, _ | 7, _ => exact ⟨_, by simp [go_sem]; rfl⟩
  · intro i hi
    rw [hf3 _ _ (by omega), hf2, hf1 _ _ (by simp only [World.size_alloc]; omega)]
    simp [go_sem]
  rintro e w4 ⟨rfl, hp⟩
  have e8 : w4.cell? ⟨w.heap.size + 1 + 1, 8, none⟩ = some (.int .u8 (byteAt lo 7)) := hp.done 0 (by omega) (by omega)
  have e9 : w4.cell? ⟨w.heap.size + 1 + 1, 9, none⟩ = some (.int .u8 (byteAt lo 6)) := hp.done 1 (by omega) (by omega)
  have e10 : w4.cell? ⟨w.heap.size + 1 + 1, 10, none⟩ = some (.int .u8 (byteAt lo 5)) := hp.done 2 (by omega) (by omega)
  have e11 : w4.cell? ⟨w.heap.size + 1 + 1, 11, none⟩ = some (.int .u8 (byteAt lo 4)) := hp.done 3 (by omega) (by omega)
  have e12 : w4.cell? ⟨w.heap.size + 1 + 1, 12, none⟩ = some (.int .u8 (byteAt lo 3)) := hp.done 4 (by omega) (by omega)
  have e13 : w4.cell? ⟨w.heap.size + 1 + 1, 13, none⟩ = some (.int .u8 (byteAt lo 2)) := hp.done 5 (by omega) (by omega)
  have e14 : w4.cell? ⟨w.heap.size + 1 + 1, 14, none⟩ = some (.int .u8 (byteAt lo 1)) := hp.done 6 (by omega) (by omega)
  have e15 : w4.cell? ⟨w.heap.size + 1 + 1, 15, none⟩ = some (.int .u8 (byteAt lo 0)) := hp.done 7 (by omega) (by omega)
  have e0 : w4.cell? ⟨w.heap.size + 1 + 1, 0, none⟩ = some (.int .u8 (byteAt hi 7)) := (hp.other _ _ (by omega)).trans ((hc3 _ _ (by omega)).trans d0)
  have e1 : w4.cell? ⟨w.heap.size + 1 + 1, 1, none⟩ = some (.int .u8 (byteAt hi 6)) := (hp.other _ _ (by omega)).trans ((hc3 _ _ (by omega)).trans d1)
  have e2 : w4.cell? ⟨w.heap.size + 1 + 1, 2, none⟩ = some (.int .u8 (byteAt hi 5)) := (hp.other _ _ (by omega)).trans ((hc3 _ _ (by omega)).trans d2)
  have e3 : w4.cell? ⟨w.heap.size + 1 + 1, 3, none⟩ = some (.int .u8 (byteAt hi 4)) := (hp.other _ _ (by omega)).trans ((hc3 _ _ (by omega)).trans d3)
  have e4 : w4.cell? ⟨w.heap.size + 1 + 1, 4, none⟩ = some (.int .u8 (byteAt hi 3)) := (hp.other _ _ (by omega)).trans ((hc3 _ _ (by omega)).trans d4)
  have e5 : w4.cell? ⟨w.heap.size + 1 + 1, 5, none⟩ = some (.int .u8 (byteAt hi 2)) := (hp.other _ _ (by omega)).trans ((hc3 _ _ (by omega)).trans d5)
  have e6 : w4.cell? ⟨w.heap.size + 1 + 1, 6, none⟩ = some (.int .u8 (byteAt hi 1)) := (hp.other _ _ (by omega)).trans ((hc3 _ _ (by omega)).trans d6)
  have e7 : w4.cell? ⟨w.heap.size + 1 + 1, 7, none⟩ = some (.int .u8 (byteAt hi 0)) := (hp.other _ _ (by omega)).trans ((hc3 _ _ (by omega)).trans d7)
  clear d0 d1 d2 d3 d4 d5 d6 d7 ht2
  have hc4 : ∀ b o, b < w.heap.size + 1 + 1 → w4.cell? ⟨b, o, none⟩ = w3.cell? ⟨b, o, none⟩ := fun b o h => hp.other b o (by omega)
  have hf4 := hp.frozen
  have hs4 := hp.below.size
  have hb4 := hp.below
  clear hp
  go_wp2_with fail
  rw [HA.out]
  refine (addrFrom16_any (pairF hi lo) (pairF_bd hi lo) w4).mono ?_
  clear e0 e1 e2 e3 e4 e5 e6 e7 e8 e9 e10 e11 e12 e13 e14 e15
  rintro e w5 ⟨rfl, hb5⟩
  rw [num_pair hi lo hh hh2, num_pair8 hi lo hl hl2]
  obtain ⟨hc5, hf5⟩ := rulesB (B := w.heap.size + 1 + 1) hb5 (by omega)
  have hc3' : ∀ b o, b < w.heap.size + 1 + 1 → w3.cell? ⟨b, o, none⟩ = w2.cell? ⟨b, o, none⟩ := fun b o h => hc3 b o (by omega)
  have hf3' : ∀ b o, b < w.heap.size + 1 + 1 → w3.frozen? ⟨b, o, none⟩ = w2.frozen? ⟨b, o, none⟩ := fun b o h => hf3 b o (by omega)
  clear hc3 hf3
  have hs5 := hb5.size
  go_wp2
  refine bodyPost_ret (v := .agg #[.int .u64 (hi), .int .u64 (lo), .bool true, .bool true, .string ⟨#[]⟩]) ?_ rfl ⟨rfl, ?_⟩
  · simp [results, Tryz.results11, go_sem, hc5, hc4, hc3', hc2, hc1]
  repeat (first | with_reducible exact Below.refl _ _ | with_reducible refine Below.setCell ?_ (by first | omega | (simp only [World.size_alloc, World.size_setCell, World.size_drew]; omega)) _ | with_reducible refine Below.alloc ?_ (by first | omega | (simp only [World.size_alloc, World.size_setCell, World.size_drew]; omega)) _ | with_reducible refine Below.drew ?_ | with_reducible refine Below.trans ?_ (hb5.mono (by first | omega | (simp only [World.size_alloc, World.size_setCell, World.size_drew]; omega))) | with_reducible refine Below.trans ?_ (hb4.mono (by first | omega | (simp only [World.size_alloc, World.size_setCell, World.size_drew]; omega))) | with_reducible refine Below.trans ?_ (hb3.mono (by first | omega | (simp only [World.size_alloc, World.size_setCell, World.size_drew]; omega))) | with_reducible refine Below.trans ?_ (hb2.mono (by first | omega | (simp only [World.size_alloc, World.size_setCell, World.size_drew]; omega))) | with_reducible refine Below.trans ?_ (hb1.mono (by first | omega | (simp only [World.size_alloc, World.size_setCell, World.size_drew]; omega))))
end Go.Proofs.YtkploaapcpjkbaaGreatDoor
