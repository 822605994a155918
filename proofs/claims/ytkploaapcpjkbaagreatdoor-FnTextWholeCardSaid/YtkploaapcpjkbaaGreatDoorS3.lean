/- Contracts: AsSlice, told. -/
import Derived.Test.YtkploaapcpjkbaaGreatDoorS1
import Derived.Test.YtkploaapcpjkbaaGreatDoorS2
namespace Go.Proofs.YtkploaapcpjkbaaGreatDoor
open Go Go.RowKit Go.Sort
set_option linter.unusedVariables false
set_option linter.unusedSimpArgs false
attribute [local go_sem] cell_gr

/-- What a call that makes a slice of n bytes hands back. -/
def GivesBytes (w : World) (f : Nat → Int) (n : Nat) (e : Ending) (w' : World) : Prop :=
  ∃ b, e = .returned (.slice (some ⟨b, 0, none⟩) n n) ∧ w.heap.size ≤ b ∧ b < w'.heap.size ∧ (∀ i, i < n → w'.cell? ⟨b, i, none⟩ = some (.int .u8 (f i))) ∧ Below w.heap.size w w'

set_option maxHeartbeats 800000 in
theorem asSlice_zero (w : World) :
    Calls Tryz.prog 38 #[.agg #[.int .u64 0, .int .u64 0, .bool false, .bool false, .string ⟨#[]⟩]] w fun e w' => e = .returned (.slice none 0 0) ∧ Below w.heap.size w w' := by
  go_enter Tryz.func38, Tryz.ntmps38
  go_wp2_with fail
  refine (z0_any _).mono ?_
  rintro e w1 ⟨rfl, hb1⟩
  obtain ⟨hc1, hf1⟩ := rulesB (B := w.heap.size + 1) hb1 (by first | omega | (simp only [World.size_alloc, World.size_setCell, World.size_drew]; omega))
  have hs1 := hb1.size
  try simp only [World.size_alloc, World.size_setCell, World.size_drew] at hs1
  go_wp2
  go_ret
  refine ⟨rfl, ?_⟩
  repeat (first | with_reducible exact Below.refl _ _ | with_reducible refine Below.setCell ?_ (by first | omega | (simp only [World.size_alloc, World.size_setCell, World.size_drew]; omega)) _ | with_reducible refine Below.alloc ?_ (by first | omega | (simp only [World.size_alloc, World.size_setCell, World.size_drew]; omega)) _ | with_reducible refine Below.drew ?_ | with_reducible refine Below.trans ?_ (hb1.mono (by first | omega | (simp only [World.size_alloc, World.size_setCell, World.size_drew]; omega))))

def fourF (lo : Int) (i : Nat) : Int := byteAt lo (3 - i)
theorem fourF_bd (lo : Int) : Bytes (fourF lo) := fun i => byteAt_bd _ _

set_option maxHeartbeats 1600000 in
theorem asSlice_v4 (lo : Int) (w : World) (hl : 0 ≤ lo) (hl2 : lo < 18446744073709551616) :
    Calls Tryz.prog 38 #[.agg #[.int .u64 0, .int .u64 (lo), .bool true, .bool false, .string ⟨#[]⟩]] w (GivesBytes w (fourF lo) 4) := by
  go_enter Tryz.func38, Tryz.ntmps38
  go_wp2_with fail
  refine (z0_any _).mono ?_
  rintro e w1 ⟨rfl, hb1⟩
  obtain ⟨hc1, hf1⟩ := rulesB (B := w.heap.size + 1) hb1 (by first | omega | (simp only [World.size_alloc, World.size_setCell, World.size_drew]; omega))
  have hs1 := hb1.size
  try simp only [World.size_alloc, World.size_setCell, World.size_drew] at hs1
  go_wp2_with fail
  refine (z4_any _).mono ?_
  rintro e w2 ⟨rfl, hb2⟩
  obtain ⟨hc2, hf2⟩ := rulesB (B := w.heap.size + 1) hb2 (by first | omega | (simp only [World.size_alloc, World.size_setCell, World.size_drew]; omega))
  have hs2 := hb2.size
  try simp only [World.size_alloc, World.size_setCell, World.size_drew] at hs2
  have hz1 : w.heap.size < w2.heap.size := by omega
  have hz2 : w.heap.size ≤ w2.heap.size := by omega
  have hlo : (0 : Int) ≤ lo % 4294967296 := by omega
  go_wp2
  refine region_tail 5 (by kernel_rfl) (by kernel_rfl) ?_
  simp only [List.take_succ_cons, List.take_zero, List.drop_succ_cons, List.drop_zero]
  repeat quiet_step (fail)
  refine wpQuiet_nil ?_
  intro w3 hb3
  obtain ⟨hc3, hf3⟩ := rules hb3
  have hs3 := hb3.size
  try simp only [World.size_alloc, World.size_setCell, World.size_drew] at hs3
  go_wp2_with fail
  refine (be32_any w2.heap.size 4 _ w3 (by omega) (by omega) (by omega) ?_ ?_).mono ?_
  · intro i hi
    rw [hc3 _ _ (by simp only [World.size_alloc]; omega)]
    match i, hi with
    | 0, _ | 1, _ | 2, _ | 3, _ => exact ⟨_, by simp [go_sem]; rfl⟩
  · intro i hi
    rw [hf3 _ _ (by simp only [World.size_alloc]; omega)]
    simp [go_sem]
  rintro e w4 ⟨rfl, hp⟩
  have hb4 := hp.below
  have hs4 := hb4.size
  have HD := Lib.hid hp.done
  clear hp
  go_wp2
  go_ret
  refine ⟨w2.heap.size, rfl, by omega, by omega, fun i hi => ?_, ?_⟩
  · have := HD.out i (by omega) hi
    rw [Nat.zero_add] at this
    rw [this]
    match i, hi with
    | 0, _ | 1, _ | 2, _ | 3, _ => first | (simp [fourF, byteAt]; done) | (simp [fourF, byteAt]; omega)
  repeat (first | with_reducible exact Below.refl _ _ | with_reducible refine Below.setCell ?_ (by first | omega | (simp only [World.size_alloc, World.size_setCell, World.size_drew]; omega)) _ | with_reducible refine Below.alloc ?_ (by first | omega | (simp only [World.size_alloc, World.size_setCell, World.size_drew]; omega)) _ | with_reducible refine Below.drew ?_ | with_reducible refine Below.trans ?_ (hb4.mono (by first | omega | (simp only [World.size_alloc, World.size_setCell, World.size_drew]; omega))) | with_reducible refine Below.trans ?_ (hb3.mono (by first | omega | (simp only [World.size_alloc, World.size_setCell, World.size_drew]; omega))) | with_reducible refine Below.trans ?_ (hb2.mono (by first | omega | (simp only [World.size_alloc, World.size_setCell, World.size_drew]; omega))) | with_reducible refine Below.trans ?_ (hb1.mono (by first | omega | (simp only [World.size_alloc, World.size_setCell, World.size_drew]; omega))))

set_option maxHeartbeats 1600000 in
theorem asSlice_v6 (hi lo : Int) (w : World) (hh : 0 ≤ hi) (hh2 : hi < 18446744073709551616) (hl : 0 ≤ lo) (hl2 : lo < 18446744073709551616) :
    Calls Tryz.prog 38 #[.agg #[.int .u64 (hi), .int .u64 (lo), .bool true, .bool true, .string ⟨#[]⟩]] w (GivesBytes w (pairF hi lo) 16) := by
  go_enter Tryz.func38, Tryz.ntmps38
  go_wp2_with fail
  refine (z0_any _).mono ?_
  rintro e w1 ⟨rfl, hb1⟩
  obtain ⟨hc1, hf1⟩ := rulesB (B := w.heap.size + 1) hb1 (by first | omega | (simp only [World.size_alloc, World.size_setCell, World.size_drew]; omega))
  have hs1 := hb1.size
  try simp only [World.size_alloc, World.size_setCell, World.size_drew] at hs1
  go_wp2_with fail
  refine (z4_any _).mono ?_
  rintro e w2 ⟨rfl, hb2⟩
  obtain ⟨hc2, hf2⟩ := rulesB (B := w.heap.size + 1) hb2 (by first | omega | (simp only [World.size_alloc, World.size_setCell, World.size_drew]; omega))
  have hs2 := hb2.size
  try simp only [World.size_alloc, World.size_setCell, World.size_drew] at hs2
  have hz1 : w.heap.size < w2.heap.size := by omega
  have hz2 : w.heap.size ≤ w2.heap.size := by omega
  go_wp2
  refine region_tail 4 (by kernel_rfl) (by kernel_rfl) ?_
  simp only [List.take_succ_cons, List.take_zero, List.drop_succ_cons, List.drop_zero]
  repeat quiet_step (fail)
  refine wpQuiet_nil ?_
  intro w3 hb3
  obtain ⟨hc3, hf3⟩ := rules hb3
  have hs3 := hb3.size
  try simp only [World.size_alloc, World.size_setCell, World.size_drew] at hs3
  go_wp2_with fail
  refine (be64_any w2.heap.size 0 16 _ w3 hh hh2 (by omega) ?_ ?_).mono ?_
  · intro i hi
    rw [hc3 _ _ (by simp only [World.size_alloc]; omega)]
    match i, hi with
    | 0, _ | 1, _ | 2, _ | 3, _ | 4, _ | 5, _ | 6, _ | 7, _ => exact ⟨_, by simp [go_sem]; rfl⟩
  · intro i hi
    rw [hf3 _ _ (by simp only [World.size_alloc]; omega)]
    simp [go_sem]
  rintro e w4 ⟨rfl, hp⟩
  have hb4 := hp.below
  have hs4 := hb4.size
  have hf4 := hp.frozen
  have HD := Lib.hid hp.done
  have hc4 : ∀ b o, b < w2.heap.size → w4.cell? ⟨b, o, none⟩ = w3.cell? ⟨b, o, none⟩ := fun b o h => hp.other b o (by omega)
  have ht4 := Lib.hid fun o (h : 8 ≤ o) => hp.other w2.heap.size o (by omega)
  clear hp
  have hz4 : w.heap.size < w4.heap.size := by omega
  go_wp2
  refine region_tail 4 (by kernel_rfl) (by kernel_rfl) ?_
  simp only [List.take_succ_cons, List.take_zero, List.drop_succ_cons, List.drop_zero]
  repeat quiet_step (fail)
  refine wpQuiet_nil ?_
  intro w5 hb5
  obtain ⟨hc5, hf5⟩ := rules hb5
  have hs5 := hb5.size
  try simp only [World.size_alloc, World.size_setCell, World.size_drew] at hs5
  go_wp2_with fail
  refine (be64_any w2.heap.size 8 8 _ w5 hl hl2 (by omega) ?_ ?_).mono ?_
  · intro i hi
    rw [hc5 _ _ (by omega), ht4.out _ (by omega), hc3 _ _ (by simp only [World.size_alloc]; omega)]
    match i, hi with
    | 0, _ | 1, _ | 2, _ | 3, _ | 4, _ | 5, _ | 6, _ | 7, _ => exact ⟨_, by simp [go_sem]; rfl⟩
  · intro i hi
    rw [hf5 _ _ (by omega), hf4, hf3 _ _ (by simp only [World.size_alloc]; omega)]
    simp [go_sem]
  rintro e w6 ⟨rfl, hp⟩
  have hb6 := hp.below
  have hs6 := hb6.size
  have HD6 := Lib.hid hp.done
  have HO6 := Lib.hid hp.other
  clear hp
  go_wp2
  go_ret
  refine ⟨w2.heap.size, rfl, by omega, by omega, fun i hi => ?_, ?_⟩
  · by_cases h8 : i < 8
    · rw [HO6.out _ _ (by omega), hc5 _ _ (by omega)]
      have := HD.out i (by omega) h8
      rw [Nat.zero_add] at this
      rw [this, pairF, if_pos h8]
    · have := HD6.out (i - 8) (by omega) (by omega)
      rw [show 8 + (i - 8) = i from by omega] at this
      rw [this, pairF, if_neg h8]
      congr 3
      omega
  repeat (first | with_reducible exact Below.refl _ _ | with_reducible refine Below.setCell ?_ (by first | omega | (simp only [World.size_alloc, World.size_setCell, World.size_drew]; omega)) _ | with_reducible refine Below.alloc ?_ (by first | omega | (simp only [World.size_alloc, World.size_setCell, World.size_drew]; omega)) _ | with_reducible refine Below.drew ?_ | with_reducible refine Below.trans ?_ (hb6.mono (by first | omega | (simp only [World.size_alloc, World.size_setCell, World.size_drew]; omega))) | with_reducible refine Below.trans ?_ (hb5.mono (by first | omega | (simp only [World.size_alloc, World.size_setCell, World.size_drew]; omega))) | with_reducible refine Below.trans ?_ (hb4.mono (by first | omega | (simp only [World.size_alloc, World.size_setCell, World.size_drew]; omega))) | with_reducible refine Below.trans ?_ (hb3.mono (by first | omega | (simp only [World.size_alloc, World.size_setCell, World.size_drew]; omega))) | with_reducible refine Below.trans ?_ (hb2.mono (by first | omega | (simp only [World.size_alloc, World.size_setCell, World.size_drew]; omega))) | with_reducible refine Below.trans ?_ (hb1.mono (by first | omega | (simp only [World.size_alloc, World.size_setCell, World.size_drew]; omega))))

set_option maxHeartbeats 800000 in
theorem told_zero (w : World) :
    Calls Tryz.prog 15 #[.agg #[.int .u64 0, .int .u64 0, .bool false, .bool false, .string ⟨#[]⟩]] w fun e w' => e = .returned (.agg #[.bool false, .int .u64 (0), .int .u64 (0)]) ∧ Below w.heap.size w w' := by
  go_enter Tryz.func15, Tryz.ntmps15
  go_wp2_with fail
  refine (asSlice_zero _).mono ?_
  rintro e w1 ⟨rfl, hb1⟩
  obtain ⟨hc1, hf1⟩ := rulesB (B := w.heap.size + 1 + 1) hb1 (by first | omega | (simp only [World.size_alloc, World.size_setCell, World.size_drew]; omega))
  have hs1 := hb1.size
  try simp only [World.size_alloc, World.size_setCell, World.size_drew] at hs1
  go_wp2
  refine bodyPost_ret (v := .agg #[.bool false, .int .u64 (0), .int .u64 (0)]) ?_ rfl ⟨rfl, ?_⟩
  · simp [results, Tryz.results15, go_sem, hc1]
  repeat (first | with_reducible exact Below.refl _ _ | with_reducible refine Below.setCell ?_ (by first | omega | (simp only [World.size_alloc, World.size_setCell, World.size_drew]; omega)) _ | with_reducible refine Below.alloc ?_ (by first | omega | (simp only [World.size_alloc, World.size_setCell, World.size_drew]; omega)) _ | with_reducible refine Below.drew ?_ | with_reducible refine Below.trans ?_ (hb1.mono (by first | omega | (simp only [World.size_alloc, World.size_setCell, World.size_drew]; omega))))

theorem num_four (lo : Int) (h0 : 0 ≤ lo) (h1 : lo < 4294967296) : num (fourF (281470681743360 + lo)) 4 = lo := by
  simp [num, fourF, byteAt]
  omega

set_option maxHeartbeats 1600000 in
theorem told_v4 (lo : Int) (w : World) (hl : 0 ≤ lo) (hl2 : lo < 4294967296) :
    Calls Tryz.prog 15 #[.agg #[.int .u64 0, .int .u64 (281470681743360 + lo), .bool true, .bool false, .string ⟨#[]⟩]] w fun e w' => e = .returned (.agg #[.bool false, .int .u64 (0), .int .u64 (lo)]) ∧ Below w.heap.size w w' := by
  go_enter Tryz.func15, Tryz.ntmps15
  go_wp2_with fail
  refine (asSlice_v4 _ _ (by omega) (by omega)).mono ?_
  rintro e w1 ⟨b1, rfl, ho1, ht1, hk1, hb1⟩
  obtain ⟨hc1, hf1⟩ := rulesB (B := w.heap.size + 1 + 1) hb1 (by simp only [World.size_alloc]; omega)
  have hs1 := hb1.size
  simp only [World.size_alloc] at hs1
  have HK := Lib.hid hk1
  clear hk1
  go_wp2_with fail
  refine (number_any (fourF (281470681743360 + lo)) (fourF_bd _) b1 0 4 4 w1 (by omega) (by omega) (fun i hi => by rw [Nat.zero_add]; exact HK.out i hi)).mono ?_
  rintro e w2 ⟨rfl, hw2⟩
  subst hw2
  rw [num_four lo hl hl2]
  go_wp2
  refine bodyPost_ret (v := .agg #[.bool false, .int .u64 (0), .int .u64 (lo)]) ?_ rfl ⟨rfl, ?_⟩
  · simp [results, Tryz.results15, go_sem, hc1]
  repeat (first | with_reducible exact Below.refl _ _ | with_reducible refine Below.setCell ?_ (by first | omega | (simp only [World.size_alloc, World.size_setCell, World.size_drew]; omega)) _ | with_reducible refine Below.alloc ?_ (by first | omega | (simp only [World.size_alloc, World.size_setCell, World.size_drew]; omega)) _ | with_reducible refine Below.drew ?_ | with_reducible refine Below.trans ?_ (hb1.mono (by first | omega | (simp only [World.size_alloc, World.size_setCell, World.size_drew]; omega))))

set_option maxHeartbeats 1600000 in
theorem told_v6 (hi lo : Int) (w : World) (hh : 0 ≤ hi) (hh2 : hi < 18446744073709551616) (hl : 0 ≤ lo) (hl2 : lo < 18446744073709551616) :
    Calls Tryz.prog 15 #[.agg #[.int .u64 (hi), .int .u64 (lo), .bool true, .bool true, .string ⟨#[]⟩]] w fun e w' => e = .returned (.agg #[.bool true, .int .u64 (hi), .int .u64 (lo)]) ∧ Below w.heap.size w w' := by
  have HN1 := Lib.hid (num_pair hi lo hh hh2)
  have HN2 := Lib.hid (num_pair8 hi lo hl hl2)
  have HP8 : Bytes (fun i => pairF hi lo (8 + i)) := fun i => pairF_bd hi lo (8 + i)
  go_enter Tryz.func15, Tryz.ntmps15
  go_wp2_with fail
  refine (asSlice_v6 _ _ _ hh hh2 hl hl2).mono ?_
  rintro e w1 ⟨b1, rfl, ho1, ht1, hk1, hb1⟩
  obtain ⟨hc1, hf1⟩ := rulesB (B := w.heap.size + 1 + 1) hb1 (by simp only [World.size_alloc]; omega)
  have hs1 := hb1.size
  simp only [World.size_alloc] at hs1
  have HK := Lib.hid hk1
  clear hk1
  go_wp2
  refine region_tail 7 (by kernel_rfl) (by kernel_rfl) ?_
  simp only [List.take_succ_cons, List.take_zero, List.drop_succ_cons, List.drop_zero]
  repeat quiet_step (fail)
  quiet_step ((with_reducible refine same_of (number_any (pairF hi lo) (pairF_bd hi lo) b1 0 8 16 _ (by omega) (by omega) ?_); intro i hi; rw [cell_gr _ _ _ _ _ ht1, Nat.zero_add]; exact HK.out i (by omega)))
  repeat quiet_step (fail)
  quiet_step ((with_reducible refine same_of (number_any (fun i => pairF hi lo (8 + i)) HP8 b1 8 8 8 _ (by omega) (by omega) ?_); intro i hi; rw [cell_gr _ _ _ _ _ ht1]; exact HK.out (8 + i) (by omega)))
  repeat quiet_step (fail)
  refine wpQuiet_nil ?_
  intro w2 hb2
  obtain ⟨hc2, hf2⟩ := rules hb2
  have hs2 := hb2.size
  try simp only [World.size_alloc, World.size_setCell, World.size_drew] at hs2
  rw [HN1.out, HN2.out]
  have hz0 : w.heap.size < w1.heap.size := by omega
  have hz1 : w.heap.size + 1 < w1.heap.size := by omega
  go_wp2
  refine bodyPost_ret (v := .agg #[.bool true, .int .u64 (hi), .int .u64 (lo)]) ?_ rfl ⟨rfl, ?_⟩
  · simp [results, Tryz.results15, go_sem, hc2, hc1, hz0, hz1]
  repeat (first | with_reducible exact Below.refl _ _ | with_reducible refine Below.setCell ?_ (by first | omega | (simp only [World.size_alloc, World.size_setCell, World.size_drew]; omega)) _ | with_reducible refine Below.alloc ?_ (by first | omega | (simp only [World.size_alloc, World.size_setCell, World.size_drew]; omega)) _ | with_reducible refine Below.drew ?_ | with_reducible refine Below.trans ?_ (hb2.mono (by first | omega | (simp only [World.size_alloc, World.size_setCell, World.size_drew]; omega))) | with_reducible refine Below.trans ?_ (hb1.mono (by first | omega | (simp only [World.size_alloc, World.size_setCell, World.size_drew]; omega))))
end Go.Proofs.YtkploaapcpjkbaaGreatDoor
