/- Contracts: Add64 and Sub64 in the cases that are met; the number behind and ahead of one of 128 bits. -/
import Derived.Test.YtkploaapcpjkbaaS3
namespace Go.Proofs.Ytkploaapcpjkbaa
open Go Go.RowKit Go.Sort
set_option linter.unusedVariables false
set_option linter.unusedSimpArgs false
attribute [local go_sem] cell_gr

theorem add64_nat (x y c : Nat) (hc : c ≤ 1) (w : World) : (callFunc 27 #[.int .u64 x, .int .u64 y, .int .u64 c]).run Try.prog w =
    .ok (.value (.tuple #[.int .u64 (((x + y + c) % 18446744073709551616 : Nat) : Int), .int .u64 (((x + y + c) / 18446744073709551616 : Nat) : Int)])) w := by
  rw [run_callFunc_extern Try.func27 (by kernel_rfl) (by kernel_rfl) (by kernel_rfl) (e := add64Entry) (by kernel_rfl), run_add64 x y c (by omega) (by omega) (by omega) (by omega)]
  simp only [Result.andThen]
  congr 5 <;> omega
theorem sub64_nat (x y b : Nat) (hb : b ≤ 1) (w : World) : (callFunc 29 #[.int .u64 x, .int .u64 y, .int .u64 b]).run Try.prog w =
    .ok (.value (.tuple #[.int .u64 (((x + 18446744073709551616 - y - b) % 18446744073709551616 : Nat) : Int), .int .u64 ((if x < y + b then 1 else 0 : Nat) : Int)])) w := by
  rw [run_callFunc_extern Try.func29 (by kernel_rfl) (by kernel_rfl) (by kernel_rfl) (e := sub64Entry) (by kernel_rfl), run_sub64 x y b hb]
  rfl

/-- The sum of two words and a carry, told by its two parts. -/
theorem add64_is (x y c s o : Int) (hx : 0 ≤ x) (hy : 0 ≤ y) (hc0 : 0 ≤ c) (hc : c ≤ 1) (h : x + y + c = o * 18446744073709551616 + s) (h0 : 0 ≤ s) (h1 : s < 18446744073709551616) (w : World) :
    (callFunc 27 #[.int .u64 x, .int .u64 y, .int .u64 c]).run Try.prog w = .ok (.value (.tuple #[.int .u64 s, .int .u64 o])) w := by
  obtain ⟨x, rfl⟩ := Int.eq_ofNat_of_zero_le hx
  obtain ⟨y, rfl⟩ := Int.eq_ofNat_of_zero_le hy
  obtain ⟨c, rfl⟩ := Int.eq_ofNat_of_zero_le hc0
  rw [add64_nat x y c (by omega) w]
  have e1 : (((x + y + c) % 18446744073709551616 : Nat) : Int) = s := by omega
  have e2 : (((x + y + c) / 18446744073709551616 : Nat) : Int) = o := by omega
  rw [e1, e2]
theorem sub64_is (x y b s o : Int) (hx : 0 ≤ x) (hx1 : x < 18446744073709551616) (hy : 0 ≤ y) (hy1 : y < 18446744073709551616) (hb0 : 0 ≤ b) (hb : b ≤ 1) (h : x - y - b = s - o * 18446744073709551616) (h0 : 0 ≤ s) (h1 : s < 18446744073709551616) (w : World) :
    (callFunc 29 #[.int .u64 x, .int .u64 y, .int .u64 b]).run Try.prog w = .ok (.value (.tuple #[.int .u64 s, .int .u64 o])) w := by
  obtain ⟨x, rfl⟩ := Int.eq_ofNat_of_zero_le hx
  obtain ⟨y, rfl⟩ := Int.eq_ofNat_of_zero_le hy
  obtain ⟨b, rfl⟩ := Int.eq_ofNat_of_zero_le hb0
  rw [sub64_nat x y b (by omega) w]
  by_cases hlt : x < y + b
  · have e1 : (((x + 18446744073709551616 - y - b) % 18446744073709551616 : Nat) : Int) = s := by omega
    have e2 : ((1 : Nat) : Int) = o := by omega
    rw [if_pos hlt, e1, e2]
  · have e1 : (((x + 18446744073709551616 - y - b) % 18446744073709551616 : Nat) : Int) = s := by omega
    have e2 : ((0 : Nat) : Int) = o := by omega
    rw [if_neg hlt, e1, e2]

theorem or_zero (x y : Int) (hx : 0 ≤ x) (hx1 : x < 18446744073709551616) (hy : 0 ≤ y) (hy1 : y < 18446744073709551616) : (bits .or .u64 x y == 0) = (x == 0 && y == 0) := by
  obtain ⟨x, rfl⟩ := Int.eq_ofNat_of_zero_le hx
  obtain ⟨y, rfl⟩ := Int.eq_ofNat_of_zero_le hy
  rw [bits_or_u64_nat x y (by omega) (by omega), Bool.eq_iff_iff]
  simp only [beq_iff_eq, Bool.and_eq_true, Int.natCast_eq_zero, Nat.or_eq_zero_iff]

set_option maxHeartbeats 400000 in
theorem isZero_any (hi lo : Int) (z : Bool) (w : World) (hh : 0 ≤ hi) (hh2 : hi < 18446744073709551616) (hl : 0 ≤ lo) (hl2 : lo < 18446744073709551616) (H : Hid ((hi == 0 && lo == 0) = z)) :
    Calls Try.prog 43 #[.agg #[.int .u64 (hi), .int .u64 (lo)]] w fun e w' => e = .returned (.bool z) ∧ Below w.heap.size w w' := by
  have HO := Lib.hid ((or_zero hi lo hh hh2 hl hl2).trans H.out)
  go_enter Try.func43, Try.ntmps43
  go_wp2
  go_ret
  refine ⟨congrArg (fun b => Ending.returned (.bool b)) HO.out, ?_⟩
  repeat (first | with_reducible exact Below.refl _ _ | with_reducible refine Below.setCell ?_ (by first | omega | (simp only [World.size_alloc, World.size_setCell, World.size_drew]; omega)) _ | with_reducible refine Below.alloc ?_ (by first | omega | (simp only [World.size_alloc, World.size_setCell, World.size_drew]; omega)) _ | with_reducible refine Below.drew ?_)

set_option maxHeartbeats 400000 in
theorem addOne_any (hi lo s c t : Int) (w : World) (hl : 0 ≤ lo) (h : lo + 1 = c * 18446744073709551616 + s) (h0 : 0 ≤ s) (h1 : s < 18446744073709551616) (ht : IntKind.u64.wrap (hi + c) = t) :
    Calls Try.prog 42 #[.agg #[.int .u64 (hi), .int .u64 (lo)]] w fun e w' => e = .returned (.agg #[.int .u64 (t), .int .u64 (s)]) ∧ Below w.heap.size w w' := by
  have HA := Lib.hid (add64_is lo 1 0 s c hl (by omega) (by omega) (by omega) (by omega) h0 h1)
  clear h
  go_enter Try.func42, Try.ntmps42
  go_wp2_with (simp only [HA.out])
  refine bodyPost_ret (v := .agg #[.int .u64 (t), .int .u64 (s)]) ?_ rfl ⟨rfl, ?_⟩
  · simp [results, Try.results42, go_sem]
  repeat (first | with_reducible exact Below.refl _ _ | with_reducible refine Below.setCell ?_ (by first | omega | (simp only [World.size_alloc, World.size_setCell, World.size_drew]; omega)) _ | with_reducible refine Below.alloc ?_ (by first | omega | (simp only [World.size_alloc, World.size_setCell, World.size_drew]; omega)) _ | with_reducible refine Below.drew ?_)

set_option maxHeartbeats 400000 in
theorem subOne_any (hi lo s c t : Int) (w : World) (hl : 0 ≤ lo) (hl2 : lo < 18446744073709551616) (h : lo - 1 = s - c * 18446744073709551616) (h0 : 0 ≤ s) (h1 : s < 18446744073709551616) (ht : IntKind.u64.wrap (hi - c) = t) :
    Calls Try.prog 47 #[.agg #[.int .u64 (hi), .int .u64 (lo)]] w fun e w' => e = .returned (.agg #[.int .u64 (t), .int .u64 (s)]) ∧ Below w.heap.size w w' := by
  have HA := Lib.hid (sub64_is lo 1 0 s c hl hl2 (by omega) (by omega) (by omega) (by omega) (by omega) h0 h1)
  clear h
  go_enter Try.func47, Try.ntmps47
  go_wp2_with (simp only [HA.out])
  refine bodyPost_ret (v := .agg #[.int .u64 (t), .int .u64 (s)]) ?_ rfl ⟨rfl, ?_⟩
  · simp [results, Try.results47, go_sem]
  repeat (first | with_reducible exact Below.refl _ _ | with_reducible refine Below.setCell ?_ (by first | omega | (simp only [World.size_alloc, World.size_setCell, World.size_drew]; omega)) _ | with_reducible refine Below.alloc ?_ (by first | omega | (simp only [World.size_alloc, World.size_setCell, World.size_drew]; omega)) _ | with_reducible refine Below.drew ?_)
end Go.Proofs.Ytkploaapcpjkbaa
