/- Contracts: the reference's dotted, Mapped, mark, padded. -/
import Derived.Test.YtkploaapcpjkbaaGreatDoorY2
namespace Go.Proofs.YtkploaapcpjkbaaGreatDoor
open Go Go.RowKit Go.Sort
set_option linter.unusedVariables false
set_option linter.unusedSimpArgs false
attribute [local go_sem] cell_gr

theorem dig_hxU (n : Nat) (h : n < 10) : UInt8.ofNat (48 + n) = hxU (n : Int) := by
  have H : ∀ n, n < 10 → UInt8.ofNat (48 + n) = hxU ((n : Nat) : Int) := by decide +kernel
  exact H n h
theorem itoa_decU (x : Int) (h0 : 0 ≤ x) (h1 : x < 256) : Lib.itoa x = decU x := by
  obtain ⟨n, rfl⟩ := Int.eq_ofNat_of_zero_le h0
  unfold Lib.itoa decU
  rw [if_neg (by omega)]
  simp only [Int.toNat_natCast]
  by_cases a : n < 10
  · rw [if_neg (by omega), if_neg (by omega), Lib.decDigits, dif_pos (by omega), dig_hxU n a]
    rw [show (n : Int) % 10 = (n : Int) by omega]
  · by_cases b : n < 100
    · rw [if_neg (by omega), if_pos (by omega), Lib.decDigits, dif_neg (by omega), Lib.decDigits, dif_pos (by omega), dig_hxU _ (by omega), dig_hxU _ (by omega)]
      simp only [List.singleton_append]
      rw [show ((n / 10 : Nat) : Int) = (n : Int) / 10 % 10 by omega, show ((n % 10 : Nat) : Int) = (n : Int) % 10 by omega]
    · rw [if_pos (by omega), Lib.decDigits, dif_neg (by omega), Lib.decDigits, dif_neg (by omega), Lib.decDigits, dif_pos (by omega), dig_hxU _ (by omega), dig_hxU _ (by omega), dig_hxU _ (by omega)]
      simp only [List.singleton_append, List.cons_append, List.nil_append]
      rw [show ((n / 10 / 10 : Nat) : Int) = (n : Int) / 100 by omega, show ((n / 10 % 10 : Nat) : Int) = (n : Int) / 10 % 10 by omega, show ((n % 10 : Nat) : Int) = (n : Int) % 10 by omega]

set_option maxRecDepth 100000 in
set_option maxHeartbeats 3200000 in
theorem dotted_any (six : Bool) (hi lo : Int) (w : World) (hl : 0 ≤ lo) (hl2 : lo < 18446744073709551616) (hT : Laid w) :
    Calls Tryz.prog 16 #[.agg #[.bool six, .int .u64 (hi), .int .u64 (lo)]] w fun e w' => e = .returned (.string (bs (quadU lo))) ∧ Below w.heap.size w w' := by
  have HT := Lib.hid hT
  clear hT
  have y1 := itoa_decU (byteAt lo 1) (byteAt_bd _ _).1 (byteAt_bd _ _).2
  have Y1 := Lib.hid y1
  clear y1
  have z1 : IntKind.u8.wrap (lo / 256) = byteAt lo 1 := by rw [IntKind.wrap_u8]; simp only [byteAt, Int.reducePow]
  have hb1 := byteAt_bd lo 1
  have l1 := (decU_len (byteAt lo 1)).2
  have y2 := itoa_decU (byteAt lo 2) (byteAt_bd _ _).1 (byteAt_bd _ _).2
  have Y2 := Lib.hid y2
  clear y2
  have z2 : IntKind.u8.wrap (lo / 65536) = byteAt lo 2 := by rw [IntKind.wrap_u8]; simp only [byteAt, Int.reducePow]
  have hb2 := byteAt_bd lo 2
  have l2 := (decU_len (byteAt lo 2)).2
  have y3 := itoa_decU (byteAt lo 3) (byteAt_bd _ _).1 (byteAt_bd _ _).2
  have Y3 := Lib.hid y3
  clear y3
  have z3 : IntKind.u8.wrap (lo / 16777216) = byteAt lo 3 := by rw [IntKind.wrap_u8]; simp only [byteAt, Int.reducePow]
  have hb3 := byteAt_bd lo 3
  have l3 := (decU_len (byteAt lo 3)).2
  have Y0 := Lib.hid (itoa_decU (byteAt lo 0) (byteAt_bd _ _).1 (byteAt_bd _ _).2)
  have z0 : IntKind.u8.wrap lo = byteAt lo 0 := by rw [IntKind.wrap_u8]; simp only [byteAt, Int.reducePow]; omega
  have hb0 := byteAt_bd lo 0
  have l0 := (decU_len (byteAt lo 0)).2
  have HB0 := Lib.hid ((Below.refl w.heap.size w).alloc (Nat.le_refl _) (.cells #[.bool six, .int .u64 hi, .int .u64 lo] 24))
  have hO0 := ownS_nil (w.alloc (.cells #[.bool six, .int .u64 hi, .int .u64 lo] 24)) (w.heap.size + 1)
  go_enter Tryz.func16, Tryz.ntmps16
  go_wp2_with fail
  refine wp_loop_rounds 5 ?_
  rw [rounds_succ]
  go_wp2_with fail
  refine (itoa_any (byteAt lo 3) hb3.1 (by omega) _ (HT.out.below HB0.out)).mono ?_
  rintro e w1 ⟨rfl, hb1'⟩
  rw [Y3.out]
  have hs1 := hb1'.size
  try simp only [World.size_alloc] at hs1
  have hc1 := fun b o (h : b < w.heap.size + 1) => hb1'.cell (p := ⟨b, o, none⟩) (by first | exact (by simpa using h) | (simp only [World.size_alloc] at *; omega) | omega)
  have HB1 := Lib.hid (HB0.out.trans (hb1'.mono (by first | (simp; done) | omega)))
  have hO1 := hO0.below hb1'
  clear hO0 hb1'
  go_wp2_with (at_builtin; refine appendStr (decU (byteAt lo 3)) rfl _ _ rfl rfl rfl hO1 (by omega) (by simp) ?_; intro v2 w2 hO2 hb2' _; have hs2 := hb2'.size; have hc2 := fun b o (h : b < w.heap.size + 1) => hb2'.cell (p := ⟨b, o, none⟩) h; have HB2 := Lib.hid (HB1.out.trans (hb2'.mono (by omega))); clear hO1 hb2')
  rw [rounds_succ]
  go_wp2_with fail
  refine (itoa_any (byteAt lo 2) hb2.1 (by omega) _ (HT.out.below HB2.out)).mono ?_
  rintro e w3 ⟨rfl, hb3'⟩
  rw [Y2.out]
  have hs3 := hb3'.size
  try simp only [World.size_alloc] at hs3
  have hc3 := fun b o (h : b < w.heap.size + 1) => hb3'.cell (p := ⟨b, o, none⟩) (by first | exact (by simpa using h) | (simp only [World.size_alloc] at *; omega) | omega)
  have HB3 := Lib.hid (HB2.out.trans (hb3'.mono (by first | (simp; done) | omega)))
  have hO3 := hO2.below hb3'
  clear hO2 hb3'
  go_wp2_with (at_builtin; refine appendStr (decU (byteAt lo 2)) rfl _ _ rfl rfl rfl hO3 (by omega) (by simp) ?_; intro v4 w4 hO4 hb4' _; have hs4 := hb4'.size; have hc4 := fun b o (h : b < w.heap.size + 1) => hb4'.cell (p := ⟨b, o, none⟩) h; have HB4 := Lib.hid (HB3.out.trans (hb4'.mono (by omega))); clear hO3 hb4')
  rw [rounds_succ]
  go_wp2_with fail
  refine (itoa_any (byteAt lo 1) hb1.1 (by omega) _ (HT.out.below HB4.out)).mono ?_
  rintro e w5 ⟨rfl, hb5'⟩
  rw [Y1.out]
  have hs5 := hb5'.size
  try simp only [World.size_alloc] at hs5
  have hc5 := fun b o (h : b < w.heap.size + 1) => hb5'.cell (p := ⟨b, o, none⟩) (by first | exact (by simpa using h) | (simp only [World.size_alloc] at *; omega) | omega)
  have HB5 := Lib.hid (HB4.out.trans (hb5'.mono (by first | (simp; done) | omega)))
  have hO5 := hO4.below hb5'
  clear hO4 hb5'
  go_wp2_with (at_builtin; refine appendStr (decU (byteAt lo 1)) rfl _ _ rfl rfl rfl hO5 (by omega) (by simp) ?_; intro v6 w6 hO6 hb6' _; have hs6 := hb6'.size; have hc6 := fun b o (h : b < w.heap.size + 1) => hb6'.cell (p := ⟨b, o, none⟩) h; have HB6 := Lib.hid (HB5.out.trans (hb6'.mono (by omega))); clear hO5 hb6')
  rw [rounds_succ]
  go_wp2_with fail
  refine (itoa_any (byteAt lo 0) hb0.1 (by omega) _ (HT.out.below HB6.out)).mono ?_
  rintro e w7 ⟨rfl, hb7'⟩
  rw [Y0.out]
  have hs7 := hb7'.size
  try simp only [World.size_alloc] at hs7
  have hc7 := fun b o (h : b < w.heap.size + 1) => hb7'.cell (p := ⟨b, o, none⟩) (by first | exact (by simpa using h) | (simp only [World.size_alloc] at *; omega) | omega)
  have HB7 := Lib.hid (HB6.out.trans (hb7'.mono (by first | (simp; done) | omega)))
  have hO7 := hO6.below hb7'
  clear hO6 hb7'
  go_wp2_with (at_builtin; refine appendStr (decU (byteAt lo 0)) rfl _ _ rfl rfl rfl hO7 (by omega) (by simp) ?_; intro v8 w8 hO8 hb8' _; have hs8 := hb8'.size; have hc8 := fun b o (h : b < w.heap.size + 1) => hb8'.cell (p := ⟨b, o, none⟩) h; have HB8 := Lib.hid (HB7.out.trans (hb8'.mono (by omega))); clear hO7 hb8')
  rw [rounds_succ]
  go_wp2_with fail
  refine (join_own _ [46] _ rfl _ _ _ hO8 (by simp) (by
    intro x hx
    simp only [List.nil_append, List.singleton_append, List.cons_append, List.mem_cons, List.not_mem_nil, or_false] at hx
    rcases hx with rfl | rfl | rfl | rfl <;> omega) (by simp)).mono ?_
  rintro e w9 ⟨rfl, hb9⟩
  go_wp2
  go_ret
  refine ⟨?_, HB8.out.trans (hb9.mono (by omega))⟩
  simp [Lib.join, List.intercalate, quadU]
end Go.Proofs.YtkploaapcpjkbaaGreatDoor
