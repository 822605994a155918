/- Contracts: parseIPv6 at two colons alone; ParseAddr; impl.Parse. -/
import Derived.Test.YtkploaapcpjkbaaGreatDoorZC
import Derived.Test.YtkploaapcpjkbaaGreatDoorA2
import Derived.Test.YtkploaapcpjkbaaGreatDoorS3
namespace Go.Proofs.YtkploaapcpjkbaaGreatDoor
open Go Go.RowKit Go.Sort
set_option linter.unusedVariables false
set_option linter.unusedSimpArgs false
attribute [local go_sem] cell_gr

set_option maxRecDepth 100000 in
set_option maxHeartbeats 3200000 in
theorem parse6_c (w : World) :
    Calls Tryz.prog 36 #[.string (bs [58, 58])] w fun e w' => e = .returned (.tuple #[.agg #[.int .u64 (0), .int .u64 (0), .bool true, .bool true, .string ⟨#[]⟩], .nilIface]) ∧ Below w.heap.size w w' := by
  have HN : Hid (∀ i (h : i < ([58, 58] : List UInt8).length), ([58, 58] : List UInt8)[i].toNat ≠ 37) := Lib.hid (by decide)
  obtain ⟨S, hS⟩ : ∃ S, S = bs [58, 58] := ⟨_, rfl⟩
  rw [← hS]
  have HS := Lib.hid hS
  have hsz : S.size = 2 := by rw [hS]; rfl
  have hc0 : ∀ h, ((S[0]'h).toNat : Int) = 58 := fun h => by subst hS; rfl
  have hc1 : ∀ h, ((S[1]'h).toNat : Int) = 58 := fun h => by subst hS; rfl
  have sl0 : ∀ W, (Instr.sliceAt 9 (.string S) (some (.int .i64 2)) none none).run Tryz.prog W = .ok (.string (bs [])) W := fun W => by
    rw [hS]; exact strFrom [58, 58] [] 2 rfl (by simp) W
  have h00 : (bs []).size = 0 := rfl
  clear hS
  go_enter Tryz.func36, Tryz.ntmps36
  go_wp2_with fail
  refine (indexByte_no [58, 58] S HS (by omega) HN _).mono ?_
  rintro e w1 ⟨rfl, hw1⟩
  subst hw1
  go_wp2_with fail
  refine (unspecified_any.at _).mono ?_
  rintro e w1 ⟨rfl, hb1⟩
  obtain ⟨hc1', hf1⟩ := rulesB (B := w.heap.size + 1) hb1 (by first | (simp; done) | (simp; omega))
  have hs1 := hb1.size
  simp only [World.size_alloc] at hs1
  go_wp2_with fail
  refine ((withZone_any _ _).at _).mono ?_
  rintro e w2 ⟨rfl, hb2⟩
  obtain ⟨hc2, hf2⟩ := rulesB (B := w.heap.size + 1) hb2 (by omega)
  have hs2 := hb2.size
  have hz2 : w.heap.size < w2.heap.size := by omega
  have e0 : w2.cell? ⟨w.heap.size, 0, none⟩ = some (.int .u64 0) := by rw [hc2 _ _ (by omega), hc1' _ _ (by omega)]; first | (simp [go_sem]; done) | (simp [go_sem]; rfl)
  have e1 : w2.cell? ⟨w.heap.size, 1, none⟩ = some (.int .u64 0) := by rw [hc2 _ _ (by omega), hc1' _ _ (by omega)]; first | (simp [go_sem]; done) | (simp [go_sem]; rfl)
  have e2 : w2.cell? ⟨w.heap.size, 2, none⟩ = some (.bool false) := by rw [hc2 _ _ (by omega), hc1' _ _ (by omega)]; first | (simp [go_sem]; done) | (simp [go_sem]; rfl)
  have e3 : w2.cell? ⟨w.heap.size, 3, none⟩ = some (.bool false) := by rw [hc2 _ _ (by omega), hc1' _ _ (by omega)]; first | (simp [go_sem]; done) | (simp [go_sem]; rfl)
  have e4 : w2.cell? ⟨w.heap.size, 4, none⟩ = some (.string ⟨#[]⟩) := by rw [hc2 _ _ (by omega), hc1' _ _ (by omega)]; first | (simp [go_sem]; done) | (simp [go_sem]; rfl)
  have hfz : ∀ o, w2.frozen? ⟨w.heap.size, o, none⟩ = false := fun o => by rw [hf2 _ _ (by omega), hf1 _ _ (by omega)]; simp [go_sem]
  clear hf2 hf1 hc2 hc1'
  go_wp2
  refine bodyPost_ret (v := .tuple #[.agg #[.int .u64 (0), .int .u64 (0), .bool true, .bool true, .string ⟨#[]⟩], .nilIface]) ?_ rfl ⟨rfl, ?_⟩
  · simp [results, Tryz.results36, go_sem, e0, e1, e2, e3, e4, hz2]
  have hC : Below w.heap.size w w2 := (((Below.refl w.heap.size w).alloc (Nat.le_refl _) _).alloc (by simp) _).trans ((hb1.mono (by first | (simp; done) | (simp; omega))).trans (hb2.mono (by omega)))
  repeat (first | with_reducible exact hC | with_reducible refine Below.setCell ?_ (by simp) _)

set_option maxHeartbeats 1600000 in
theorem parseAddr6 (l : List UInt8) (S : ByteArray) (HS : Hid (S = bs l)) (hS : S.size ≤ 1000) (p : Nat) (hp : p < l.length) (hd : Hid (∀ i (h : i < l.length), i < p → l[i].toNat ≠ 46 ∧ l[i].toNat ≠ 58 ∧ l[i].toNat ≠ 37)) (h58 : Hid (l[p].toNat = 58))
    (hi lo : Int) (HP : ∀ w, Calls Tryz.prog 36 #[.string S] w fun e w' => e = .returned (.tuple #[.agg #[.int .u64 (hi), .int .u64 (lo), .bool true, .bool true, .string ⟨#[]⟩], .nilIface]) ∧ Below w.heap.size w w') (w : World) :
    Calls Tryz.prog 13 #[.string S] w fun e w' => e = .returned (.tuple #[.agg #[.int .u64 (hi), .int .u64 (lo), .bool true, .bool true, .string ⟨#[]⟩], .nilIface]) ∧ Below w.heap.size w w' := by
  have HZ := Lib.hid (show S.size = l.length by rw [HS.out, bs_size])
  have HPS := Lib.hid HP
  have hpS : p < S.size := by rw [HZ.out]; exact hp
  clear HP
  go_enter Tryz.func13, Tryz.ntmps13
  go_wp2
  go_loop [4] (fun i => ∃ j : Nat, j ≤ p ∧ i = .int .i64 j) (fun i => p - (intOf i).toNat)
  case atStart => exact ⟨0, by omega, rfl⟩
  case round =>
    obtain ⟨j, hj, rfl⟩ := hrel
    have hlt : j < S.size := by omega
    have hl' : j < l.length := by rw [← HZ.out]; exact hlt
    obtain ⟨c, hc⟩ : ∃ c : Int, c = (l[j].toNat : Int) := ⟨_, rfl⟩
    have hcj : ∀ h, ((S[j]'h).toNat : Int) = c := fun h => by
      have e := HS.out
      subst e
      rw [hc, bs_at l j h hl']
    have HC := Lib.hid hc
    clear hc
    by_cases hjp : j < p
    · have hd1 := hd.out j hl' hjp
      have c1 : (c == 46) = false := by rw [beq_eq_false_iff_ne, HC.out]; omega
      have c2 : (c == 58) = false := by rw [beq_eq_false_iff_ne, HC.out]; omega
      have c3 : (c == 37) = false := by rw [beq_eq_false_iff_ne, HC.out]; omega
      clear hd1
      go_wp2_with fail
      go_round
      case rel => exact ⟨j + 1, by omega, by go_num⟩
      case measure => simp [intOf]; omega
    · have hcc : c = 58 := by
        have e : j = p := by omega
        subst e
        rw [HC.out, h58.out]; rfl
      subst hcc
      go_wp2_with fail
      refine (HPS.out _).mono ?_
      rintro e w1 ⟨rfl, hb1⟩
      obtain ⟨hc1, hf1⟩ := rulesB (B := w.heap.size + 1) hb1 (by simp)
      have hs1 := hb1.size
      simp only [World.size_alloc] at hs1
      have qr1_0 : w1.cell? ⟨w.heap.size, 0, none⟩ = some (.int .u64 0) := by rw [hc1 _ _ (by first | omega | (simp only [World.size_alloc, World.size_setCell, World.size_drew]; omega))]; first | with_reducible assumption | (simp [go_sem]; done) | (simp [go_sem, *]; done)
      have qr1_1 : w1.cell? ⟨w.heap.size, 1, none⟩ = some (.int .u64 0) := by rw [hc1 _ _ (by first | omega | (simp only [World.size_alloc, World.size_setCell, World.size_drew]; omega))]; first | with_reducible assumption | (simp [go_sem]; done) | (simp [go_sem, *]; done)
      have qr1_2 : w1.cell? ⟨w.heap.size, 2, none⟩ = some (.bool false) := by rw [hc1 _ _ (by first | omega | (simp only [World.size_alloc, World.size_setCell, World.size_drew]; omega))]; first | with_reducible assumption | (simp [go_sem]; done) | (simp [go_sem, *]; done)
      have qr1_3 : w1.cell? ⟨w.heap.size, 3, none⟩ = some (.bool false) := by rw [hc1 _ _ (by first | omega | (simp only [World.size_alloc, World.size_setCell, World.size_drew]; omega))]; first | with_reducible assumption | (simp [go_sem]; done) | (simp [go_sem, *]; done)
      have qr1_4 : w1.cell? ⟨w.heap.size, 4, none⟩ = some (.string ⟨#[]⟩) := by rw [hc1 _ _ (by first | omega | (simp only [World.size_alloc, World.size_setCell, World.size_drew]; omega))]; first | with_reducible assumption | (simp [go_sem]; done) | (simp [go_sem, *]; done)
      have hz1_0 : w.heap.size < w1.heap.size := by omega
      have hy1_0 : w.heap.size ≤ w1.heap.size := by omega
      go_wp2_with fail
      refine bodyPost_ret (v := .tuple #[.agg #[.int .u64 (hi), .int .u64 (lo), .bool true, .bool true, .string ⟨#[]⟩], .nilIface]) ?_ rfl ⟨rfl, ?_⟩
      · simp [results, Tryz.results13, go_sem, qr1_0, qr1_1, qr1_2, qr1_3, qr1_4]
      repeat (first | with_reducible exact Below.refl _ _ | with_reducible refine Below.setCell ?_ (by first | omega | (simp only [World.size_alloc, World.size_setCell, World.size_drew]; omega)) _ | with_reducible refine Below.alloc ?_ (by first | omega | (simp only [World.size_alloc, World.size_setCell, World.size_drew]; omega)) _ | with_reducible refine Below.drew ?_ | with_reducible refine Below.trans ?_ (hb1.mono (by first | omega | (simp only [World.size_alloc, World.size_setCell, World.size_drew]; omega))))

set_option maxHeartbeats 1600000 in
theorem parse_ok6 (S : ByteArray) (hi lo : Int) (hh : 0 ≤ hi) (hh2 : hi < 18446744073709551616) (hl : 0 ≤ lo) (hl2 : lo < 18446744073709551616) (HP : Hid (∀ w, Calls Tryz.prog 13 #[.string S] w fun e w' => e = .returned (.tuple #[.agg #[.int .u64 (hi), .int .u64 (lo), .bool true, .bool true, .string ⟨#[]⟩], .nilIface]) ∧ Below w.heap.size w w')) :
    Ret 6 #[.string S] (.tuple #[.agg #[.bool true, .int .u64 (hi), .int .u64 (lo)], .bool true]) := by
  intro w
  go_enter Tryz.func6, Tryz.ntmps6
  go_wp2_with fail
  refine (HP.out _).mono ?_
  rintro e w1 ⟨rfl, hb1⟩
  obtain ⟨hc1, hf1⟩ := rulesB (B := w.heap.size + 1) hb1 (by simp)
  have hs1 := hb1.size
  simp only [World.size_alloc] at hs1
  have qr1_0 : w1.cell? ⟨w.heap.size, 0, none⟩ = some (.bool false) := by rw [hc1 _ _ (by first | omega | (simp only [World.size_alloc, World.size_setCell, World.size_drew]; omega))]; first | with_reducible assumption | (simp [go_sem]; done) | (simp [go_sem, *]; done)
  have qr1_1 : w1.cell? ⟨w.heap.size, 1, none⟩ = some (.int .u64 0) := by rw [hc1 _ _ (by first | omega | (simp only [World.size_alloc, World.size_setCell, World.size_drew]; omega))]; first | with_reducible assumption | (simp [go_sem]; done) | (simp [go_sem, *]; done)
  have qr1_2 : w1.cell? ⟨w.heap.size, 2, none⟩ = some (.int .u64 0) := by rw [hc1 _ _ (by first | omega | (simp only [World.size_alloc, World.size_setCell, World.size_drew]; omega))]; first | with_reducible assumption | (simp [go_sem]; done) | (simp [go_sem, *]; done)
  have hz1_0 : w.heap.size < w1.heap.size := by omega
  have hy1_0 : w.heap.size ≤ w1.heap.size := by omega
  go_wp2_with fail
  refine ((zone_any true _ _).at _).mono ?_
  rintro e w2 ⟨rfl, hb2⟩
  obtain ⟨hc2, hf2⟩ := rules hb2
  have hs2 := hb2.size
  simp only [World.size_alloc] at hs2 hc2 hf2
  have qr2_0 : w2.cell? ⟨w.heap.size, 0, none⟩ = some (.bool false) := by rw [hc2 _ _ (by first | omega | (simp only [World.size_alloc, World.size_setCell, World.size_drew]; omega))]; first | with_reducible assumption | (simp [go_sem]; done) | (simp [go_sem, *]; done)
  have qr2_1 : w2.cell? ⟨w.heap.size, 1, none⟩ = some (.int .u64 0) := by rw [hc2 _ _ (by first | omega | (simp only [World.size_alloc, World.size_setCell, World.size_drew]; omega))]; first | with_reducible assumption | (simp [go_sem]; done) | (simp [go_sem, *]; done)
  have qr2_2 : w2.cell? ⟨w.heap.size, 2, none⟩ = some (.int .u64 0) := by rw [hc2 _ _ (by first | omega | (simp only [World.size_alloc, World.size_setCell, World.size_drew]; omega))]; first | with_reducible assumption | (simp [go_sem]; done) | (simp [go_sem, *]; done)
  have qp2_0 : w2.cell? ⟨w1.heap.size, 0, none⟩ = some (.int .u64 hi) := by rw [hc2 _ _ (by first | omega | (simp only [World.size_alloc, World.size_setCell, World.size_drew]; omega))]; first | with_reducible assumption | (simp [go_sem]; done) | (simp [go_sem, *]; done)
  have qp2_1 : w2.cell? ⟨w1.heap.size, 1, none⟩ = some (.int .u64 lo) := by rw [hc2 _ _ (by first | omega | (simp only [World.size_alloc, World.size_setCell, World.size_drew]; omega))]; first | with_reducible assumption | (simp [go_sem]; done) | (simp [go_sem, *]; done)
  have qp2_2 : w2.cell? ⟨w1.heap.size, 2, none⟩ = some (.bool true) := by rw [hc2 _ _ (by first | omega | (simp only [World.size_alloc, World.size_setCell, World.size_drew]; omega))]; first | with_reducible assumption | (simp [go_sem]; done) | (simp [go_sem, *]; done)
  have qp2_3 : w2.cell? ⟨w1.heap.size, 3, none⟩ = some (.bool true) := by rw [hc2 _ _ (by first | omega | (simp only [World.size_alloc, World.size_setCell, World.size_drew]; omega))]; first | with_reducible assumption | (simp [go_sem]; done) | (simp [go_sem, *]; done)
  have qp2_4 : w2.cell? ⟨w1.heap.size, 4, none⟩ = some (.string ⟨#[]⟩) := by rw [hc2 _ _ (by first | omega | (simp only [World.size_alloc, World.size_setCell, World.size_drew]; omega))]; first | with_reducible assumption | (simp [go_sem]; done) | (simp [go_sem, *]; done)
  have hz2_0 : w.heap.size < w2.heap.size := by omega
  have hz2_1 : w1.heap.size < w2.heap.size := by omega
  go_wp2_with fail
  refine (told_v6 hi lo _ hh hh2 hl hl2).mono ?_
  rintro e w3 ⟨rfl, hb3⟩
  obtain ⟨hc3, hf3⟩ := rules hb3
  have hs3 := hb3.size
  have qr3_0 : w3.cell? ⟨w.heap.size, 0, none⟩ = some (.bool false) := by rw [hc3 _ _ (by first | omega | (simp only [World.size_alloc, World.size_setCell, World.size_drew]; omega))]; first | with_reducible assumption | (simp [go_sem]; done) | (simp [go_sem, *]; done)
  have qr3_1 : w3.cell? ⟨w.heap.size, 1, none⟩ = some (.int .u64 0) := by rw [hc3 _ _ (by first | omega | (simp only [World.size_alloc, World.size_setCell, World.size_drew]; omega))]; first | with_reducible assumption | (simp [go_sem]; done) | (simp [go_sem, *]; done)
  have qr3_2 : w3.cell? ⟨w.heap.size, 2, none⟩ = some (.int .u64 0) := by rw [hc3 _ _ (by first | omega | (simp only [World.size_alloc, World.size_setCell, World.size_drew]; omega))]; first | with_reducible assumption | (simp [go_sem]; done) | (simp [go_sem, *]; done)
  have hz3_0 : w.heap.size < w3.heap.size := by omega
  go_wp2_with fail
  refine bodyPost_ret (v := .tuple #[.agg #[.bool true, .int .u64 (hi), .int .u64 (lo)], .bool true]) ?_ rfl ⟨rfl, ?_⟩
  · simp [results, Tryz.results6, go_sem, qr3_0, qr3_1, qr3_2]
  repeat (first | with_reducible exact Below.refl _ _ | with_reducible refine Below.setCell ?_ (by first | omega | (simp only [World.size_alloc, World.size_setCell, World.size_drew]; omega)) _ | with_reducible refine Below.alloc ?_ (by first | omega | (simp only [World.size_alloc, World.size_setCell, World.size_drew]; omega)) _ | with_reducible refine Below.drew ?_ | with_reducible refine Below.trans ?_ (hb3.mono (by first | omega | (simp only [World.size_alloc, World.size_setCell, World.size_drew]; omega))) | with_reducible refine Below.trans ?_ (hb2.mono (by first | omega | (simp only [World.size_alloc, World.size_setCell, World.size_drew]; omega))) | with_reducible refine Below.trans ?_ (hb1.mono (by first | omega | (simp only [World.size_alloc, World.size_setCell, World.size_drew]; omega))))
end Go.Proofs.YtkploaapcpjkbaaGreatDoor
