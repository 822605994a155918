/- Contracts: parseIPv4, ParseAddr and impl.Parse at four numbers with points between. -/
import Derived.Test.YtkploaapcpjkbaaGreatDoorZG
import Derived.Test.YtkploaapcpjkbaaGreatDoorA1
namespace Go.Proofs.YtkploaapcpjkbaaGreatDoor
open Go Go.RowKit Go.Sort
set_option linter.unusedVariables false
set_option linter.unusedSimpArgs false
attribute [local go_sem] cell_gr

set_option maxHeartbeats 1600000 in
theorem parse4_ok (l : List UInt8) (S : ByteArray) (HS : Hid (S = bs l)) (w : World) (hS : S.size ≤ 1000) (a b c d : Int) (ha : 0 ≤ a ∧ a < 256) (hb : 0 ≤ b ∧ b < 256) (hc : 0 ≤ c ∧ c < 256) (hd : 0 ≤ d ∧ d < 256) (hn : Hid (run4 0 [] 0 true l = some [a, b, c, d])) :
    Calls Tryz.prog 35 #[.string S] w fun e w' => e = .returned (.tuple #[.agg #[.int .u64 0, .int .u64 (281470681743360 + (a * 16777216 + b * 65536 + c * 256 + d)), .bool true, .bool false, .string ⟨#[]⟩], .nilIface]) ∧ Below w.heap.size w w' := by
  have HA := Lib.hid ha
  have HB := Lib.hid hb
  have HC := Lib.hid hc
  have HD := Lib.hid hd
  have HSL : Hid (∀ W, (Instr.sliceAt 9 (.string S) (some (.int .i64 0)) (some (.int .i64 (S.size : Int))) none).run Tryz.prog W = .ok (.string S) W) := Lib.hid fun W => by
    have h := strSlice [] l 0 S.size rfl (by rw [HS.out, bs_size]; simp) (by have := hS; rw [HS.out, bs_size] at this; simpa using this) W
    rw [List.nil_append, ← HS.out] at h; exact h
  clear ha hb hc hd
  go_enter Tryz.func35, Tryz.ntmps35
  go_wp2_with fail
  refine (fields_any l S HS (w.heap.size + 1) 0 4 S 0 S.size _ hS (Nat.le_refl _) HSL.out (fun i hi => ?_) (fun i hi => by simp [go_sem])).mono ?_
  · match i, hi with
    | 0, _ => exact ⟨_, by simp [go_sem]; rfl⟩
    | 1, _ => exact ⟨_, by simp [go_sem]; rfl⟩
    | 2, _ => exact ⟨_, by simp [go_sem]; rfl⟩
    | 3, _ => exact ⟨_, by simp [go_sem]; rfl⟩
    | n + 4, h => exact absurd h (by omega)
  · intro e w1 he
    rw [hn.out] at he
    obtain ⟨rfl, hb1, _, hxs, _, _⟩ := he
    have x0 := hxs 0 a rfl
    have x1 := hxs 1 b rfl
    have x2 := hxs 2 c rfl
    have x3 := hxs 3 d rfl
    clear hxs
    have hc1 := fun b o (h : b < w.heap.size + 1) => hb1.cell (p := ⟨b, o, none⟩) h
    have hf1 := fun b o (h : b < w.heap.size + 1) => hb1.frozen (p := ⟨b, o, none⟩) h
    have hs1 := hb1.size
    simp only [World.size_alloc] at hs1
    have qr1_0 : w1.cell? ⟨w.heap.size, 0, none⟩ = some (.int .u64 0) := by rw [hc1 _ _ (by first | omega | (simp only [World.size_alloc, World.size_setCell, World.size_drew]; omega))]; first | with_reducible assumption | (simp [go_sem]; done) | (simp [go_sem, *]; done)
    have qr1_1 : w1.cell? ⟨w.heap.size, 1, none⟩ = some (.int .u64 0) := by rw [hc1 _ _ (by first | omega | (simp only [World.size_alloc, World.size_setCell, World.size_drew]; omega))]; first | with_reducible assumption | (simp [go_sem]; done) | (simp [go_sem, *]; done)
    have qr1_2 : w1.cell? ⟨w.heap.size, 2, none⟩ = some (.bool false) := by rw [hc1 _ _ (by first | omega | (simp only [World.size_alloc, World.size_setCell, World.size_drew]; omega))]; first | with_reducible assumption | (simp [go_sem]; done) | (simp [go_sem, *]; done)
    have qr1_3 : w1.cell? ⟨w.heap.size, 3, none⟩ = some (.bool false) := by rw [hc1 _ _ (by first | omega | (simp only [World.size_alloc, World.size_setCell, World.size_drew]; omega))]; first | with_reducible assumption | (simp [go_sem]; done) | (simp [go_sem, *]; done)
    have qr1_4 : w1.cell? ⟨w.heap.size, 4, none⟩ = some (.string ⟨#[]⟩) := by rw [hc1 _ _ (by first | omega | (simp only [World.size_alloc, World.size_setCell, World.size_drew]; omega))]; first | with_reducible assumption | (simp [go_sem]; done) | (simp [go_sem, *]; done)
    have hz1_0 : w.heap.size < w1.heap.size := by omega
    have hy1_0 : w.heap.size ≤ w1.heap.size := by omega
    have hz1_1 : w.heap.size + 1 < w1.heap.size := by omega
    have hy1_1 : w.heap.size + 1 ≤ w1.heap.size := by omega
    go_wp2_with fail
    refine (addrFrom4_any a b c d _ HA.out HB.out HC.out HD.out).mono ?_
    rintro e w2 ⟨rfl, hb2⟩
    obtain ⟨hc2, hf2⟩ := rulesB (B := w.heap.size + 1) hb2 (by omega)
    have hs2 := hb2.size
    have qr2_0 : w2.cell? ⟨w.heap.size, 0, none⟩ = some (.int .u64 0) := by rw [hc2 _ _ (by first | omega | (simp only [World.size_alloc, World.size_setCell, World.size_drew]; omega))]; first | with_reducible assumption | (simp [go_sem]; done) | (simp [go_sem, *]; done)
    have qr2_1 : w2.cell? ⟨w.heap.size, 1, none⟩ = some (.int .u64 0) := by rw [hc2 _ _ (by first | omega | (simp only [World.size_alloc, World.size_setCell, World.size_drew]; omega))]; first | with_reducible assumption | (simp [go_sem]; done) | (simp [go_sem, *]; done)
    have qr2_2 : w2.cell? ⟨w.heap.size, 2, none⟩ = some (.bool false) := by rw [hc2 _ _ (by first | omega | (simp only [World.size_alloc, World.size_setCell, World.size_drew]; omega))]; first | with_reducible assumption | (simp [go_sem]; done) | (simp [go_sem, *]; done)
    have qr2_3 : w2.cell? ⟨w.heap.size, 3, none⟩ = some (.bool false) := by rw [hc2 _ _ (by first | omega | (simp only [World.size_alloc, World.size_setCell, World.size_drew]; omega))]; first | with_reducible assumption | (simp [go_sem]; done) | (simp [go_sem, *]; done)
    have qr2_4 : w2.cell? ⟨w.heap.size, 4, none⟩ = some (.string ⟨#[]⟩) := by rw [hc2 _ _ (by first | omega | (simp only [World.size_alloc, World.size_setCell, World.size_drew]; omega))]; first | with_reducible assumption | (simp [go_sem]; done) | (simp [go_sem, *]; done)
    have hz2_0 : w.heap.size < w2.heap.size := by omega
    have hy2_0 : w.heap.size ≤ w2.heap.size := by omega
    have hz2_1 : w.heap.size + 1 < w2.heap.size := by omega
    have hy2_1 : w.heap.size + 1 ≤ w2.heap.size := by omega
    go_wp2_with fail
    refine bodyPost_ret (v := .tuple #[.agg #[.int .u64 0, .int .u64 (281470681743360 + (a * 16777216 + b * 65536 + c * 256 + d)), .bool true, .bool false, .string ⟨#[]⟩], .nilIface]) ?_ rfl ⟨rfl, ?_⟩
    · simp [results, Tryz.results35, go_sem, qr2_0, qr2_1, qr2_2, qr2_3, qr2_4]
    repeat (first | with_reducible exact Below.refl _ _ | with_reducible refine Below.setCell ?_ (by first | omega | (simp only [World.size_alloc, World.size_setCell, World.size_drew]; omega)) _ | with_reducible refine Below.alloc ?_ (by first | omega | (simp only [World.size_alloc, World.size_setCell, World.size_drew]; omega)) _ | with_reducible refine Below.drew ?_ | with_reducible refine Below.trans ?_ (hb2.mono (by first | omega | (simp only [World.size_alloc, World.size_setCell, World.size_drew]; omega))) | with_reducible refine Below.trans ?_ (hb1.mono (by first | omega | (simp only [World.size_alloc, World.size_setCell, World.size_drew]; omega))))
set_option maxHeartbeats 1600000 in
theorem parseAddr_of (l : List UInt8) (S : ByteArray) (HS : Hid (S = bs l)) (hS : S.size ≤ 1000) (p : Nat) (hp : p < l.length) (hd : Hid (∀ i (h : i < l.length), i < p → 48 ≤ l[i].toNat ∧ l[i].toNat ≤ 57)) (h46 : Hid (l[p].toNat = 46))
    (lo : Int) (s : Bool) (Ok : Value → Prop) (HP : ∀ w, Calls Tryz.prog 35 #[.string S] w fun e w' => (∃ r, Ok r ∧ e = .returned (.tuple #[.agg #[.int .u64 0, .int .u64 lo, .bool s, .bool false, .string ⟨#[]⟩], r])) ∧ Below w.heap.size w w') (w : World) :
    Calls Tryz.prog 13 #[.string S] w fun e w' => (∃ r, Ok r ∧ e = .returned (.tuple #[.agg #[.int .u64 0, .int .u64 lo, .bool s, .bool false, .string ⟨#[]⟩], r])) ∧ Below w.heap.size w w' := by
  have HZ := Lib.hid (show S.size = l.length by rw [HS.out, bs_size])
  have HPS := Lib.hid HP
  have hpS : p < S.size := by rw [HZ.out]; exact hp
  clear HP
  go_enter Tryz.func13, Tryz.ntmps13
  go_wp2
  go_loop [4] (fun i => ∃ j : Nat, j ≤ p ∧ i = .int .i64 j) (fun i => p - (intOf i).toNat)
  case atStart => exact ⟨0, by omega, rfl⟩
  case round =>
    obtain ⟨j, hj, rfl⟩ := hrel
    have hlt : j < S.size := by omega
    have hl' : j < l.length := by rw [← HZ.out]; exact hlt
    obtain ⟨c, hc⟩ : ∃ c : Int, c = (l[j].toNat : Int) := ⟨_, rfl⟩
    have hcj : ∀ h, ((S[j]'h).toNat : Int) = c := fun h => by
      have e := HS.out
      subst e
      rw [hc, bs_at l j h hl']
    have HC := Lib.hid hc
    clear hc
    by_cases hjp : j < p
    · have hd1 := hd.out j hl' hjp
      have c1 : (c == 46) = false := by rw [beq_eq_false_iff_ne, HC.out]; omega
      have c2 : (c == 58) = false := by rw [beq_eq_false_iff_ne, HC.out]; omega
      have c3 : (c == 37) = false := by rw [beq_eq_false_iff_ne, HC.out]; omega
      clear hd1
      go_wp2_with fail
      go_round
      case rel => exact ⟨j + 1, by omega, by go_num⟩
      case measure => simp [intOf]; omega
    · have hcc : c = 46 := by
        have e : j = p := by omega
        subst e
        rw [HC.out, h46.out]; rfl
      subst hcc
      go_wp2_with fail
      refine (HPS.out _).mono ?_
      rintro e w1 ⟨⟨r, hr, rfl⟩, hb1⟩
      obtain ⟨hc1, hf1⟩ := rulesB (B := w.heap.size + 1) hb1 (by simp)
      have hs1 := hb1.size
      simp only [World.size_alloc] at hs1
      have qr1_0 : w1.cell? ⟨w.heap.size, 0, none⟩ = some (.int .u64 0) := by rw [hc1 _ _ (by first | omega | (simp only [World.size_alloc, World.size_setCell, World.size_drew]; omega))]; first | with_reducible assumption | (simp [go_sem]; done) | (simp [go_sem, *]; done)
      have qr1_1 : w1.cell? ⟨w.heap.size, 1, none⟩ = some (.int .u64 0) := by rw [hc1 _ _ (by first | omega | (simp only [World.size_alloc, World.size_setCell, World.size_drew]; omega))]; first | with_reducible assumption | (simp [go_sem]; done) | (simp [go_sem, *]; done)
      have qr1_2 : w1.cell? ⟨w.heap.size, 2, none⟩ = some (.bool false) := by rw [hc1 _ _ (by first | omega | (simp only [World.size_alloc, World.size_setCell, World.size_drew]; omega))]; first | with_reducible assumption | (simp [go_sem]; done) | (simp [go_sem, *]; done)
      have qr1_3 : w1.cell? ⟨w.heap.size, 3, none⟩ = some (.bool false) := by rw [hc1 _ _ (by first | omega | (simp only [World.size_alloc, World.size_setCell, World.size_drew]; omega))]; first | with_reducible assumption | (simp [go_sem]; done) | (simp [go_sem, *]; done)
      have qr1_4 : w1.cell? ⟨w.heap.size, 4, none⟩ = some (.string ⟨#[]⟩) := by rw [hc1 _ _ (by first | omega | (simp only [World.size_alloc, World.size_setCell, World.size_drew]; omega))]; first | with_reducible assumption | (simp [go_sem]; done) | (simp [go_sem, *]; done)
      have hz1_0 : w.heap.size < w1.heap.size := by omega
      have hy1_0 : w.heap.size ≤ w1.heap.size := by omega
      go_wp2_with fail
      refine bodyPost_ret (v := .tuple #[.agg #[.int .u64 0, .int .u64 lo, .bool s, .bool false, .string ⟨#[]⟩], r]) ?_ rfl ⟨⟨r, hr, rfl⟩, ?_⟩
      · simp [results, Tryz.results13, go_sem, qr1_0, qr1_1, qr1_2, qr1_3, qr1_4]
      repeat (first | with_reducible exact Below.refl _ _ | with_reducible refine Below.setCell ?_ (by first | omega | (simp only [World.size_alloc, World.size_setCell, World.size_drew]; omega)) _ | with_reducible refine Below.alloc ?_ (by first | omega | (simp only [World.size_alloc, World.size_setCell, World.size_drew]; omega)) _ | with_reducible refine Below.drew ?_ | with_reducible refine Below.trans ?_ (hb1.mono (by first | omega | (simp only [World.size_alloc, World.size_setCell, World.size_drew]; omega))))

set_option maxHeartbeats 1600000 in
theorem parse_ok (S : ByteArray) (lo : Int) (h0 : 0 ≤ lo) (h1 : lo < 4294967296) (HP : Hid (∀ w, Calls Tryz.prog 13 #[.string S] w fun e w' => (∃ r, r = .nilIface ∧ e = .returned (.tuple #[.agg #[.int .u64 0, .int .u64 (281470681743360 + lo), .bool true, .bool false, .string ⟨#[]⟩], r])) ∧ Below w.heap.size w w')) (w : World) :
    Calls Tryz.prog 6 #[.string S] w fun e w' => e = .returned (.tuple #[.agg #[.bool false, .int .u64 (0), .int .u64 (lo)], .bool true]) ∧ Below w.heap.size w w' := by
  go_enter Tryz.func6, Tryz.ntmps6
  go_wp2_with fail
  refine (HP.out _).mono ?_
  rintro e w1 ⟨⟨r, rfl, rfl⟩, hb1⟩
  obtain ⟨hc1, hf1⟩ := rulesB (B := w.heap.size + 1) hb1 (by simp)
  have hs1 := hb1.size
  simp only [World.size_alloc] at hs1
  have qr1_0 : w1.cell? ⟨w.heap.size, 0, none⟩ = some (.bool false) := by rw [hc1 _ _ (by first | omega | (simp only [World.size_alloc, World.size_setCell, World.size_drew]; omega))]; first | with_reducible assumption | (simp [go_sem]; done) | (simp [go_sem, *]; done)
  have qr1_1 : w1.cell? ⟨w.heap.size, 1, none⟩ = some (.int .u64 0) := by rw [hc1 _ _ (by first | omega | (simp only [World.size_alloc, World.size_setCell, World.size_drew]; omega))]; first | with_reducible assumption | (simp [go_sem]; done) | (simp [go_sem, *]; done)
  have qr1_2 : w1.cell? ⟨w.heap.size, 2, none⟩ = some (.int .u64 0) := by rw [hc1 _ _ (by first | omega | (simp only [World.size_alloc, World.size_setCell, World.size_drew]; omega))]; first | with_reducible assumption | (simp [go_sem]; done) | (simp [go_sem, *]; done)
  have hz1_0 : w.heap.size < w1.heap.size := by omega
  have hy1_0 : w.heap.size ≤ w1.heap.size := by omega
  go_wp2_with fail
  refine ((zone_any false _ _).at _).mono ?_
  rintro e w2 ⟨rfl, hb2⟩
  obtain ⟨hc2, hf2⟩ := rules hb2
  have hs2 := hb2.size
  simp only [World.size_alloc] at hs2 hc2 hf2
  have qr2_0 : w2.cell? ⟨w.heap.size, 0, none⟩ = some (.bool false) := by rw [hc2 _ _ (by first | omega | (simp only [World.size_alloc, World.size_setCell, World.size_drew]; omega))]; first | with_reducible assumption | (simp [go_sem]; done) | (simp [go_sem, *]; done)
  have qr2_1 : w2.cell? ⟨w.heap.size, 1, none⟩ = some (.int .u64 0) := by rw [hc2 _ _ (by first | omega | (simp only [World.size_alloc, World.size_setCell, World.size_drew]; omega))]; first | with_reducible assumption | (simp [go_sem]; done) | (simp [go_sem, *]; done)
  have qr2_2 : w2.cell? ⟨w.heap.size, 2, none⟩ = some (.int .u64 0) := by rw [hc2 _ _ (by first | omega | (simp only [World.size_alloc, World.size_setCell, World.size_drew]; omega))]; first | with_reducible assumption | (simp [go_sem]; done) | (simp [go_sem, *]; done)
  have qp2_0 : w2.cell? ⟨w1.heap.size, 0, none⟩ = some (.int .u64 0) := by rw [hc2 _ _ (by first | omega | (simp only [World.size_alloc, World.size_setCell, World.size_drew]; omega))]; first | with_reducible assumption | (simp [go_sem]; done) | (simp [go_sem, *]; done)
  have qp2_1 : w2.cell? ⟨w1.heap.size, 1, none⟩ = some (.int .u64 (281470681743360 + lo)) := by rw [hc2 _ _ (by first | omega | (simp only [World.size_alloc, World.size_setCell, World.size_drew]; omega))]; first | with_reducible assumption | (simp [go_sem]; done) | (simp [go_sem, *]; done)
  have qp2_2 : w2.cell? ⟨w1.heap.size, 2, none⟩ = some (.bool true) := by rw [hc2 _ _ (by first | omega | (simp only [World.size_alloc, World.size_setCell, World.size_drew]; omega))]; first | with_reducible assumption | (simp [go_sem]; done) | (simp [go_sem, *]; done)
  have qp2_3 : w2.cell? ⟨w1.heap.size, 3, none⟩ = some (.bool false) := by rw [hc2 _ _ (by first | omega | (simp only [World.size_alloc, World.size_setCell, World.size_drew]; omega))]; first | with_reducible assumption | (simp [go_sem]; done) | (simp [go_sem, *]; done)
  have qp2_4 : w2.cell? ⟨w1.heap.size, 4, none⟩ = some (.string ⟨#[]⟩) := by rw [hc2 _ _ (by first | omega | (simp only [World.size_alloc, World.size_setCell, World.size_drew]; omega))]; first | with_reducible assumption | (simp [go_sem]; done) | (simp [go_sem, *]; done)
  have hz2_0 : w.heap.size < w2.heap.size := by omega
  have hz2_1 : w1.heap.size < w2.heap.size := by omega
  go_wp2_with fail
  refine (told_v4 lo _ h0 h1).mono ?_
  rintro e w3 ⟨rfl, hb3⟩
  obtain ⟨hc3, hf3⟩ := rules hb3
  have hs3 := hb3.size
  have qr3_0 : w3.cell? ⟨w.heap.size, 0, none⟩ = some (.bool false) := by rw [hc3 _ _ (by first | omega | (simp only [World.size_alloc, World.size_setCell, World.size_drew]; omega))]; first | with_reducible assumption | (simp [go_sem]; done) | (simp [go_sem, *]; done)
  have qr3_1 : w3.cell? ⟨w.heap.size, 1, none⟩ = some (.int .u64 0) := by rw [hc3 _ _ (by first | omega | (simp only [World.size_alloc, World.size_setCell, World.size_drew]; omega))]; first | with_reducible assumption | (simp [go_sem]; done) | (simp [go_sem, *]; done)
  have qr3_2 : w3.cell? ⟨w.heap.size, 2, none⟩ = some (.int .u64 0) := by rw [hc3 _ _ (by first | omega | (simp only [World.size_alloc, World.size_setCell, World.size_drew]; omega))]; first | with_reducible assumption | (simp [go_sem]; done) | (simp [go_sem, *]; done)
  have hz3_0 : w.heap.size < w3.heap.size := by omega
  go_wp2_with fail
  refine bodyPost_ret (v := .tuple #[.agg #[.bool false, .int .u64 (0), .int .u64 (lo)], .bool true]) ?_ rfl ⟨rfl, ?_⟩
  · simp [results, Tryz.results6, go_sem, qr3_0, qr3_1, qr3_2]
  repeat (first | with_reducible exact Below.refl _ _ | with_reducible refine Below.setCell ?_ (by first | omega | (simp only [World.size_alloc, World.size_setCell, World.size_drew]; omega)) _ | with_reducible refine Below.alloc ?_ (by first | omega | (simp only [World.size_alloc, World.size_setCell, World.size_drew]; omega)) _ | with_reducible refine Below.drew ?_ | with_reducible refine Below.trans ?_ (hb3.mono (by first | omega | (simp only [World.size_alloc, World.size_setCell, World.size_drew]; omega))) | with_reducible refine Below.trans ?_ (hb2.mono (by first | omega | (simp only [World.size_alloc, World.size_setCell, World.size_drew]; omega))) | with_reducible refine Below.trans ?_ (hb1.mono (by first | omega | (simp only [World.size_alloc, World.size_setCell, World.size_drew]; omega))))
end Go.Proofs.YtkploaapcpjkbaaGreatDoor
