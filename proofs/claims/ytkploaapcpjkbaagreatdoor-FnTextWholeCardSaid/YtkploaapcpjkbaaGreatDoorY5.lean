/- Contracts: the reference's Groups, run. -/
import Derived.Test.YtkploaapcpjkbaaGreatDoorY4
namespace Go.Proofs.YtkploaapcpjkbaaGreatDoor
open Go Go.RowKit Go.Sort
set_option linter.unusedVariables false
set_option linter.unusedSimpArgs false
attribute [local go_sem] cell_gr

/-- Eight groups as a value. -/
def g8 (f : Nat → Int) : Value := .agg #[.int .u16 (f 0), .int .u16 (f 1), .int .u16 (f 2), .int .u16 (f 3), .int .u16 (f 4), .int .u16 (f 5), .int .u16 (f 6), .int .u16 (f 7)]

set_option maxRecDepth 100000 in
set_option maxHeartbeats 1600000 in
theorem groups_any (hi lo : Int) (hh : 0 ≤ hi) (hh2 : hi < 18446744073709551616) (hl : 0 ≤ lo) (hl2 : lo < 18446744073709551616) : Ret 17 #[.agg #[.bool true, .int .u64 (hi), .int .u64 (lo)]] (g8 (grp hi lo)) := by
  intro w
  have e0 : IntKind.u16.wrap (hi / 281474976710656) = grp hi lo 0 := by rw [wrap_u16]; simp only [grp]; simp
  have e1 : IntKind.u16.wrap (hi / 4294967296) = grp hi lo 1 := by rw [wrap_u16]; simp only [grp]; simp
  have e2 : IntKind.u16.wrap (hi / 65536) = grp hi lo 2 := by rw [wrap_u16]; simp only [grp]; simp
  have e3 : IntKind.u16.wrap (hi) = grp hi lo 3 := by rw [wrap_u16]; simp only [grp]; simp
  have e4 : IntKind.u16.wrap (lo / 281474976710656) = grp hi lo 4 := by rw [wrap_u16]; simp only [grp]; simp
  have e5 : IntKind.u16.wrap (lo / 4294967296) = grp hi lo 5 := by rw [wrap_u16]; simp only [grp]; simp
  have e6 : IntKind.u16.wrap (lo / 65536) = grp hi lo 6 := by rw [wrap_u16]; simp only [grp]; simp
  have e7 : IntKind.u16.wrap (lo) = grp hi lo 7 := by rw [wrap_u16]; simp only [grp]; simp
  unfold g8
  go_enter Tryz.func17, Tryz.ntmps17
  go_wp2_with fail
  refine wp_loop_rounds 5 ?_
  rw [rounds_succ]
  go_wp2
  rw [rounds_succ]
  go_wp2
  rw [rounds_succ]
  go_wp2
  rw [rounds_succ]
  go_wp2
  rw [rounds_succ]
  go_wp2
  refine bodyPost_ret (v := .agg #[.int .u16 (grp hi lo 0), .int .u16 (grp hi lo 1), .int .u16 (grp hi lo 2), .int .u16 (grp hi lo 3), .int .u16 (grp hi lo 4), .int .u16 (grp hi lo 5), .int .u16 (grp hi lo 6), .int .u16 (grp hi lo 7)]) ?_ rfl ⟨rfl, ?_⟩
  · simp [results, Tryz.results17, go_sem]
  repeat (first | with_reducible exact Below.refl _ _ | with_reducible refine Below.setCell ?_ (by first | (simp; done) | (simp; omega)) _ | with_reducible refine Below.alloc ?_ (by first | (simp; done) | (simp; omega)) _)

/-- The first of the longest runs of zeros among those that begin below n. -/
def rrun (G : Nat → Int) : Nat → Int × Nat
  | 0 => (-1, 0)
  | n + 1 => if (rrun G n).2 < zend G n - n then ((n : Int), zend G n - n) else rrun G n
theorem rrun_bd (G : Nat → Int) (n : Nat) (h : n ≤ 8) : rrun G n = (-1, 0) ∨ (0 ≤ (rrun G n).1 ∧ (rrun G n).1 + (rrun G n).2 ≤ 8 ∧ 1 ≤ (rrun G n).2) := by
  induction n with
  | zero => exact .inl rfl
  | succ n ih =>
    have hz := zend_bd G n (by omega)
    rw [rrun]
    split
    · right; refine ⟨by simp, ?_, ?_⟩
      · simp only; omega
      · simp only; omega
    · exact ih (by omega)
/-- The run that appendTo6 leaves out. -/
theorem best_run (G : Nat → Int) (n : Nat) (h : n ≤ 8) : if (rrun G n).2 < 2 then best G n = (255, 255) else ((best G n).1 : Int) = (rrun G n).1 ∧ (best G n).2 = (best G n).1 + (rrun G n).2 := by
  induction n with
  | zero => simp [rrun, best]
  | succ n ih =>
    have ih := ih (by omega)
    have hz := zend_bd G n (by omega)
    by_cases c : (rrun G n).2 < zend G n - n
    · rw [show rrun G (n + 1) = ((n : Int), zend G n - n) by rw [rrun, if_pos c]]
      by_cases c3 : 2 ≤ zend G n - n
      · have hb : (best G n).2 - (best G n).1 < zend G n - n := by
          split at ih
          · rw [ih]; show 255 - 255 < _; omega
          · omega
        rw [show best G (n + 1) = (n, zend G n) by rw [best, if_pos ⟨c3, hb⟩], if_neg (show ¬ (zend G n - n < 2) by omega)]
        exact ⟨rfl, by show zend G n = n + (zend G n - n); omega⟩
      · rw [if_pos (by omega)] at ih
        rw [if_pos (show zend G n - n < 2 by omega), best, if_neg (by omega)]
        exact ih
    · rw [show rrun G (n + 1) = rrun G n by rw [rrun, if_neg c]]
      by_cases c2 : (rrun G n).2 < 2
      · rw [if_pos c2] at ih ⊢
        rw [best, if_neg (by omega)]
        exact ih
      · rw [if_neg c2] at ih ⊢
        rw [show best G (n + 1) = best G n by rw [best, if_neg (by omega)]]
        exact ih

set_option maxRecDepth 100000 in
set_option maxHeartbeats 3200000 in
theorem run_any (f : Nat → Int) (w : World) :
    Calls Tryz.prog 22 #[g8 f] w fun e w' => e = .returned (.tuple #[.int .i64 (rrun f 8).1, .int .i64 (rrun f 8).2]) ∧ Below w.heap.size w w' := by
  have HC : ∀ i, i < 8 → (w.alloc (.cells #[.int .u16 (f 0), .int .u16 (f 1), .int .u16 (f 2), .int .u16 (f 3), .int .u16 (f 4), .int .u16 (f 5), .int .u16 (f 6), .int .u16 (f 7)] 45)).cell? ⟨w.heap.size, i, none⟩ = some (.int .u16 (f i)) := fun i hi => by
    match i, hi with
    | 0, _ | 1, _ | 2, _ | 3, _ | 4, _ | 5, _ | 6, _ | 7, _ => simp [go_sem]
    | n + 8, h => exact absurd h (by omega)
  have HBW := (Below.refl w.heap.size w).alloc (Nat.le_refl _) (.cells #[.int .u16 (f 0), .int .u16 (f 1), .int .u16 (f 2), .int .u16 (f 3), .int .u16 (f 4), .int .u16 (f 5), .int .u16 (f 6), .int .u16 (f 7)] 45)
  unfold g8
  go_enter Tryz.func22, Tryz.ntmps22
  go_wp2_with fail
  generalize w.alloc (.cells #[.int .u16 (f 0), .int .u16 (f 1), .int .u16 (f 2), .int .u16 (f 3), .int .u16 (f 4), .int .u16 (f 5), .int .u16 (f 6), .int .u16 (f 7)] 45) = W at HC HBW ⊢
  have HCH := Lib.hid HC
  have HBH := Lib.hid HBW
  clear HC HBW
  go_loop [4, 5, 8] (fun a l i => ∃ n : Nat, n ≤ 8 ∧ i = .int .i64 n ∧ a = .int .i64 (rrun f n).1 ∧ l = .int .i64 (rrun f n).2) (fun _ _ i => 8 - (intOf i).toNat)
  case atStart => exact ⟨0, by omega, rfl, rfl, rfl⟩
  case round =>
    obtain ⟨n, hn, rfl, rfl, rfl⟩ := hrel
    by_cases hlt : n < 8
    · have hni : decide ((n : Int) < 8) = true := decide_eq_true (by omega)
      have HRB := Lib.hid (rrun_bd f n hn)
      go_wp2_with fail
      go_loop [7] (fun c => ∃ m : Nat, n + m ≤ 8 ∧ c = .int .i64 m ∧ Hid (zend f n = zend f (n + m))) (fun c => 8 - (intOf c).toNat)
      case atStart => exact ⟨0, by omega, rfl, Lib.hid rfl⟩
      case round =>
        obtain ⟨m, hm, rfl, HZ⟩ := hrel
        by_cases hmt : n + m < 8
        · have HG := Lib.hid (zend_step f (n + m) hmt)
          have HS := Lib.hid (zend_stop f (n + m) hmt)
          have hmi : decide ((n : Int) + (m : Int) < 8) = true := decide_eq_true (by omega)
          have hck := HCH.out (n + m) hmt
          cases hz : (f (n + m) == 0)
          · have HZE : Hid (zend f n - n = m) := Lib.hid (by rw [HZ.out, HS.out (beq_eq_false_iff_ne.1 hz)]; omega)
            by_cases k1 : (rrun f n).2 < m
            · have d1 : decide (((rrun f n).2 : Int) < (m : Int)) = true := decide_eq_true (by omega)
              go_wp2_with fail
              go_round
              case rel =>
                have e : rrun f (n + 1) = ((n : Int), m) := by rw [rrun, HZE.out, if_pos k1]
                exact ⟨n + 1, by omega, by go_num, by rw [e], by rw [e]⟩
              case measure => simp [intOf]; omega
            · have d1 : decide (((rrun f n).2 : Int) < (m : Int)) = false := decide_eq_false (by omega)
              go_wp2_with fail
              go_round
              case rel =>
                have e : rrun f (n + 1) = rrun f n := by rw [rrun, HZE.out, if_neg k1]
                exact ⟨n + 1, by omega, by go_num, by rw [e], by rw [e]⟩
              case measure => simp [intOf]; omega
          · go_wp2_with fail
            go_round
            case rel => exact ⟨m + 1, by omega, by go_num, Lib.hid (by rw [HZ.out, HG.out (eq_of_beq hz)]; congr 1)⟩
            case measure => simp [intOf]; omega
        · have hmi : decide ((n : Int) + (m : Int) < 8) = false := decide_eq_false (by omega)
          have HZE : Hid (zend f n - n = m) := Lib.hid (by rw [HZ.out, show n + m = 8 by omega, zend_8]; omega)
          by_cases k1 : (rrun f n).2 < m
          · have d1 : decide (((rrun f n).2 : Int) < (m : Int)) = true := decide_eq_true (by omega)
            go_wp2_with fail
            go_round
            case rel =>
              have e : rrun f (n + 1) = ((n : Int), m) := by rw [rrun, HZE.out, if_pos k1]
              exact ⟨n + 1, by omega, by go_num, by rw [e], by rw [e]⟩
            case measure => simp [intOf]; omega
          · have d1 : decide (((rrun f n).2 : Int) < (m : Int)) = false := decide_eq_false (by omega)
            go_wp2_with fail
            go_round
            case rel =>
              have e : rrun f (n + 1) = rrun f n := by rw [rrun, HZE.out, if_neg k1]
              exact ⟨n + 1, by omega, by go_num, by rw [e], by rw [e]⟩
            case measure => simp [intOf]; omega
    · obtain rfl : n = 8 := by omega
      have e8 : ((8 : Nat) : Int) = 8 := rfl
      rw [e8]
      go_wp2
      go_ret2
      exact ⟨rfl, HBH.out⟩
end Go.Proofs.YtkploaapcpjkbaaGreatDoor
