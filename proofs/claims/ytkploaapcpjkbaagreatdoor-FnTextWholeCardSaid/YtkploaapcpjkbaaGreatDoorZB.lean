/- Contract: parseIPv4Fields: the walk. -/
import Derived.Test.YtkploaapcpjkbaaGreatDoorZA
namespace Go.Proofs.YtkploaapcpjkbaaGreatDoor
open Go Go.RowKit Go.Sort
set_option linter.unusedVariables false
set_option linter.unusedSimpArgs false
attribute [local go_sem] cell_gr

theorem end_err {l : List UInt8} {b o : Nat} {w w' : World} {t : TypeId} {x : Value} (h : run4 0 [] 0 true l = none) (hb : Below b w w') : End4 b o w (run4 0 [] 0 true l) (.returned (.iface t x)) w' := by
  rw [h]; exact ⟨⟨t, x, rfl⟩, hb⟩

set_option maxRecDepth 100000 in
set_option maxHeartbeats 6400000 in
theorem fields_any (l : List UInt8) (S : ByteArray) (HS : Hid (S = bs l)) (b o cap : Nat) (S0 : ByteArray) (x0 y0 : Int) (w : World) (hS : S.size ≤ 1000) (hcap : 4 ≤ cap) (hsl : ∀ W, (Instr.sliceAt 9 (.string S0) (some (.int .i64 x0)) (some (.int .i64 y0)) none).run Tryz.prog W = .ok (.string S) W) (there : ∀ i, i < 4 → ∃ x, w.cell? ⟨b, o + i, none⟩ = some x) (free : ∀ i, i < 4 → w.frozen? ⟨b, o + i, none⟩ = false) :
    Calls Tryz.prog 56 #[.string S0, .int .i64 x0, .int .i64 y0, .slice (some ⟨b, o, none⟩) 4 cap] w (End4 b o w (run4 0 [] 0 true l)) := by
  have HZ := Lib.hid (show S.size = l.length by rw [HS.out, bs_size])
  have H0 : Hid (St4 l b o w 0 0 [] 0 true w) := Lib.hid ⟨Nat.zero_le _, by omega, by omega, by simp, by omega, fun _ => rfl, fun _ h => by omega, fun i x h => by simp at h, there, free, Below.refl _ _, fun _ _ => rfl, fun _ => rfl, rfl⟩
  clear there free
  go_enter Tryz.func56, Tryz.ntmps56
  go_wp2
  go_loopw [9, 10, 11, 13] (fun v p d i wr => ∃ (j : Nat) (x : Int) (fs : List Int) (n : Nat) (st : Bool), St4 l b o w j x fs n st wr ∧ i = .int .i64 j ∧ v = .int .i64 x ∧ p = .int .i64 fs.length ∧ d = .int .i64 n) (fun _ _ _ i _ => S.size - (intOf i).toNat)
  case atStart => exact ⟨0, 0, [], 0, true, H0.out, rfl, rfl, rfl, rfl⟩
  case round =>
    obtain ⟨j, x, fs, n, st, s, rfl, rfl, rfl, rfl⟩ := hrel
    have HST := Lib.hid s
    have hj : j ≤ S.size := by rw [HZ.out]; exact s.hj
    have x0 := s.v0
    have x1 := s.v1
    have m3 := s.m3
    have dj := s.dj
    have hbl := s.below
    have HBL := Lib.hid hbl
    have HTH := Lib.hid s.there
    have HF := Lib.hid s.free
    clear hbl s
    by_cases hlt : j < S.size
    · have hl' : j < l.length := by rw [← HZ.out]; exact hlt
      obtain ⟨c, hc⟩ : ∃ c : Int, c = (l[j].toNat : Int) := ⟨_, rfl⟩
      have hcj : ∀ h, ((S[j]'h).toNat : Int) = c := fun h => by
        have e := HS.out
        subst e
        rw [hc, bs_at l j h hl']
      have c0 : 0 ≤ c := by omega
      have c1 : c < 256 := by rw [hc]; have := l[j].toNat_lt; omega
      have HC := Lib.hid hc
      clear hc
      by_cases q1 : 48 ≤ c ∧ c ≤ 57
      · have b1 : decide ((48 : Int) ≤ c) = true := decide_eq_true q1.1
        have b2 : decide (c ≤ 57) = true := decide_eq_true q1.2
        have Q1 := Lib.hid q1
        have q2 := q1.2
        clear q1
        cases e1 : ((n : Int) == 1) <;> cases e2 : (x == 0) <;> cases e3 : decide (255 < x * 10 + c - 48)
        all_goals
          have E1 := Lib.hid e1
          have E2 := Lib.hid e2
          have E3 := Lib.hid e3
          go_wp2_with fail
          first
            | (go_ret
               exact end_err (HST.out.bad_digit hl' (by rw [← HC.out]; exact Q1.out.1) (by rw [← HC.out]; exact Q1.out.2) (by
                 have a1 := E1.out; have a2 := E2.out; have a3 := E3.out
                 rw [← HC.out]
                 first
                   | (right; exact of_decide_eq_true a3)
                   | (left; exact ⟨by have := eq_of_beq a1; omega, eq_of_beq a2⟩))) HBL.out)
            | (go_roundw
               case rel =>
                 refine ⟨j + 1, x * 10 + c - 48, fs, n + 1, false, ?_, by go_num, rfl, rfl, by go_num⟩
                 have a1 := E1.out; have a2 := E2.out; have a3 := E3.out
                 have := HST.out.digit hl' (by rw [← HC.out]; exact Q1.out.1) (by rw [← HC.out]; exact Q1.out.2) (by
                   rintro ⟨h1, h2⟩
                   first
                     | (rw [beq_eq_false_iff_ne] at a1; exact a1 (by omega))
                     | (rw [beq_eq_false_iff_ne] at a2; exact a2 h2)) (by rw [← HC.out]; exact of_decide_eq_false a3)
                 rwa [← HC.out] at this
               case measure => simp [intOf]; omega)
      · by_cases q3 : c = 46
        · subst q3
          clear q1
          have HC' := Lib.hid (show (l[j].toNat : Int) = 46 from HC.out.symm)
          clear HC c0 c1
          cases e4 : ((j : Int) == 0)
          · have hj0 : j ≠ 0 := by rintro rfl; simp at e4
            have e4' := Lib.hid e4
            cases e5 : ((j : Int) == (S.size : Int) - 1)
            · have hj1 : j + 1 < l.length := by
                rw [beq_eq_false_iff_ne] at e5
                have := HZ.out; omega
              obtain ⟨pr, hpr⟩ : ∃ pr : Int, pr = (l[j - 1].toNat : Int) := ⟨_, rfl⟩
              have hcp : ∀ h, ((S[j - 1]'h).toNat : Int) = pr := fun h => by
                have e := HS.out
                subst e
                rw [hpr, bs_at l (j - 1) h (by omega)]
              have hj2 : (1 : Int) ≤ (j : Int) := by omega
              have HP := Lib.hid hpr
              clear hpr
              have hjm : 0 ≤ (j : Int) - 1 := by omega
              have hjm2 : (j : Int) - 1 < S.size := by omega
              cases e6 : (pr == 46)
              · cases e7 : ((fs.length : Int) == 3)
                · have hm : fs.length ≠ 3 := by intro h; rw [h] at e7; simp at e7
                  obtain ⟨y, hy⟩ := HTH.out fs.length (by omega)
                  have hfz := HF.out fs.length (by omega)
                  have hm2 : fs.length < 4 := by omega
                  have hst : Hid (st = false) := Lib.hid (by
                    have h1 := HST.out.stp (by omega) (by omega)
                    rw [beq_eq_false_iff_ne] at e6
                    rw [← HP.out] at h1
                    cases st
                    · rfl
                    · exact absurd (h1.2 rfl) e6)
                  have e8 : IntKind.u8.wrap x = x := by rw [IntKind.wrap_u8]; omega
                  have HM := Lib.hid hm
                  clear hm hj0
                  go_wp2_with fail
                  go_roundw
                  case rel =>
                    exact ⟨j + 1, 0, fs ++ [x], 0, true, HST.out.point hl' HC'.out hst.out hj1 HM.out, by go_num, rfl, by simp, rfl⟩
                  case measure => simp [intOf]; omega
                · go_wp2_with fail
                  go_ret
                  exact end_err (HST.out.bad_point hl' HC'.out (.inr (.inr (by have := eq_of_beq e7; omega)))) HBL.out
              · go_wp2_with fail
                go_ret
                exact end_err (HST.out.bad_point hl' HC'.out (.inl ((HST.out.stp (by omega) (by omega)).1 (by rw [← HP.out]; exact eq_of_beq e6)))) HBL.out
            · have E5 := Lib.hid e5
              go_wp2_with fail
              go_ret
              exact end_err (HST.out.bad_point hl' HC'.out (.inr (.inl (by have := eq_of_beq E5.out; have := HZ.out; omega)))) HBL.out
          · have E4 := Lib.hid e4
            go_wp2_with fail
            go_ret
            exact end_err (HST.out.bad_point hl' HC'.out (.inl (HST.out.st0 (by have := eq_of_beq E4.out; omega)))) HBL.out
        · have e8 : (c == 46) = false := beq_eq_false_iff_ne.2 q3
          have Q1 := Lib.hid q1
          have Q3 := Lib.hid q3
          have E : run4 0 [] 0 true l = none := HST.out.bad_byte hl' (by rw [← HC.out]; exact q1) (by rw [← HC.out]; exact q3)
          have HE := Lib.hid E
          clear E q3
          cases b1 : decide ((48 : Int) ≤ c) <;> cases b2 : decide (c ≤ 57)
          · exact absurd b1 (by intro h; have := of_decide_eq_false b1; have := of_decide_eq_false b2; omega)
          · clear q1
            go_wp2_with fail
            go_ret
            exact end_err HE.out HBL.out
          · clear q1
            go_wp2_with fail
            go_ret
            exact end_err HE.out HBL.out
          · exact absurd ⟨of_decide_eq_true b1, of_decide_eq_true b2⟩ q1
    · have hje : j = l.length := by have := HZ.out; omega
      have HJ := Lib.hid hje
      clear hje
      by_cases hm : fs.length < 3
      · have hm' : (fs.length : Int) < 3 := by omega
        have HM := Lib.hid hm
        clear hm
        go_wp2_with fail
        go_ret
        exact end_err (HST.out.short HJ.out HM.out) HBL.out
      · have hm' : ¬ (fs.length : Int) < 3 := by omega
        have HM := Lib.hid (show fs.length = 3 by omega)
        clear hm
        obtain ⟨y, hy⟩ := HTH.out 3 (by omega)
        have hfz := HF.out 3 (by omega)
        have e8 : IntKind.u8.wrap x = x := by rw [IntKind.wrap_u8]; omega
        go_wp2_with fail
        go_ret
        exact HST.out.full HJ.out HM.out
end Go.Proofs.YtkploaapcpjkbaaGreatDoor
