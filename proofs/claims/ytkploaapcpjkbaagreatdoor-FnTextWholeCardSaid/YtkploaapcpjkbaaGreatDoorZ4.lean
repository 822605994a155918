/- Contract: appendTo6: the walk. -/
import Derived.Test.YtkploaapcpjkbaaGreatDoorY0
import Derived.Test.YtkploaapcpjkbaaGreatDoorC2
namespace Go.Proofs.YtkploaapcpjkbaaGreatDoor
open Go Go.RowKit Go.Sort
set_option linter.unusedVariables false
set_option linter.unusedSimpArgs false
attribute [local go_sem] cell_gr



theorem best_small (G : Nat → Int) (n : Nat) (h : n ≤ 8) : (best G n).1 ≤ 255 ∧ (best G n).2 ≤ 255 ∧ (best G n).1 ≤ (best G n).2 := by
  rcases best_bd G n h with h | h
  · rw [h]; exact ⟨Nat.le_refl _, Nat.le_refl _, Nat.le_refl _⟩
  · omega
/-- How appendTo6 leaves its third loop: the buffer, and the run that is left out. -/
def R6 (w : World) (g cap k : Nat) (xs : List Value) (G : Nat → Int) (zs ze n : Nat) (wr : World) : Prop :=
  Buf wr g cap (k + (pre G zs ze n).length) (xs ++ vals (pre G zs ze n)) ∧ w.grownBy wr (some g)

set_option maxRecDepth 100000 in
set_option maxHeartbeats 6400000 in
theorem appendTo6_any (g cap k : Nat) (xs : List Value) (hi lo : Int) (w : World) (hh : 0 ≤ hi) (hh2 : hi < 18446744073709551616) (hl : 0 ≤ lo) (hl2 : lo < 18446744073709551616) (hb : Buf w g cap k xs) (hcap : k + 42 ≤ cap) :
    Calls Tryz.prog 34 #[.agg #[.int .u64 (hi), .int .u64 (lo), .bool true, .bool true, .string ⟨#[]⟩], .slice (some ⟨g, 0, none⟩) k cap] w (Appends w g cap k xs (vals (pre (grp hi lo) (best (grp hi lo) 8).1 (best (grp hi lo) 8).2 8))) := by
  have HHH := Lib.hid (And.intro (And.intro hh hh2) (And.intro hl hl2))
  have hne : w.heap.size ≠ g := by have := hb.lt; omega
  have HB := Lib.hid (hb.alloc (.cells #[.int .u64 hi, .int .u64 lo, .bool true, .bool true, .string ⟨#[]⟩] 36))
  have HGA := Lib.hid (grown_alloc (grown_refl w g) (.cells #[.int .u64 hi, .int .u64 lo, .bool true, .bool true, .string ⟨#[]⟩] 36))
  have HCAP := Lib.hid hcap
  clear hb hcap
  go_enter Tryz.func34, Tryz.ntmps34
  go_wp2
  go_loopw [5, 6, 7] (fun zs ze i wr => ∃ n : Nat, n ≤ 8 ∧ i = .int .u8 n ∧ zs = .int .u8 (best (grp hi lo) n).1 ∧ ze = .int .u8 (best (grp hi lo) n).2 ∧ Below (w.heap.size + 1) (w.alloc (.cells #[.int .u64 hi, .int .u64 lo, .bool true, .bool true, .string ⟨#[]⟩] 36)) wr) (fun _ _ i _ => 8 - (intOf i).toNat)
  case atStart => exact ⟨0, by omega, rfl, rfl, rfl, Below.refl _ _⟩
  case round =>
    obtain ⟨n, hn, rfl, rfl, rfl, hbw⟩ := hrel
    by_cases hlt : n < 8
    · have HN := Lib.hid hbw
      clear hbw
      have HBB := Lib.hid (best_small (grp hi lo) n hn)
      have hni : decide ((n : Int) < 8) = true := decide_eq_true (by omega)
      go_wp2
      go_loopw [8] (fun j wr2 => ∃ m : Nat, n ≤ m ∧ m ≤ 8 ∧ j = .int .u8 m ∧ Hid (zend (grp hi lo) n = zend (grp hi lo) m) ∧ Below (w.heap.size + 1) (w.alloc (.cells #[.int .u64 hi, .int .u64 lo, .bool true, .bool true, .string ⟨#[]⟩] 36)) wr2) (fun j _ => 8 - (intOf j).toNat)
      case atStart => exact ⟨n, Nat.le_refl _, by omega, rfl, Lib.hid rfl, HN.out⟩
      case round =>
        obtain ⟨m, hnm, hm8, rfl, HZ, hbm⟩ := hrel
        have HM := Lib.hid hbm
        have hms := hbm.size
        simp only [World.size_alloc] at hms
        have q0 : wr.cell? ⟨w.heap.size, 0, none⟩ = some (.int .u64 hi) := (hbm.cell (p := ⟨w.heap.size, 0, none⟩) (by simp)).trans (by simp [go_sem])
        have q1 : wr.cell? ⟨w.heap.size, 1, none⟩ = some (.int .u64 lo) := (hbm.cell (p := ⟨w.heap.size, 1, none⟩) (by simp)).trans (by simp [go_sem])
        have q2 : wr.cell? ⟨w.heap.size, 2, none⟩ = some (.bool true) := (hbm.cell (p := ⟨w.heap.size, 2, none⟩) (by simp)).trans (by simp [go_sem])
        have q3 : wr.cell? ⟨w.heap.size, 3, none⟩ = some (.bool true) := (hbm.cell (p := ⟨w.heap.size, 3, none⟩) (by simp)).trans (by simp [go_sem])
        have q4 : wr.cell? ⟨w.heap.size, 4, none⟩ = some (.string ⟨#[]⟩) := (hbm.cell (p := ⟨w.heap.size, 4, none⟩) (by simp)).trans (by simp [go_sem])
        clear hbm
        by_cases hmt : m < 8
        · have HG := Lib.hid (zend_step (grp hi lo) m hmt)
          have HS := Lib.hid (zend_stop (grp hi lo) m hmt)
          have hmi : decide ((m : Int) < 8) = true := decide_eq_true (by omega)
          go_wp2_with fail
          refine (v6u16_any hi lo true m hmt _ hh hh2 hl hl2).mono ?_
          rintro e w3 ⟨rfl, hb3⟩
          have HB3 := Lib.hid hb3
          clear hb3
          cases hz : (grp hi lo m == 0)
          · have HZE : Hid (zend (grp hi lo) n = m) := Lib.hid (HZ.out.trans (HS.out (beq_eq_false_iff_ne.1 hz)))
            replace HM := Lib.hid (HM.out.trans (HB3.out.mono (by omega)))
            have h1 : (best (grp hi lo) n).1 ≤ 255 ∧ (best (grp hi lo) n).2 ≤ 255 ∧ (best (grp hi lo) n).1 ≤ (best (grp hi lo) n).2 := HBB.out
            have u1 : IntKind.u8.wrap ((m : Int) - (n : Int)) = (m : Int) - n := by rw [IntKind.wrap_u8]; omega
            have u2 : IntKind.u8.wrap (((best (grp hi lo) n).2 : Int) - ((best (grp hi lo) n).1 : Int)) = ((best (grp hi lo) n).2 : Int) - ((best (grp hi lo) n).1 : Int) := by rw [IntKind.wrap_u8]; omega
            clear h1
            by_cases k1 : 2 ≤ m - n
            · have d1 : decide ((2 : Int) ≤ (m : Int) - n) = true := decide_eq_true (by omega)
              have K1 := Lib.hid k1
              clear k1
              by_cases k2 : (best (grp hi lo) n).2 - (best (grp hi lo) n).1 < m - n
              · have d2 : decide (((best (grp hi lo) n).2 : Int) - ((best (grp hi lo) n).1 : Int) < (m : Int) - n) = true := decide_eq_true (by have := HBB.out; omega)
                have K2 := Lib.hid k2
                clear k2
                go_wp2_with fail
                go_roundw
                case rel =>
                  have e : best (grp hi lo) (n + 1) = (n, m) := by rw [best, HZE.out, if_pos ⟨K1.out, K2.out⟩]
                  exact ⟨n + 1, by omega, by go_num, by rw [e], by rw [e], HM.out⟩
                case measure => simp [intOf]; omega
              · have d2 : decide (((best (grp hi lo) n).2 : Int) - ((best (grp hi lo) n).1 : Int) < (m : Int) - n) = false := decide_eq_false (by have := HBB.out; have := K1.out; omega)
                have K2 := Lib.hid k2
                clear k2
                go_wp2_with fail
                go_roundw
                case rel =>
                  have e : best (grp hi lo) (n + 1) = best (grp hi lo) n := by rw [best, HZE.out, if_neg (fun h => K2.out h.2)]
                  exact ⟨n + 1, by omega, by go_num, by rw [e], by rw [e], HM.out⟩
                case measure => simp [intOf]; omega
            · have d1 : decide ((2 : Int) ≤ (m : Int) - n) = false := decide_eq_false (by omega)
              have K1 := Lib.hid k1
              clear k1
              go_wp2_with fail
              go_roundw
              case rel =>
                have e : best (grp hi lo) (n + 1) = best (grp hi lo) n := by rw [best, HZE.out, if_neg (fun h => K1.out h.1)]
                exact ⟨n + 1, by omega, by go_num, by rw [e], by rw [e], HM.out⟩
              case measure => simp [intOf]; omega
          · go_wp2_with fail
            go_roundw
            case rel => exact ⟨m + 1, by omega, by omega, by go_num, Lib.hid (HZ.out.trans (HG.out (eq_of_beq hz))), HM.out.trans (HB3.out.mono (by omega))⟩
            case measure => simp [intOf]; omega
        · obtain rfl : m = 8 := by omega
          have HZE : Hid (zend (grp hi lo) n = 8) := Lib.hid HZ.out
          have HM' := HM
          have h1 : (best (grp hi lo) n).1 ≤ 255 ∧ (best (grp hi lo) n).2 ≤ 255 ∧ (best (grp hi lo) n).1 ≤ (best (grp hi lo) n).2 := HBB.out
          have u1 : IntKind.u8.wrap (8 - (n : Int)) = 8 - n := by rw [IntKind.wrap_u8]; omega
          have u2 : IntKind.u8.wrap (((best (grp hi lo) n).2 : Int) - ((best (grp hi lo) n).1 : Int)) = ((best (grp hi lo) n).2 : Int) - ((best (grp hi lo) n).1 : Int) := by rw [IntKind.wrap_u8]; omega
          clear h1
          by_cases k1 : 2 ≤ 8 - n
          · have d1 : decide ((2 : Int) ≤ 8 - n) = true := decide_eq_true (by omega)
            have K1 := Lib.hid k1
            clear k1
            by_cases k2 : (best (grp hi lo) n).2 - (best (grp hi lo) n).1 < 8 - n
            · have d2 : decide (((best (grp hi lo) n).2 : Int) - ((best (grp hi lo) n).1 : Int) < 8 - n) = true := decide_eq_true (by have := HBB.out; omega)
              have K2 := Lib.hid k2
              clear k2
              go_wp2_with fail
              go_roundw
              case rel =>
                have e : best (grp hi lo) (n + 1) = (n, 8) := by rw [best, HZE.out, if_pos ⟨K1.out, K2.out⟩]
                exact ⟨n + 1, by omega, by go_num, by rw [e], by rw [e], HM.out⟩
              case measure => simp [intOf]; omega
            · have d2 : decide (((best (grp hi lo) n).2 : Int) - ((best (grp hi lo) n).1 : Int) < 8 - n) = false := decide_eq_false (by have := HBB.out; have := K1.out; omega)
              have K2 := Lib.hid k2
              clear k2
              go_wp2_with fail
              go_roundw
              case rel =>
                have e : best (grp hi lo) (n + 1) = best (grp hi lo) n := by rw [best, HZE.out, if_neg (fun h => K2.out h.2)]
                exact ⟨n + 1, by omega, by go_num, by rw [e], by rw [e], HM.out⟩
              case measure => simp [intOf]; omega
          · have d1 : decide ((2 : Int) ≤ 8 - n) = false := decide_eq_false (by omega)
            have K1 := Lib.hid k1
            clear k1
            go_wp2_with fail
            go_roundw
            case rel =>
              have e : best (grp hi lo) (n + 1) = best (grp hi lo) n := by rw [best, HZE.out, if_neg (fun h => K1.out h.1)]
              exact ⟨n + 1, by omega, by go_num, by rw [e], by rw [e], HM.out⟩
            case measure => simp [intOf]; omega
    · obtain rfl : n = 8 := by omega
      obtain ⟨wA, hwA⟩ : ∃ wA, wA = wr := ⟨_, rfl⟩
      subst hwA
      have hms := hbw.size
      simp only [World.size_alloc] at hms
      have q0 : wA.cell? ⟨w.heap.size, 0, none⟩ = some (.int .u64 hi) := (hbw.cell (p := ⟨w.heap.size, 0, none⟩) (by simp)).trans (by simp [go_sem])
      have q1 : wA.cell? ⟨w.heap.size, 1, none⟩ = some (.int .u64 lo) := (hbw.cell (p := ⟨w.heap.size, 1, none⟩) (by simp)).trans (by simp [go_sem])
      have q2 : wA.cell? ⟨w.heap.size, 2, none⟩ = some (.bool true) := (hbw.cell (p := ⟨w.heap.size, 2, none⟩) (by simp)).trans (by simp [go_sem])
      have q3 : wA.cell? ⟨w.heap.size, 3, none⟩ = some (.bool true) := (hbw.cell (p := ⟨w.heap.size, 3, none⟩) (by simp)).trans (by simp [go_sem])
      have q4 : wA.cell? ⟨w.heap.size, 4, none⟩ = some (.string ⟨#[]⟩) := (hbw.cell (p := ⟨w.heap.size, 4, none⟩) (by simp)).trans (by simp [go_sem])
      have HN := Lib.hid hbw
      have HBA := Lib.hid (HB.out.below (by rw [World.size_alloc]; exact HN.out))
      have HGB := Lib.hid (grown_trans HGA.out (grown_below (grown_refl _ g) (by rw [World.size_alloc]; exact HN.out)))
      clear hbw
      have HBD := Lib.hid (best_bd (grp hi lo) 8 (Nat.le_refl _))
      obtain ⟨zs, hzs⟩ : ∃ zs, zs = (best (grp hi lo) 8).1 := ⟨_, rfl⟩
      obtain ⟨ze, hze⟩ : ∃ ze, ze = (best (grp hi lo) 8).2 := ⟨_, rfl⟩
      have HZ : Hid ((zs = 255 ∧ ze = 255) ∨ (zs < ze ∧ ze ≤ 8 ∧ zs < 8)) := Lib.hid (by
        rcases HBD.out with h | h
        · left; rw [hzs, hze, h]; exact ⟨rfl, rfl⟩
        · right; rw [hzs, hze]; exact h)
      rw [← hzs, ← hze]
      have e8 : ((8 : Nat) : Int) = 8 := rfl
      rw [e8]
      have HZS := Lib.hid hzs
      have HZE := Lib.hid hze
      clear HBD hlt hn hzs hze
      have hsA : w.heap.size < wA.heap.size := by omega
      have hd8 : decide ((8 : Int) < 8) = false := by decide
      go_wp2
      go_loopw [1, 10] (fun r i wr => ∃ n : Nat, n ≤ 8 ∧ (n ≤ zs ∨ ze < n) ∧ i = .int .u8 n ∧ r = .slice (some ⟨g, 0, none⟩) (k + (pre (grp hi lo) zs ze n).length) cap ∧ R6 wA g cap k xs (grp hi lo) zs ze n wr) (fun _ i _ => 8 - (intOf i).toNat)
      case atStart => exact ⟨0, by omega, .inl (by omega), rfl, rfl, HBA.out.cast (by rw [pre_0]; rfl) (by rw [pre_0]; simp [vals]), grown_refl _ _⟩
      case round =>
        obtain ⟨n, hn, hnz, rfl, rfl, hB0, hG0⟩ := hrel
        have HNZ := Lib.hid hnz
        have HB0 := Lib.hid hB0
        have HG0 := Lib.hid hG0
        have hs0 := hG0.size
        clear hnz
        by_cases hlt : n < 8
        · have d0 : decide ((n : Int) < 8) = true := decide_eq_true (by omega)
          by_cases hz : n = zs
          · subst hz
            have HZ2 : Hid (n < ze ∧ ze ≤ 8) := Lib.hid (by have := HZ.out; omega)
            have e1 : ((n : Int) == (n : Int)) = true := beq_self_eq_true _
            by_cases h8 : ze = 8
            · subst h8
              have d1 : decide ((8 : Int) ≤ ((8 : Nat) : Int)) = true := by decide
              have HP8 := Lib.hid (pre_gap8 (grp hi lo) n hlt)
              have hr1 : k + (pre (grp hi lo) n 8 n).length + 2 ≤ cap := by
                have h := pre_len (grp hi lo) n 8 8 (.inr hlt) (Nat.le_refl _)
                rw [HP8.out] at h
                simp only [List.length_append, List.length_cons, List.length_nil] at h
                have := HCAP.out; omega
              have hsw : w.heap.size < wr.heap.size := by omega
              go_wp2_with (at_builtin; refine append2 rfl _ _ rfl rfl rfl hB0 hG0 rfl rfl (by omega) ?_; intro w1 hB1 hG1; have hc1 := fun b o (h : b < _) (hn : b ≠ g) => grown_cell hG1 (p := ⟨b, o, none⟩) h hn; have hf1 := fun b o (h : b < _) (hn : b ≠ g) => grown_frozen hG1 (p := ⟨b, o, none⟩) h hn; have hs1 := hG1.size)
              have hsw1 : w.heap.size < w1.heap.size := by omega
              have hq : ∀ i v, wA.cell? ⟨w.heap.size, i, none⟩ = some v → w1.cell? ⟨w.heap.size, i, none⟩ = some v := fun i v h => (hc1 _ _ hsA hne).trans h
              have p0 := hq _ _ q0
              have p1 := hq _ _ q1
              have p2 := hq _ _ q2
              have p3 := hq _ _ q3
              have p4 := hq _ _ q4
              clear hq
              go_wp2
              refine wp_region_quiet_below (by kernel_rfl) (by kernel_rfl) ?_
              repeat quiet_step (fail)
              quiet_step (with_reducible exact Calls.regrown_of (z6noz_any _))
              repeat quiet_step (fail)
              refine wpQuiet_nil ?_
              intro w2 hb2
              replace hb2 := below_of hb2
              obtain ⟨hc2, hf2⟩ := rules hb2
              have hs2 := hb2.size
              try simp only [World.size_alloc, World.size_setCell, World.size_drew] at hs2
              go_wp2
              go_ret
              have hlen : (pre (grp hi lo) n 8 8).length = (pre (grp hi lo) n 8 n).length + 2 := by
                rw [HP8.out]; simp
              refine ⟨?_, ?_, ?_⟩
              · exact ret_len (by rw [vals_length, ← HZS.out, ← HZE.out, hlen]; omega)
              · exact (hB1.below hb2).cast (by rw [vals_length, ← HZS.out, ← HZE.out, hlen]; omega) (by rw [← HZS.out, ← HZE.out, HP8.out, vals_append]; simp [vals, List.append_assoc])
              · exact grown_trans HGB.out (grown_below hG1 hb2)
            · have hze8 : ze < 8 := by have := HZ2.out; omega
              have d1 : decide ((8 : Int) ≤ (ze : Int)) = false := decide_eq_false (by omega)
              have HP := Lib.hid (pre_gap (grp hi lo) n ze HZ2.out.1)
              have HL : Hid ((pre (grp hi lo) n ze n).length + 2 + (hexV (grp hi lo ze)).length ≤ 42) := Lib.hid (by
                have h := pre_len (grp hi lo) n ze (ze + 1) (.inr HZ2.out.1) (by omega)
                rw [HP.out] at h
                rw [hexV_eq, vals_length]
                simp only [List.length_append, List.length_cons, List.length_nil] at h
                omega)
              have hx1 := hexV_len (grp hi lo ze)
              have hr1 : k + (pre (grp hi lo) n ze n).length + 2 + (hexV (grp hi lo ze)).length ≤ cap := by have := HL.out; have := HCAP.out; omega
              go_wp2_with (at_builtin; refine append2 rfl _ _ rfl rfl rfl hB0 hG0 rfl rfl (by omega) ?_; intro w1 hB1 hG1; have hc1 := fun b o (h : b < _) (hn : b ≠ g) => grown_cell hG1 (p := ⟨b, o, none⟩) h hn; have hf1 := fun b o (h : b < _) (hn : b ≠ g) => grown_frozen hG1 (p := ⟨b, o, none⟩) h hn; have hs1 := hG1.size)
              go_wp2_with fail
              refine (v6u16_any hi lo true ze hze8 _ hh hh2 hl hl2).mono ?_
              rintro e w2 ⟨rfl, hb2⟩
              have hG2 := grown_below hG1 hb2
              have hB2 := hB1.below hb2
              clear hb2
              have hc2 := fun b o (h : b < _) (hn : b ≠ g) => grown_cell hG2 (p := ⟨b, o, none⟩) h hn
              have hf2 := fun b o (h : b < _) (hn : b ≠ g) => grown_frozen hG2 (p := ⟨b, o, none⟩) h hn
              have hs2 := hG2.size
              clear hc1 hf1
              go_wp2_with fail
              refine (appendHex_any g cap _ _ _ _ (grp_bd hi lo ze).1 (grp_bd hi lo ze).2 hB2 hr1).mono ?_
              rintro e w3 ⟨rfl, hB3, hg3⟩
              have hG3 := grown_trans hG2 hg3
              clear hg3
              have hc3 := fun b o (h : b < _) (hn : b ≠ g) => grown_cell hG3 (p := ⟨b, o, none⟩) h hn
              have hf3 := fun b o (h : b < _) (hn : b ≠ g) => grown_frozen hG3 (p := ⟨b, o, none⟩) h hn
              have hs3 := hG3.size
              clear hc2 hf2
              have HB3 := Lib.hid hB3
              have HG3 := Lib.hid hG3
              clear hB3 hr1 hx1
              go_wp2_with fail
              go_roundw
              case rel =>
                have hlen : (pre (grp hi lo) n ze (ze + 1)).length = (pre (grp hi lo) n ze n).length + 2 + (hexV (grp hi lo ze)).length := by
                  rw [HP.out, hexV_eq, vals_length]; simp only [List.length_append, List.length_cons, List.length_nil]; omega
                refine ⟨ze + 1, by omega, .inr (by omega), by go_num, by rw [hlen]; congr 1; omega, HB3.out.cast (by rw [hlen]; omega) (by rw [HP.out, vals_append, vals_append, hexV_eq]; simp [vals, List.append_assoc]), HG3.out⟩
              case measure => simp [intOf]; have := HZ2.out; omega
          · have e1 : ((n : Int) == (zs : Int)) = false := beq_eq_false_iff_ne.2 (by omega)
            have HPL := Lib.hid (pre_len (grp hi lo) zs ze (n + 1) (by have := HNZ.out; have := HZ.out; omega) (by omega))
            by_cases hn0 : n = 0
            · subst hn0
              have HP := Lib.hid (pre_first (grp hi lo) zs ze (by omega))
              have d2 : decide ((0 : Int) < ((0 : Nat) : Int)) = false := by decide
              have HL : Hid ((pre (grp hi lo) zs ze 0).length + (hexV (grp hi lo 0)).length ≤ 42) := Lib.hid (by
                rw [pre_0]; have := (hexV_len (grp hi lo 0)).2; simp only [List.length_nil]; omega)
              have hx1 := hexV_len (grp hi lo 0)
              have hr1 : k + (pre (grp hi lo) zs ze 0).length + (hexV (grp hi lo 0)).length ≤ cap := by have := HL.out; have := HCAP.out; omega
              have hsw : w.heap.size < wr.heap.size := by omega
              have hq : ∀ i v, wA.cell? ⟨w.heap.size, i, none⟩ = some v → wr.cell? ⟨w.heap.size, i, none⟩ = some v := fun i v h => (grown_cell hG0 (p := ⟨w.heap.size, i, none⟩) (by simpa using hsA) (by simpa using hne)).trans h
              have p0 := hq _ _ q0
              have p1 := hq _ _ q1
              have p2 := hq _ _ q2
              have p3 := hq _ _ q3
              have p4 := hq _ _ q4
              clear hq
              go_wp2_with fail
              refine (v6u16_any hi lo true 0 hlt _ hh hh2 hl hl2).mono ?_
              rintro e w1 ⟨rfl, hb1⟩
              have hG1 := grown_below hG0 hb1
              have hB1 := hB0.below hb1
              clear hb1
              have hc1 := fun b o (h : b < _) (hn : b ≠ g) => grown_cell hG1 (p := ⟨b, o, none⟩) h hn
              have hf1 := fun b o (h : b < _) (hn : b ≠ g) => grown_frozen hG1 (p := ⟨b, o, none⟩) h hn
              have hs1 := hG1.size
              go_wp2_with fail
              refine (appendHex_any g cap _ _ _ _ (grp_bd hi lo 0).1 (grp_bd hi lo 0).2 hB1 hr1).mono ?_
              rintro e w2 ⟨rfl, hB2, hg2⟩
              have hG2 := grown_trans hG1 hg2
              clear hg2
              have hc2 := fun b o (h : b < _) (hn : b ≠ g) => grown_cell hG2 (p := ⟨b, o, none⟩) h hn
              have hf2 := fun b o (h : b < _) (hn : b ≠ g) => grown_frozen hG2 (p := ⟨b, o, none⟩) h hn
              have hs2 := hG2.size
              clear hc1 hf1
              have HB3 := Lib.hid hB2
              have HG3 := Lib.hid hG2
              clear hB2 hr1 hx1
              go_wp2_with fail
              go_roundw
              case rel =>
                refine ⟨1, by omega, by have := HZ.out; omega, by go_num, by rw [HP.out, pre_0, hexV_eq, vals_length]; rfl, HB3.out.cast (by rw [HP.out, pre_0, hexV_eq, vals_length]; rfl) (by rw [HP.out, pre_0, hexV_eq]; simp [vals, List.append_assoc]), HG3.out⟩
              case measure => simp [intOf]
            · have d2 : decide ((0 : Int) < (n : Int)) = true := decide_eq_true (by omega)
              have HP := Lib.hid (pre_next (grp hi lo) zs ze n hz (by omega) (by have := HNZ.out; omega))
              have HL : Hid ((pre (grp hi lo) zs ze n).length + 1 + (hexV (grp hi lo n)).length ≤ 42) := Lib.hid (by
                have h := HPL.out
                rw [HP.out] at h
                rw [hexV_eq, vals_length]
                simp only [List.length_append, List.length_cons, List.length_nil] at h
                omega)
              have hx1 := hexV_len (grp hi lo n)
              have hr1 : k + (pre (grp hi lo) zs ze n).length + 1 + (hexV (grp hi lo n)).length ≤ cap := by have := HL.out; have := HCAP.out; omega
              go_wp2_with (at_builtin; refine append1 rfl _ _ rfl rfl rfl hB0 hG0 rfl (by omega) ?_; intro w1 hB1 hG1; have hc1 := fun b o (h : b < _) (hn : b ≠ g) => grown_cell hG1 (p := ⟨b, o, none⟩) h hn; have hf1 := fun b o (h : b < _) (hn : b ≠ g) => grown_frozen hG1 (p := ⟨b, o, none⟩) h hn; have hs1 := hG1.size)
              go_wp2_with fail
              refine (v6u16_any hi lo true n hlt _ hh hh2 hl hl2).mono ?_
              rintro e w2 ⟨rfl, hb2⟩
              have hG2 := grown_below hG1 hb2
              have hB2 := hB1.below hb2
              clear hb2
              have hc2 := fun b o (h : b < _) (hn : b ≠ g) => grown_cell hG2 (p := ⟨b, o, none⟩) h hn
              have hf2 := fun b o (h : b < _) (hn : b ≠ g) => grown_frozen hG2 (p := ⟨b, o, none⟩) h hn
              have hs2 := hG2.size
              clear hc1 hf1
              go_wp2_with fail
              refine (appendHex_any g cap _ _ _ _ (grp_bd hi lo n).1 (grp_bd hi lo n).2 hB2 hr1).mono ?_
              rintro e w3 ⟨rfl, hB3, hg3⟩
              have hG3 := grown_trans hG2 hg3
              clear hg3
              have hc3 := fun b o (h : b < _) (hn : b ≠ g) => grown_cell hG3 (p := ⟨b, o, none⟩) h hn
              have hf3 := fun b o (h : b < _) (hn : b ≠ g) => grown_frozen hG3 (p := ⟨b, o, none⟩) h hn
              have hs3 := hG3.size
              clear hc2 hf2
              have HB3 := Lib.hid hB3
              have HG3 := Lib.hid hG3
              clear hB3 hr1 hx1
              go_wp2_with fail
              go_roundw
              case rel =>
                have hlen : (pre (grp hi lo) zs ze (n + 1)).length = (pre (grp hi lo) zs ze n).length + 1 + (hexV (grp hi lo n)).length := by
                  rw [HP.out, hexV_eq, vals_length]; simp only [List.length_append, List.length_cons, List.length_nil]; omega
                refine ⟨n + 1, by omega, by have := HNZ.out; omega, by go_num, by rw [hlen]; congr 1; omega, HB3.out.cast (by rw [hlen]; omega) (by rw [HP.out, vals_append, vals_append, hexV_eq]; simp [vals, List.append_assoc]), HG3.out⟩
              case measure => simp [intOf]; omega
        · obtain rfl : n = 8 := by omega
          have e8 : ((8 : Nat) : Int) = 8 := rfl
          rw [e8]
          have hsw : w.heap.size < wr.heap.size := by omega
          have hq : ∀ i v, wA.cell? ⟨w.heap.size, i, none⟩ = some v → wr.cell? ⟨w.heap.size, i, none⟩ = some v := fun i v h => (grown_cell hG0 (p := ⟨w.heap.size, i, none⟩) (by simpa using hsA) (by simpa using hne)).trans h
          have p0 := hq _ _ q0
          have p1 := hq _ _ q1
          have p2 := hq _ _ q2
          have p3 := hq _ _ q3
          have p4 := hq _ _ q4
          clear hq
          go_wp2
          refine wp_region_quiet_below (by kernel_rfl) (by kernel_rfl) ?_
          repeat quiet_step (fail)
          quiet_step (with_reducible exact Calls.regrown_of (z6noz_any _))
          repeat quiet_step (fail)
          refine wpQuiet_nil ?_
          intro w2 hb2
          replace hb2 := below_of hb2
          obtain ⟨hc2, hf2⟩ := rules hb2
          have hs2 := hb2.size
          try simp only [World.size_alloc, World.size_setCell, World.size_drew] at hs2
          go_wp2
          go_ret
          refine ⟨?_, ?_, ?_⟩
          · exact ret_len (by rw [vals_length, ← HZS.out, ← HZE.out])
          · exact (hB0.below hb2).cast (by rw [vals_length, ← HZS.out, ← HZE.out]) (by rw [← HZS.out, ← HZE.out])
          · exact grown_trans HGB.out (grown_below hG0 hb2)
end Go.Proofs.YtkploaapcpjkbaaGreatDoor
