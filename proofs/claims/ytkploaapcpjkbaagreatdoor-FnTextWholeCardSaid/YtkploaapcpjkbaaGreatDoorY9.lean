/- Contract: the reference's Form, the last four bytes in decimal. -/
import Derived.Test.YtkploaapcpjkbaaGreatDoorY8
namespace Go.Proofs.YtkploaapcpjkbaaGreatDoor
open Go Go.RowKit Go.Sort
set_option linter.unusedVariables false
set_option linter.unusedSimpArgs false
attribute [local go_sem] cell_gr

theorem jtT_len (t : Nat → List UInt8) (ht : ∀ i, (t i).length ≤ 4) (n : Nat) (h : n ≤ 8) (T : List (List UInt8)) (hT : T.length ≤ 1 ∧ ∀ x ∈ T, x.length ≤ 15) : (jn (texts t n ++ T)).length ≤ 60 := by
  have h1 := jtf_len t ht n h
  obtain ⟨hl, hx⟩ := hT
  match T, hl, hx with
  | [], _, _ => rw [List.append_nil]; omega
  | [x], _, hx =>
    have := hx x (by simp)
    by_cases e : texts t n = []
    · rw [e, List.nil_append, jn_one]; omega
    · rw [jn_snoc _ _ e]
      simp only [List.length_append, List.length_cons, List.length_nil]
      omega

set_option maxRecDepth 100000 in
set_option maxHeartbeats 6400000 in
theorem form6_any (hi lo way : Int) (w : World) (hh : 0 ≤ hi) (hh2 : hi < 18446744073709551616) (hl : 0 ≤ lo) (hl2 : lo < 18446744073709551616) (hw : 0 ≤ way) (hw2 : way < 18446744073709551616) (hT : Laid w) (H60 : (way / 1152921504606846976 % 2 == 1) = true) :
    Calls Tryz.prog 7 #[.agg #[.bool true, .int .u64 (hi), .int .u64 (lo)], .int .u64 way] w fun e w' => (∃ a l, Run (grp hi lo) 6 a l ∧ e = .returned (.string (bs (ftext (grp hi lo) way 6 a l [quadU lo])))) ∧ Below w.heap.size w w' := by
  have HB0 := Lib.hid ((Below.refl w.heap.size w).alloc (Nat.le_refl _) (.cells #[.bool true, .int .u64 hi, .int .u64 lo] 24))
  have HT := Lib.hid hT
  have HG := groups_any hi lo hh hh2 hl hl2
  have HGB := Lib.hid (grp_bd hi lo)
  unfold g8 at HG
  clear hT
  go_enter Tryz.func7, Tryz.ntmps7
  go_wp2_with fail
  refine (HG.at _).mono ?_
  rintro e w1 ⟨rfl, hb1⟩
  obtain ⟨hc1, hf1⟩ := rulesB (B := w.heap.size + 1) hb1 (by first | omega | (simp only [World.size_alloc, World.size_setCell, World.size_drew]; omega))
  have hs1 := hb1.size
  try simp only [World.size_alloc, World.size_setCell, World.size_drew] at hs1
  have hz1 : w.heap.size < w1.heap.size := by omega
  have HB1 := Lib.hid (HB0.out.trans (hb1.mono (by simp)))
  clear hb1
  have HBV := Lib.hid (HB1.out.trans (((Below.refl w1.heap.size w1).alloc (Nat.le_refl _) (.cells #[.int .u16 (grp hi lo 0), .int .u16 (grp hi lo 1), .int .u16 (grp hi lo 2), .int .u16 (grp hi lo 3), .int .u16 (grp hi lo 4), .int .u16 (grp hi lo 5), .int .u16 (grp hi lo 6), .int .u16 (grp hi lo 7)] 45)).mono (by omega)))
  go_wp2_with fail
  refine (dotted_any true hi lo _ hl hl2 (HT.out.below HBV.out)).mono ?_
  rintro e W ⟨rfl, hb2⟩
  have HC : ∀ i, i < 8 → W.cell? ⟨w1.heap.size, i, none⟩ = some (.int .u16 (grp hi lo i)) := fun i hi => by
    refine (hb2.cell (p := ⟨w1.heap.size, i, none⟩) (by simp)).trans ?_
    match i, hi with
    | 0, _ | 1, _ | 2, _ | 3, _ | 4, _ | 5, _ | 6, _ | 7, _ => simp [go_sem]
    | n + 8, h => exact absurd h (by omega)
  have HBW := HBV.out.trans (hb2.mono (by simp; omega))
  have hbs : w1.heap.size < W.heap.size := by have := hb2.size; simp only [World.size_alloc] at this; omega
  clear hb2 hc1 hf1
  go_upto_block 0 with fail
  obtain ⟨b, hb⟩ : ∃ b, b = w1.heap.size := ⟨_, rfl⟩
  rw [← hb] at HC hbs ⊢
  have HCH := Lib.hid HC
  have HBH := Lib.hid HBW
  clear HC HBW hb
  obtain ⟨s, hs, hs8⟩ : ∃ s : Nat, way / 72057594037927936 % 8 = s ∧ s < 8 := ⟨(way / 72057594037927936 % 8).toNat, by omega, by omega⟩
  obtain ⟨q, hq, hq8⟩ : ∃ q : Nat, way / 4503599627370496 % 8 = q ∧ q < 8 := ⟨(way / 4503599627370496 % 8).toNat, by omega, by omega⟩
  go_cut [8, 9, 10, 11] from 29 to 72 (fun s8 s9 _ _ wx => wx = W ∧ ∃ a l : Nat, s8 = .int .i64 a ∧ s9 = .int .i64 l ∧ Run (grp hi lo) 6 a l)
  case first =>
    go_wp2_with fail
    go_loop [8, 9, 29] (fun a l k => a = .int .i64 8 ∧ l = .int .i64 0 ∧ ∃ n : Nat, n ≤ 8 ∧ k = .int .i64 n) (fun _ _ k => 8 - (intOf k).toNat)
    case atStart => exact ⟨rfl, rfl, 0, by omega, rfl⟩
    case round =>
      obtain ⟨rfl, rfl, n, hn, rfl⟩ := hrel
      by_cases hlt : n < 8
      · have hni : decide ((n : Int) < 8) = true := decide_eq_true (by omega)
        obtain ⟨p, hp⟩ : ∃ p : Nat, p = (n + s) % 8 := ⟨_, rfl⟩
        have hp8 : p < 8 := by omega
        have hp1 : ((n : Int) + s) % 8 = p := by omega
        have hp2 : ((n : Int) + s).tmod 8 = p := by rw [Int.tmod_eq_emod_of_nonneg (by omega)]; exact hp1
        have hck := HCH.out p hp8
        clear hp
        by_cases hp6 : p < 6
        case neg =>
          have hpm : decide ((p : Int) < 6) = false := decide_eq_false (by omega)
          go_wp2_with fail
          go_round
          case rel => exact ⟨rfl, rfl, n + 1, by omega, by go_num⟩
          case measure => simp [intOf]; omega
        have hpm : decide ((p : Int) < 6) = true := decide_eq_true (by omega)
        cases hz : (grp hi lo p == 0)
        · go_wp2_with fail
          go_round
          case rel => exact ⟨rfl, rfl, n + 1, by omega, by go_num⟩
          case measure => simp [intOf]; omega
        · have HZ := Lib.hid (eq_of_beq hz)
          go_wp2_with fail
          go_loop [9] (fun c => ∃ m : Nat, p + m ≤ 6 ∧ c = .int .i64 m ∧ Hid (∀ j, p ≤ j → j < p + m → grp hi lo j = 0)) (fun c => 6 - (intOf c).toNat)
          case atStart => exact ⟨0, by omega, rfl, Lib.hid fun j h1 h2 => by omega⟩
          case round =>
            obtain ⟨m, hm, rfl, HZR⟩ := hrel
            by_cases hmt : p + m < 6
            · have hmi : decide ((p : Int) + (m : Int) < 6) = true := decide_eq_true (by omega)
              have hcm := HCH.out (p + m) (by omega)
              cases hz2 : (grp hi lo (p + m) == 0)
              · have HZ2 := Lib.hid (beq_eq_false_iff_ne.1 hz2)
                go_wp2_with fail
                go_meet
                exact ⟨rfl, p, m, rfl, rfl, .inr ⟨by
                  rcases Nat.eq_zero_or_pos m with h | h
                  · subst h; exact absurd HZ.out HZ2.out
                  · exact h, hm, HZR.out⟩⟩
              · have HZ2 := Lib.hid (eq_of_beq hz2)
                by_cases hmq : m ≤ q
                · have hqi : decide ((m : Int) ≤ (q : Int)) = true := decide_eq_true (by omega)
                  go_wp2_with fail
                  go_round
                  case rel => exact ⟨m + 1, by omega, by go_num, Lib.hid fun j h1 h2 => by
                    by_cases e : j = p + m
                    · rw [e]; exact HZ2.out
                    · exact HZR.out j h1 (by omega)⟩
                  case measure => simp [intOf]; omega
                · have hqi : decide ((m : Int) ≤ (q : Int)) = false := decide_eq_false (by omega)
                  go_wp2_with fail
                  go_meet
                  exact ⟨rfl, p, m, rfl, rfl, .inr ⟨by omega, hm, HZR.out⟩⟩
            · have hmi : decide ((p : Int) + (m : Int) < 6) = false := decide_eq_false (by omega)
              go_wp2_with fail
              go_meet
              exact ⟨rfl, p, m, rfl, rfl, .inr ⟨by omega, hm, HZR.out⟩⟩
      · obtain rfl : n = 8 := by omega
        go_wp2_with fail
        go_meet
        exact ⟨rfl, 8, 0, rfl, rfl, .inl ⟨rfl, rfl⟩⟩
  case rest =>
    obtain ⟨rfl, a0, l0, rfl, rfl, hrun⟩ := hcut
    have HR0 := Lib.hid hrun
    clear hrun
    go_upto_if 76 with fail
    go_cut [8, 9] from 77 to 77 (fun s8 s9 wx => wx = wc ∧ ∃ a l : Nat, s8 = .int .i64 a ∧ s9 = .int .i64 l ∧ Run (grp hi lo) 6 a l)
    case first =>
      go_wp2_with fail
      all_goals go_meet
      · exact ⟨rfl, 8, 0, rfl, rfl, .inl ⟨rfl, rfl⟩⟩
      · exact ⟨rfl, a0, l0, rfl, rfl, HR0.out⟩
    case rest =>
      obtain ⟨rfl, a, l, rfl, rfl, hrun⟩ := hcut
      have HR := Lib.hid hrun
      have hal : a + l ≤ 8 := by rcases hrun with h | h <;> omega
      clear hrun HR0
      go_wp2_with fail
      go_loopw [12, 13, 78] (fun h bk i wr => ∃ n : Nat, n ≤ 6 ∧ i = .int .i64 n ∧ R3 wc (fm (grp hi lo) way) a l n h bk wr) (fun _ _ i _ => 6 - (intOf i).toNat)
      case atStart => exact ⟨0, by omega, rfl, R3.start _ _ _ _⟩
      case round =>
        obtain ⟨n, hn, rfl, r⟩ := hrel
        have R := Lib.hid r
        have hsz := r.below.size
        clear r
        by_cases hlt : n < 6
        · have hni : decide ((n : Int) < 6) = true := decide_eq_true (by omega)
          have hck : wr.cell? ⟨b, n, none⟩ = some (.int .u16 (grp hi lo n)) := (R.out.below.cell (p := ⟨b, n, none⟩) hbs).trans (HCH.out n (by omega))
          have hbw : b < wr.heap.size := by omega
          have hsh0 : 0 ≤ way / 2 ^ (6 * n) := Int.ediv_nonneg hw (by exact_mod_cast Nat.zero_le _)
          have hsh1 : way / 2 ^ (6 * n) < 18446744073709551616 := Int.lt_of_le_of_lt (Int.ediv_le_self _ hw) hw2
          have HLR := Lib.hid (HT.out.below (HBH.out.trans (R.out.below.mono HBH.out.size)))
          have hli : (n : Int) < 8 := by omega
          go_wp2_with fail
          have hw6 : IntKind.i64.wrap (6 * (n : Int)) = 6 * n := by rw [IntKind.wrap_i64]; omega
          have hsf : (6 * (n : Int)).toNat = 6 * n := by omega
          refine wp_region_quiet_below (by kernel_rfl) (by kernel_rfl) ?_
          repeat quiet_step (fail)
          quiet_step (with_reducible exact Calls.regrown_of (form_any (grp hi lo n) (way / 2 ^ (6 * n)) _ (HLR.out.below (below_regrown _ _ _)) (HGB.out n).1 (HGB.out n).2 hsh0 hsh1))
          repeat quiet_step (fail)
          refine wpQuiet_nil ?_
          intro w4 hb4
          replace hb4 := below_of hb4
          obtain ⟨hc4, hf4⟩ := rules hb4
          have hs4 := hb4.size
          try simp only [World.size_alloc, World.size_setCell, World.size_drew] at hs4
          have HR4 := Lib.hid (R.out.under hb4)
          have hsz4 := HR4.out.below.size
          have hlf := fm_len (grp hi lo) way hw
          clear hb4 hc4 hf4 hsf
          by_cases hna : n < a
          · have d1 : decide ((n : Int) < (a : Int)) = true := decide_eq_true (by omega)
            have hO := HR4.out.head
            go_wp2_with (at_builtin; refine appendStr (fm (grp hi lo) way n) rfl _ _ rfl rfl rfl hO (by omega) (by rw [texts_length]; omega) ?_; intro v5 w5 hO5 hb5 hg5; have HN := Lib.hid (HR4.out.first hna hO5 hb5); clear hO hO5 hb5 hg5)
            go_roundw
            case rel => exact ⟨n + 1, by omega, by go_num, HN.out⟩
            case measure => simp [intOf]; omega
          · have d1 : decide ((n : Int) < (a : Int)) = false := decide_eq_false (by omega)
            by_cases hnl : a + l ≤ n
            · have d2 : decide ((a : Int) + (l : Int) ≤ (n : Int)) = true := decide_eq_true (by omega)
              obtain ⟨B2, hO, q1, q2, q3⟩ := HR4.out.back
              have Q3 := Lib.hid q3
              go_wp2_with (at_builtin; refine appendStr (fm (grp hi lo) way n) rfl _ _ rfl rfl rfl hO q2 (by rw [texts_length]; omega) ?_; intro v5 w5 hO5 hb5 hg5; have HN := Lib.hid (HR4.out.second hnl hO q1 q2 Q3.out hO5 hb5 hg5); clear hO hO5 hb5 hg5)
              go_roundw
              case rel => exact ⟨n + 1, by omega, by go_num, HN.out⟩
              case measure => simp [intOf]; omega
            · have d2 : decide ((a : Int) + (l : Int) ≤ (n : Int)) = false := decide_eq_false (by omega)
              have HN := Lib.hid (HR4.out.skip (by omega) (by omega))
              go_wp2_with fail
              go_roundw
              case rel => exact ⟨n + 1, by omega, by go_num, HN.out⟩
              case measure => simp [intOf]; omega
        · obtain rfl : n = 6 := by omega
          have e8 : ((6 : Nat) : Int) = 6 := rfl
          rw [e8]
          have hlf := fm_len (grp hi lo) way hw
          obtain ⟨B2, hOb, q1, q2, q3⟩ := R.out.back
          have HOB := Lib.hid hOb
          have HOH := Lib.hid R.out.head
          have Q3 := Lib.hid q3
          have hq := quad_len lo
          rw [quad_vals, vals_length] at hq
          have j1 := jtT_len (fm (grp hi lo) way) (fun i => (hlf i).2) (min 6 a) (by omega) (if a < 8 then [] else [quadU lo]) (by split <;> simp <;> omega)
          have j2 := jtT_len (fun j => fm (grp hi lo) way (a + l + j)) (fun i => (hlf _).2) (6 - (a + l)) (by omega) (if a < 8 then [quadU lo] else []) (by split <;> simp <;> omega)
          have hne : (bs (quadU lo)).toList.isEmpty = false := by
            rw [Lib.toList_data, bs_toList]
            simp [quadU]
          clear hOb q3
          have g3 : (bs [58, 58]).size = 2 := rfl
          have g4 : (bs []).size = 0 := rfl
          by_cases ha : a < 8
          · have d1 : decide ((a : Int) < 8) = true := decide_eq_true (by omega)
            simp only [if_pos ha] at j1 j2
            have g1 : (bs (jn (texts (fm (grp hi lo) way) (min 6 a)))).size ≤ 100 := by rw [bs_size]; simp only [List.append_nil] at j1; omega
            have g2 : (bs (jn (texts (fun j => fm (grp hi lo) way (a + l + j)) (6 - (a + l)) ++ [quadU lo]))).size ≤ 100 := by rw [bs_size]; omega
            have hO := HOB.out
            go_wp2_with (at_builtin; refine appendStr (quadU lo) rfl _ _ rfl rfl rfl hO q2 (by rw [texts_length]; omega) ?_; intro v5 w5 hO5 hb5 hg5; have HO5 := Lib.hid hO5; have HH5 := Lib.hid (HOH.out.beside hg5 (apart_of hO Q3.out)); have HB5 := Lib.hid (R.out.below.trans (hb5.mono q1)); clear hO hO5 hb5 hg5)
            refine (join58 _ _ _ _ HH5.out (by rw [texts_length]; omega) (texts_mem _ _ _ fun i => by have := (hlf i).2; omega)).mono ?_
            rintro e w6 ⟨rfl, hb6⟩
            have HO6 := Lib.hid (HO5.out.below hb6)
            have HB6 := Lib.hid (HB5.out.trans (hb6.mono HB5.out.size))
            clear hb6
            go_wp2_with fail
            refine (mark_lt _ (by omega) _).mono ?_
            rintro e w7 ⟨rfl, hw7⟩
            subst hw7
            go_wp2_with fail
            refine (join58 _ _ _ _ HO6.out (by rw [List.length_append, texts_length]; simp; omega) (fun x hx => by
              rcases List.mem_append.1 hx with h | h
              · exact texts_mem _ _ 100 (fun i => by have := (hlf (a + l + i)).2; omega) x h
              · simp at h; subst h; omega)).mono ?_
            rintro e w8 ⟨rfl, hb8⟩
            have HB8 := Lib.hid (HB6.out.trans (hb8.mono HB6.out.size))
            clear hb8
            go_wp2
            go_ret
            refine ⟨⟨a, l, HR.out, ?_⟩, HBH.out.trans (HB8.out.mono HBH.out.size)⟩
            show Ending.returned (.string (bs (jn (texts (fm (grp hi lo) way) (min 6 a))) ++ bs [58, 58] ++ bs (jn (texts (fun j => fm (grp hi lo) way (a + l + j)) (6 - (a + l)) ++ [quadU lo])))) = _
            rw [bs_append, bs_append, ftext]; simp only [if_pos ha, List.append_nil]
          · have d1 : decide ((a : Int) < 8) = false := decide_eq_false (by omega)
            simp only [if_neg ha] at j1 j2
            have g1 : (bs (jn (texts (fm (grp hi lo) way) (min 6 a) ++ [quadU lo]))).size ≤ 100 := by rw [bs_size]; omega
            have g2 : (bs (jn (texts (fun j => fm (grp hi lo) way (a + l + j)) (6 - (a + l))))).size ≤ 100 := by rw [bs_size]; simp only [List.append_nil] at j2; omega
            have hO := HOH.out
            have hbk := R.out.nilb (by omega)
            subst hbk
            have ht : texts (fun j => fm (grp hi lo) way (a + l + j)) (6 - (a + l)) = [] := by rw [show 6 - (a + l) = 0 by omega]; rfl
            have HTX := Lib.hid ht
            clear ht
            go_wp2_with (at_builtin; refine appendStr (quadU lo) rfl _ _ rfl rfl rfl hO (by omega) (by rw [texts_length]; omega) ?_; intro v5 w5 hO5 hb5 hg5; have HH5 := Lib.hid hO5; have HB5 := Lib.hid (R.out.below.trans hb5); clear hO hO5 hb5 hg5)
            refine (join58 _ _ _ _ HH5.out (by rw [List.length_append, texts_length]; simp; omega) (fun x hx => by
              rcases List.mem_append.1 hx with h | h
              · exact texts_mem _ _ 100 (fun i => by have := (hlf i).2; omega) x h
              · simp at h; subst h; omega)).mono ?_
            rintro e w6 ⟨rfl, hb6⟩
            have HB6 := Lib.hid (HB5.out.trans (hb6.mono HB5.out.size))
            clear hb6
            go_wp2_with fail
            refine (mark_ge _ (by omega) _).mono ?_
            rintro e w7 ⟨rfl, hw7⟩
            subst hw7
            go_wp2_with fail
            refine (join58 (texts (fun j => fm (grp hi lo) way (a + l + j)) (6 - (a + l))) w7 0 _ (by rw [HTX.out]; exact ownS_nil _ _) (by rw [texts_length]; omega) (texts_mem _ _ _ fun i => by have := (hlf (a + l + i)).2; omega)).mono ?_
            rintro e w8 ⟨rfl, hb8⟩
            have HB8 := Lib.hid (HB6.out.trans (hb8.mono HB6.out.size))
            clear hb8
            go_wp2
            go_ret
            refine ⟨⟨a, l, HR.out, ?_⟩, HBH.out.trans (HB8.out.mono HBH.out.size)⟩
            show Ending.returned (.string (bs (jn (texts (fm (grp hi lo) way) (min 6 a) ++ [quadU lo])) ++ bs [] ++ bs (jn (texts (fun j => fm (grp hi lo) way (a + l + j)) (6 - (a + l)))))) = _
            rw [bs_append, bs_append, ftext]; simp only [if_neg ha, List.append_nil]
end Go.Proofs.YtkploaapcpjkbaaGreatDoor
