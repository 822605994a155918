/- Contract: the reference's Form. -/
import Derived.Test.YtkploaapcpjkbaaGreatDoorY7
import Derived.Deep.CutBlock
namespace Go.Proofs.YtkploaapcpjkbaaGreatDoor
open Go Go.RowKit Go.Sort
set_option linter.unusedVariables false
set_option linter.unusedSimpArgs false
attribute [local go_sem] cell_gr

/-- A run of zeros among the first 'many' groups, or none. -/
def Run (G : Nat → Int) (many a l : Nat) : Prop := (a = 8 ∧ l = 0) ∨ (1 ≤ l ∧ a + l ≤ many ∧ ∀ j, a ≤ j → j < a + l → G j = 0)

theorem shr_any (way : Int) (n : Nat) (h : 6 * n ≤ 64) (W : World) : (Op.shift .shr .u64 way .i64 (6 * (n : Int))).run Tryz.prog W = .ok (.int .u64 (way / 2 ^ (6 * n))) W := by
  rw [shift_shr_any _ _ _ _ (by omega)]
  have e : min (6 * (n : Int)).toNat IntKind.u64.bits = 6 * n := by
    show min (6 * (n : Int)).toNat 64 = 6 * n
    omega
  rw [e]; rfl

/-- The i-th group as Form writes it. -/
def fm (G : Nat → Int) (way : Int) (i : Nat) : List UInt8 := formU (G i) (way / 2 ^ (6 * i))
theorem upper_len (l : List UInt8) : (Lib.toUpperA l).length = l.length := by simp [Lib.toUpperA]
theorem fm_len (G : Nat → Int) (way : Int) (hw : 0 ≤ way) (i : Nat) : 1 ≤ (fm G way i).length ∧ (fm G way i).length ≤ 4 := by
  have h : 0 ≤ way / 2 ^ (6 * i) := Int.ediv_nonneg hw (by exact_mod_cast Nat.zero_le _)
  have := zform_len (G i) (way / 2 ^ (6 * i)) h
  unfold fm formU
  split
  · rw [upper_len]; exact this
  · exact this
/-- The whole text: the run is left out; T: the last four bytes in decimal, if they are written so. -/
def ftext (G : Nat → Int) (way : Int) (many a l : Nat) (T : List (List UInt8)) : List UInt8 :=
  jn (texts (fm G way) (min many a) ++ (if a < 8 then [] else T)) ++ (if a < 8 then [58, 58] else []) ++ jn (texts (fun j => fm G way (a + l + j)) (many - (a + l)) ++ (if a < 8 then T else []))

theorem join58 (xs : List (List UInt8)) (w : World) (B : Nat) (v : Value) (hO : OwnS w B v xs) (hn : xs.length ≤ 100) (hx : ∀ x ∈ xs, x.length ≤ 100) :
    Calls Tryz.prog 19 #[v, .string ⟨#[58]⟩] w fun e w' => e = .returned (.string (bs (jn xs))) ∧ Below w.heap.size w w' :=
  join_own xs [58] _ rfl w B v hO hn hx (by simp)
theorem jtf_len (t : Nat → List UInt8) (ht : ∀ i, (t i).length ≤ 4) (n : Nat) (h : n ≤ 8) : (jn (texts t n)).length ≤ 40 := by
  have := jn_len (texts t n) (texts_mem _ _ _ ht)
  rw [texts_length] at this; omega
theorem apart_of {w : World} {B : Nat} {v v' : Value} {xs : List (List UInt8)} (hO : OwnS w B v' xs) (h : ∀ k, v.ownBlock = some k → k < B) : ApartS v v' := by
  cases hv : v.ownBlock with
  | none => exact .inl hv
  | some k =>
    right
    rw [hv]
    intro e
    have := (World.ownsRow.lt hO k e.symm).1
    have := h k hv
    omega

/-- How the third loop stands ahead of the n-th group. -/
structure R3 (W : World) (fm : Nat → List UInt8) (a l n : Nat) (h bk : Value) (wr : World) : Prop where
  head : OwnS wr W.heap.size h (texts fm (min n a))
  back : ∃ B2, OwnS wr B2 bk (texts (fun j => fm (a + l + j)) (n - (a + l))) ∧ W.heap.size ≤ B2 ∧ B2 ≤ wr.heap.size ∧ ∀ k, h.ownBlock = some k → k < B2
  nilb : n ≤ a + l → bk = .slice none 0 0
  below : Below W.heap.size W wr
theorem R3.start (W : World) (fm : Nat → List UInt8) (a l : Nat) : R3 W fm a l 0 (.slice none 0 0) (.slice none 0 0) W :=
  ⟨by rw [Nat.zero_min]; exact ownS_nil _ _, ⟨W.heap.size, by rw [Nat.zero_sub]; exact ownS_nil _ _, Nat.le_refl _, Nat.le_refl _, fun k hk => by cases hk⟩, fun _ => rfl, Below.refl _ _⟩
theorem R3.under {W : World} {fm : Nat → List UInt8} {a l n : Nat} {h bk : Value} {wr w1 : World} (r : R3 W fm a l n h bk wr) (hb : Below wr.heap.size wr w1) : R3 W fm a l n h bk w1 := by
  obtain ⟨B2, h1, h2, h3, h4⟩ := r.back
  exact ⟨r.head.below hb, ⟨B2, h1.below hb, h2, Nat.le_trans h3 hb.size, h4⟩, r.nilb, r.below.trans (hb.mono r.below.size)⟩
theorem R3.skip {W : World} {fm : Nat → List UInt8} {a l n : Nat} {h bk : Value} {wr : World} (r : R3 W fm a l n h bk wr) (h1 : a ≤ n) (h2 : n < a + l) : R3 W fm a l (n + 1) h bk wr := by
  obtain ⟨B2, h3, h4⟩ := r.back
  refine ⟨?_, ⟨B2, ?_, h4⟩, fun _ => r.nilb (by omega), r.below⟩
  · rw [show min (n + 1) a = min n a by omega]; exact r.head
  · rw [show n + 1 - (a + l) = n - (a + l) by omega]; exact h3
theorem R3.first {W : World} {fm : Nat → List UInt8} {a l n : Nat} {h h' bk : Value} {wr w1 : World} (r : R3 W fm a l n h bk wr) (h1 : n < a) (hO : OwnS w1 W.heap.size h' (texts fm (min n a) ++ [fm n])) (hb : Below W.heap.size wr w1) : R3 W fm a l (n + 1) h' bk w1 := by
  have e := r.nilb (by omega)
  subst e
  refine ⟨?_, ⟨w1.heap.size, ?_, Nat.le_trans r.below.size hb.size, Nat.le_refl _, fun k hk => (World.ownsRow.lt hO k hk).2⟩, fun _ => rfl, r.below.trans hb⟩
  · rw [show min n a = n by omega] at hO
    rw [show min (n + 1) a = n + 1 by omega, texts_succ]; exact hO
  · rw [show n + 1 - (a + l) = 0 by omega]; exact ownS_nil _ _
theorem R3.second {W : World} {fm : Nat → List UInt8} {a l n B2 : Nat} {h bk bk' : Value} {wr w1 : World} (r : R3 W fm a l n h bk wr) (h1 : a + l ≤ n) (hB : OwnS wr B2 bk (texts (fun j => fm (a + l + j)) (n - (a + l)))) (hW : W.heap.size ≤ B2) (hwr : B2 ≤ wr.heap.size) (hh : ∀ k, h.ownBlock = some k → k < B2)
    (hO : OwnS w1 B2 bk' (texts (fun j => fm (a + l + j)) (n - (a + l)) ++ [fm n])) (hb : Below B2 wr w1) (hg : wr.grownBy w1 bk.ownBlock) : R3 W fm a l (n + 1) h bk' w1 := by
  refine ⟨?_, ⟨B2, ?_, hW, Nat.le_trans hwr hb.size, hh⟩, fun h => by omega, r.below.trans (hb.mono hW)⟩
  · rw [show min (n + 1) a = min n a by omega]
    exact r.head.beside hg (apart_of hB hh)
  · rw [show n + 1 - (a + l) = (n - (a + l)) + 1 by omega, texts_succ]
    rwa [show a + l + (n - (a + l)) = n by omega]

set_option maxRecDepth 100000 in
set_option maxHeartbeats 6400000 in
theorem form8_any (hi lo way : Int) (w : World) (hh : 0 ≤ hi) (hh2 : hi < 18446744073709551616) (hl : 0 ≤ lo) (hl2 : lo < 18446744073709551616) (hw : 0 ≤ way) (hw2 : way < 18446744073709551616) (hT : Laid w) (H60 : (way / 1152921504606846976 % 2 == 1) = false) :
    Calls Tryz.prog 7 #[.agg #[.bool true, .int .u64 (hi), .int .u64 (lo)], .int .u64 way] w fun e w' => (∃ a l, Run (grp hi lo) 8 a l ∧ e = .returned (.string (bs (ftext (grp hi lo) way 8 a l [])))) ∧ Below w.heap.size w w' := by
  have HB0 := Lib.hid ((Below.refl w.heap.size w).alloc (Nat.le_refl _) (.cells #[.bool true, .int .u64 hi, .int .u64 lo] 24))
  have HT := Lib.hid hT
  have HG := groups_any hi lo hh hh2 hl hl2
  have HGB := Lib.hid (grp_bd hi lo)
  unfold g8 at HG
  clear hT
  go_enter Tryz.func7, Tryz.ntmps7
  go_wp2_with fail
  refine (HG.at _).mono ?_
  rintro e w1 ⟨rfl, hb1⟩
  obtain ⟨hc1, hf1⟩ := rulesB (B := w.heap.size + 1) hb1 (by first | omega | (simp only [World.size_alloc, World.size_setCell, World.size_drew]; omega))
  have hs1 := hb1.size
  try simp only [World.size_alloc, World.size_setCell, World.size_drew] at hs1
  have hz1 : w.heap.size < w1.heap.size := by omega
  have HB1 := Lib.hid (HB0.out.trans (hb1.mono (by simp)))
  clear hb1
  go_upto_block 0 with fail
  have HC : ∀ i, i < 8 → (w1.alloc (.cells #[.int .u16 (grp hi lo 0), .int .u16 (grp hi lo 1), .int .u16 (grp hi lo 2), .int .u16 (grp hi lo 3), .int .u16 (grp hi lo 4), .int .u16 (grp hi lo 5), .int .u16 (grp hi lo 6), .int .u16 (grp hi lo 7)] 45)).cell? ⟨w1.heap.size, i, none⟩ = some (.int .u16 (grp hi lo i)) := fun i hi => by
    match i, hi with
    | 0, _ | 1, _ | 2, _ | 3, _ | 4, _ | 5, _ | 6, _ | 7, _ => simp [go_sem]
    | n + 8, h => exact absurd h (by omega)
  have HBW := HB1.out.trans (((Below.refl w1.heap.size w1).alloc (Nat.le_refl _) (.cells #[.int .u16 (grp hi lo 0), .int .u16 (grp hi lo 1), .int .u16 (grp hi lo 2), .int .u16 (grp hi lo 3), .int .u16 (grp hi lo 4), .int .u16 (grp hi lo 5), .int .u16 (grp hi lo 6), .int .u16 (grp hi lo 7)] 45)).mono (by omega))
  have hbx : ∀ i v, w1.cell? ⟨w.heap.size, i, none⟩ = some v → (w1.alloc (.cells #[.int .u16 (grp hi lo 0), .int .u16 (grp hi lo 1), .int .u16 (grp hi lo 2), .int .u16 (grp hi lo 3), .int .u16 (grp hi lo 4), .int .u16 (grp hi lo 5), .int .u16 (grp hi lo 6), .int .u16 (grp hi lo 7)] 45)).cell? ⟨w.heap.size, i, none⟩ = some v := fun i v h => by
    rw [← h]; exact World.cell?_alloc_lt _ _ _ (by simpa using hz1)
  have hbs : w1.heap.size < (w1.alloc (.cells #[.int .u16 (grp hi lo 0), .int .u16 (grp hi lo 1), .int .u16 (grp hi lo 2), .int .u16 (grp hi lo 3), .int .u16 (grp hi lo 4), .int .u16 (grp hi lo 5), .int .u16 (grp hi lo 6), .int .u16 (grp hi lo 7)] 45)).heap.size := by simp
  obtain ⟨b, hb⟩ : ∃ b, b = w1.heap.size := ⟨_, rfl⟩
  generalize w1.alloc (.cells #[.int .u16 (grp hi lo 0), .int .u16 (grp hi lo 1), .int .u16 (grp hi lo 2), .int .u16 (grp hi lo 3), .int .u16 (grp hi lo 4), .int .u16 (grp hi lo 5), .int .u16 (grp hi lo 6), .int .u16 (grp hi lo 7)] 45) = W at HC HBW hbx hbs ⊢
  rw [← hb] at HC hbs ⊢
  have HCH := Lib.hid HC
  have HBH := Lib.hid HBW
  have HBX := Lib.hid hbx
  clear HC HBW hbx hb
  obtain ⟨s, hs, hs8⟩ : ∃ s : Nat, way / 72057594037927936 % 8 = s ∧ s < 8 := ⟨(way / 72057594037927936 % 8).toNat, by omega, by omega⟩
  obtain ⟨q, hq, hq8⟩ : ∃ q : Nat, way / 4503599627370496 % 8 = q ∧ q < 8 := ⟨(way / 4503599627370496 % 8).toNat, by omega, by omega⟩
  go_cut [8, 9, 10, 11] from 29 to 72 (fun s8 s9 _ _ wx => wx = W ∧ ∃ a l : Nat, s8 = .int .i64 a ∧ s9 = .int .i64 l ∧ Run (grp hi lo) 8 a l)
  case first =>
    go_wp2_with fail
    go_loop [8, 9, 29] (fun a l k => a = .int .i64 8 ∧ l = .int .i64 0 ∧ ∃ n : Nat, n ≤ 8 ∧ k = .int .i64 n) (fun _ _ k => 8 - (intOf k).toNat)
    case atStart => exact ⟨rfl, rfl, 0, by omega, rfl⟩
    case round =>
      obtain ⟨rfl, rfl, n, hn, rfl⟩ := hrel
      by_cases hlt : n < 8
      · have hni : decide ((n : Int) < 8) = true := decide_eq_true (by omega)
        obtain ⟨p, hp⟩ : ∃ p : Nat, p = (n + s) % 8 := ⟨_, rfl⟩
        have hp8 : p < 8 := by omega
        have hp1 : ((n : Int) + s) % 8 = p := by omega
        have hp2 : ((n : Int) + s).tmod 8 = p := by rw [Int.tmod_eq_emod_of_nonneg (by omega)]; exact hp1
        have hpm : decide ((p : Int) < 8) = true := decide_eq_true (by omega)
        have hck := HCH.out p hp8
        clear hp
        cases hz : (grp hi lo p == 0)
        · go_wp2_with fail
          go_round
          case rel => exact ⟨rfl, rfl, n + 1, by omega, by go_num⟩
          case measure => simp [intOf]; omega
        · have HZ := Lib.hid (eq_of_beq hz)
          go_wp2_with fail
          go_loop [9] (fun c => ∃ m : Nat, p + m ≤ 8 ∧ c = .int .i64 m ∧ Hid (∀ j, p ≤ j → j < p + m → grp hi lo j = 0)) (fun c => 8 - (intOf c).toNat)
          case atStart => exact ⟨0, by omega, rfl, Lib.hid fun j h1 h2 => by omega⟩
          case round =>
            obtain ⟨m, hm, rfl, HZR⟩ := hrel
            by_cases hmt : p + m < 8
            · have hmi : decide ((p : Int) + (m : Int) < 8) = true := decide_eq_true (by omega)
              have hcm := HCH.out (p + m) hmt
              cases hz2 : (grp hi lo (p + m) == 0)
              · have HZ2 := Lib.hid (beq_eq_false_iff_ne.1 hz2)
                go_wp2_with fail
                go_meet
                exact ⟨rfl, p, m, rfl, rfl, .inr ⟨by
                  rcases Nat.eq_zero_or_pos m with h | h
                  · subst h; exact absurd HZ.out HZ2.out
                  · exact h, hm, HZR.out⟩⟩
              · have HZ2 := Lib.hid (eq_of_beq hz2)
                by_cases hmq : m ≤ q
                · have hqi : decide ((m : Int) ≤ (q : Int)) = true := decide_eq_true (by omega)
                  go_wp2_with fail
                  go_round
                  case rel => exact ⟨m + 1, by omega, by go_num, Lib.hid fun j h1 h2 => by
                    by_cases e : j = p + m
                    · rw [e]; exact HZ2.out
                    · exact HZR.out j h1 (by omega)⟩
                  case measure => simp [intOf]; omega
                · have hqi : decide ((m : Int) ≤ (q : Int)) = false := decide_eq_false (by omega)
                  go_wp2_with fail
                  go_meet
                  exact ⟨rfl, p, m, rfl, rfl, .inr ⟨by omega, hm, HZR.out⟩⟩
            · have hmi : decide ((p : Int) + (m : Int) < 8) = false := decide_eq_false (by omega)
              go_wp2_with fail
              go_meet
              exact ⟨rfl, p, m, rfl, rfl, .inr ⟨by omega, hm, HZR.out⟩⟩
      · obtain rfl : n = 8 := by omega
        go_wp2_with fail
        go_meet
        exact ⟨rfl, 8, 0, rfl, rfl, .inl ⟨rfl, rfl⟩⟩
  case rest =>
    obtain ⟨rfl, a0, l0, rfl, rfl, hrun⟩ := hcut
    have HR0 := Lib.hid hrun
    clear hrun
    go_upto_if 76 with fail
    go_cut [8, 9] from 77 to 77 (fun s8 s9 wx => wx = wc ∧ ∃ a l : Nat, s8 = .int .i64 a ∧ s9 = .int .i64 l ∧ Run (grp hi lo) 8 a l)
    case first =>
      go_wp2_with fail
      all_goals go_meet
      · exact ⟨rfl, 8, 0, rfl, rfl, .inl ⟨rfl, rfl⟩⟩
      · exact ⟨rfl, a0, l0, rfl, rfl, HR0.out⟩
    case rest =>
      obtain ⟨rfl, a, l, rfl, rfl, hrun⟩ := hcut
      have HR := Lib.hid hrun
      have hal : a + l ≤ 8 := by rcases hrun with h | h <;> omega
      clear hrun HR0
      go_wp2_with fail
      go_loopw [12, 13, 78] (fun h bk i wr => ∃ n : Nat, n ≤ 8 ∧ i = .int .i64 n ∧ R3 wc (fm (grp hi lo) way) a l n h bk wr) (fun _ _ i _ => 8 - (intOf i).toNat)
      case atStart => exact ⟨0, by omega, rfl, R3.start _ _ _ _⟩
      case round =>
        obtain ⟨n, hn, rfl, r⟩ := hrel
        have R := Lib.hid r
        have hsz := r.below.size
        clear r
        by_cases hlt : n < 8
        · have hni : decide ((n : Int) < 8) = true := decide_eq_true (by omega)
          have hck : wr.cell? ⟨b, n, none⟩ = some (.int .u16 (grp hi lo n)) := (R.out.below.cell (p := ⟨b, n, none⟩) hbs).trans (HCH.out n hlt)
          have hbw : b < wr.heap.size := by omega
          have hsh0 : 0 ≤ way / 2 ^ (6 * n) := Int.ediv_nonneg hw (by exact_mod_cast Nat.zero_le _)
          have hsh1 : way / 2 ^ (6 * n) < 18446744073709551616 := Int.lt_of_le_of_lt (Int.ediv_le_self _ hw) hw2
          have HLR := Lib.hid (HT.out.below (HBH.out.trans (R.out.below.mono HBH.out.size)))
          have hli : (n : Int) < 8 := by omega
          go_wp2_with fail
          have hw6 : IntKind.i64.wrap (6 * (n : Int)) = 6 * n := by rw [IntKind.wrap_i64]; omega
          have hsf : (6 * (n : Int)).toNat = 6 * n := by omega
          refine wp_region_quiet_below (by kernel_rfl) (by kernel_rfl) ?_
          repeat quiet_step (fail)
          quiet_step (with_reducible exact Calls.regrown_of (form_any (grp hi lo n) (way / 2 ^ (6 * n)) _ (HLR.out.below (below_regrown _ _ _)) (HGB.out n).1 (HGB.out n).2 hsh0 hsh1))
          repeat quiet_step (fail)
          refine wpQuiet_nil ?_
          intro w4 hb4
          replace hb4 := below_of hb4
          obtain ⟨hc4, hf4⟩ := rules hb4
          have hs4 := hb4.size
          try simp only [World.size_alloc, World.size_setCell, World.size_drew] at hs4
          have HR4 := Lib.hid (R.out.under hb4)
          have hsz4 := HR4.out.below.size
          have hlf := fm_len (grp hi lo) way hw
          clear hb4 hc4 hf4 hsf
          by_cases hna : n < a
          · have d1 : decide ((n : Int) < (a : Int)) = true := decide_eq_true (by omega)
            have hO := HR4.out.head
            go_wp2_with (at_builtin; refine appendStr (fm (grp hi lo) way n) rfl _ _ rfl rfl rfl hO (by omega) (by rw [texts_length]; omega) ?_; intro v5 w5 hO5 hb5 hg5; have HN := Lib.hid (HR4.out.first hna hO5 hb5); clear hO hO5 hb5 hg5)
            go_roundw
            case rel => exact ⟨n + 1, by omega, by go_num, HN.out⟩
            case measure => simp [intOf]; omega
          · have d1 : decide ((n : Int) < (a : Int)) = false := decide_eq_false (by omega)
            by_cases hnl : a + l ≤ n
            · have d2 : decide ((a : Int) + (l : Int) ≤ (n : Int)) = true := decide_eq_true (by omega)
              obtain ⟨B2, hO, q1, q2, q3⟩ := HR4.out.back
              have Q3 := Lib.hid q3
              go_wp2_with (at_builtin; refine appendStr (fm (grp hi lo) way n) rfl _ _ rfl rfl rfl hO q2 (by rw [texts_length]; omega) ?_; intro v5 w5 hO5 hb5 hg5; have HN := Lib.hid (HR4.out.second hnl hO q1 q2 Q3.out hO5 hb5 hg5); clear hO hO5 hb5 hg5)
              go_roundw
              case rel => exact ⟨n + 1, by omega, by go_num, HN.out⟩
              case measure => simp [intOf]; omega
            · have d2 : decide ((a : Int) + (l : Int) ≤ (n : Int)) = false := decide_eq_false (by omega)
              have HN := Lib.hid (HR4.out.skip (by omega) (by omega))
              go_wp2_with fail
              go_roundw
              case rel => exact ⟨n + 1, by omega, by go_num, HN.out⟩
              case measure => simp [intOf]; omega
        · obtain rfl : n = 8 := by omega
          have e8 : ((8 : Nat) : Int) = 8 := rfl
          rw [e8]
          have hlf := fm_len (grp hi lo) way hw
          obtain ⟨B2, hOb, q1, q2, q3⟩ := R.out.back
          have HOB := Lib.hid hOb
          have hOh := R.out.head
          clear hOb q3
          have j1 := jtf_len (fm (grp hi lo) way) (fun i => (hlf i).2) (min 8 a) (by omega)
          have j2 := jtf_len (fun j => fm (grp hi lo) way (a + l + j)) (fun i => (hlf _).2) (8 - (a + l)) (by omega)
          have J2 := Lib.hid j2
          have g1 : (bs (jn (texts (fm (grp hi lo) way) (min 8 a)))).size ≤ 100 := by rw [bs_size]; omega
          have g2 : (bs (jn (texts (fun j => fm (grp hi lo) way (a + l + j)) (8 - (a + l))))).size ≤ 100 := by rw [bs_size]; omega
          have g3 : (bs [58, 58]).size = 2 := rfl
          have g4 : (bs []).size = 0 := rfl
          go_wp2_with fail
          refine (join58 _ _ _ _ hOh (by rw [texts_length]; omega) (texts_mem _ _ _ fun i => by have := (hlf i).2; omega)).mono ?_
          rintro e w5 ⟨rfl, hb5⟩
          have hs5 := hb5.size
          have HB5 := Lib.hid hb5
          have HOB5 := Lib.hid (HOB.out.below hb5)
          clear hb5 hOh
          by_cases ha : a < 8
          · go_wp2_with fail
            refine (mark_lt _ (by omega) _).mono ?_
            rintro e w6 ⟨rfl, hw6⟩
            subst hw6
            go_wp2_with fail
            refine (join58 _ _ _ _ HOB5.out (by rw [texts_length]; omega) (texts_mem _ _ _ fun i => by have := (hlf (a + l + i)).2; omega)).mono ?_
            rintro e w7 ⟨rfl, hb7⟩
            have HB7 := Lib.hid hb7
            clear hb7
            go_wp2
            go_ret
            refine ⟨⟨a, l, HR.out, ?_⟩, HBH.out.trans ((R.out.below.trans ((HB5.out.trans (HB7.out.mono hs5)).mono hsz)).mono HBH.out.size)⟩
            show Ending.returned (.string (bs (jn (texts (fm (grp hi lo) way) (min 8 a))) ++ bs [58, 58] ++ bs (jn (texts (fun j => fm (grp hi lo) way (a + l + j)) (8 - (a + l)))))) = _
            rw [bs_append, bs_append, ftext]; simp only [if_pos ha, List.append_nil]
          · go_wp2_with fail
            refine (mark_ge _ (by omega) _).mono ?_
            rintro e w6 ⟨rfl, hw6⟩
            subst hw6
            go_wp2_with fail
            refine (join58 _ _ _ _ HOB5.out (by rw [texts_length]; omega) (texts_mem _ _ _ fun i => by have := (hlf (a + l + i)).2; omega)).mono ?_
            rintro e w7 ⟨rfl, hb7⟩
            have HB7 := Lib.hid hb7
            clear hb7
            go_wp2
            go_ret
            refine ⟨⟨a, l, HR.out, ?_⟩, HBH.out.trans ((R.out.below.trans ((HB5.out.trans (HB7.out.mono hs5)).mono hsz)).mono HBH.out.size)⟩
            show Ending.returned (.string (bs (jn (texts (fm (grp hi lo) way) (min 8 a))) ++ bs [] ++ bs (jn (texts (fun j => fm (grp hi lo) way (a + l + j)) (8 - (a + l)))))) = _
            rw [bs_append, bs_append, ftext]; simp only [if_neg ha, List.append_nil]
end Go.Proofs.YtkploaapcpjkbaaGreatDoor
