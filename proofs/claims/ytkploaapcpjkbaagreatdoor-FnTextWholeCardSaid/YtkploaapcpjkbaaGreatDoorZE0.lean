/- Plain: the steps of parseIPv6's outer loop. -/
import Derived.Test.YtkploaapcpjkbaaGreatDoorZC
import Derived.Test.YtkploaapcpjkbaaGreatDoorZD
import Derived.Test.YtkploaapcpjkbaaGreatDoorA2
import Derived.Deep.CutBlock
namespace Go.Proofs.YtkploaapcpjkbaaGreatDoor
open Go Go.RowKit Go.Sort
set_option linter.unusedVariables false
set_option linter.unusedSimpArgs false
attribute [local go_sem] cell_gr

theorem Rest.split2 {r : Rest} {s : Bool} {i : Nat} (h : r.Ok s i) : ∃ x y, r.text = x ++ y ∧ Item x ∧ ((y = [] ∧ r = .one x) ∨ (y = [58, 58] ∧ r = .oneE x) ∨ (∃ r', y = 58 :: r'.text ∧ r = .next x r') ∨ (∃ r', y = 58 :: 58 :: r'.text ∧ r = .gap x r') ∨ (∃ t, y = 46 :: t ∧ r = .quad (x ++ 46 :: t))) := by
  cases r with
  | one d => exact ⟨d, [], by simp [text], h, .inl ⟨rfl, rfl⟩⟩
  | oneE d => exact ⟨d, [58, 58], rfl, h.1, .inr (.inl ⟨rfl, rfl⟩)⟩
  | quad d => obtain ⟨_, ⟨x, y, e, hi⟩, _⟩ := h; exact ⟨x, 46 :: y, e, hi, .inr (.inr (.inr (.inr ⟨y, rfl, by rw [e]⟩)))⟩
  | next d r => exact ⟨d, 58 :: r.text, rfl, h.1, .inr (.inr (.inl ⟨r, rfl, rfl⟩))⟩
  | gap d r => exact ⟨d, 58 :: 58 :: r.text, rfl, h.1, .inr (.inr (.inr (.inl ⟨r, rfl, rfl⟩)))⟩

section
variable {L : List UInt8} {b : Nat} {w0 : World} {F : List Int} {E : Option Nat} {i : Nat} {e : Option Nat} {fs : List Int} {wr : World}
/-- The world behind the two stores of a group. -/
def put2 (wr : World) (b i : Nat) (d : List UInt8) : World := (wr.setCell ⟨b, i, none⟩ (.int .u8 ((hv d : Int) / 256))).setCell ⟨b, i + 1, none⟩ (.int .u8 ((hv d : Int) % 256))
theorem P6.put {r : Rest} (p : P6 L b w0 F E r i e fs wr) (d : List UInt8) (hi : i + 2 ≤ 16) :
    (∀ j, j < 16 → (put2 wr b i d).cell? ⟨b, j, none⟩ = some (.int .u8 ((fs ++ Rest.two d).getD j 0))) ∧ (∀ j, (put2 wr b i d).frozen? ⟨b, j, none⟩ = w0.frozen? ⟨b, j, none⟩) ∧ Below b w0 (put2 wr b i d) := by
  have hl := p.len
  refine ⟨fun j hj => ?_, fun j => ?_, ?_⟩
  · unfold put2
    by_cases e1 : j = i + 1
    · subst e1
      rw [World.cell?_setCell_same _ _ _ (by rw [World.cell?_setCell_other _ _ _ _ (by intro e; simp at e)]; exact p.cells (i + 1) hj)]
      rw [List.getD_eq_getElem?_getD, List.getElem?_append_right (by omega), show i + 1 - fs.length = 1 by omega]; rfl
    · rw [World.cell?_setCell_other _ _ _ _ (by intro e; simp at e; try omega)]
      by_cases e2 : j = i
      · subst e2
        rw [World.cell?_setCell_same _ _ _ (p.cells j hj)]
        rw [List.getD_eq_getElem?_getD, List.getElem?_append_right (by omega), show j - fs.length = 0 by omega]; rfl
      · rw [World.cell?_setCell_other _ _ _ _ (by intro e; simp at e; try omega), p.cells j hj]
        congr 2
        by_cases e3 : j < i
        · rw [List.getD_eq_getElem?_getD, List.getD_eq_getElem?_getD, List.getElem?_append_left (by omega)]
        · rw [List.getD_eq_getElem?_getD, List.getD_eq_getElem?_getD, List.getElem?_eq_none (by omega), List.getElem?_eq_none (by simp [Rest.two]; omega)]
  · unfold put2; rw [World.frozen?_setCell, World.frozen?_setCell]; exact p.free j
  · exact (p.below.setCell (Nat.le_refl _) _).setCell (Nat.le_refl _) _
theorem P6.next {d : List UInt8} {r : Rest} (p : P6 L b w0 F E (.next d r) i e fs wr) (hi : i + 2 ≤ 16) : P6 L b w0 F E r (i + 2) e (fs ++ Rest.two d) (put2 wr b i d) := by
  obtain ⟨h1, h2, h3⟩ := p.put d hi
  obtain ⟨pr, hpr⟩ := p.suf
  exact ⟨p.ok.2, by rw [List.length_append, p.len]; rfl, by rw [List.append_assoc]; exact p.all, p.most, p.ell, ⟨pr ++ d ++ [58], by rw [hpr]; simp [Rest.text]⟩, fun q hq => by have := p.small q hq; omega, h1, h2, h3⟩
theorem P6.gap {d : List UInt8} {r : Rest} (p : P6 L b w0 F E (.gap d r) i e fs wr) (hi : i + 2 ≤ 16) : e = none ∧ P6 L b w0 F E r (i + 2) (some (i + 2)) (fs ++ Rest.two d) (put2 wr b i d) := by
  obtain ⟨h1, h2, h3⟩ := p.put d hi
  obtain ⟨pr, hpr⟩ := p.suf
  have he : e = none := by have := p.ok.2.1; cases e with | none => rfl | some q => cases this
  subst he
  exact ⟨rfl, p.ok.2.2, by rw [List.length_append, p.len]; rfl, by rw [List.append_assoc]; exact p.all, p.most, p.ell, ⟨pr ++ d ++ [58, 58], by rw [hpr]; simp [Rest.text]⟩, fun q hq => by cases hq; exact Nat.le_refl _, h1, h2, h3⟩
theorem P6.one {d : List UInt8} (p : P6 L b w0 F E (.one d) i e fs wr) (hi : i + 2 ≤ 16) : F.length = i + 2 ∧ E = e ∧ Q6 b w0 F (put2 wr b i d) := by
  obtain ⟨h1, h2, h3⟩ := p.put d hi
  have ha : F = fs ++ Rest.two d := p.all
  have he : E = e := by have := p.ell; rw [this]; cases e <;> rfl
  exact ⟨by rw [ha, List.length_append, p.len]; rfl, he, by rw [ha]; exact ⟨h1, h2, h3⟩⟩
theorem P6.oneE {d : List UInt8} (p : P6 L b w0 F E (.oneE d) i e fs wr) (hi : i + 2 ≤ 16) : e = none ∧ F.length = i + 2 ∧ E = some (i + 2) ∧ Q6 b w0 F (put2 wr b i d) := by
  obtain ⟨h1, h2, h3⟩ := p.put d hi
  have ha : F = fs ++ Rest.two d := p.all
  have he : e = none := by have := p.ok.2; cases e with | none => rfl | some q => cases this
  subst he
  exact ⟨rfl, by rw [ha, List.length_append, p.len]; rfl, p.ell, by rw [ha]; exact ⟨h1, h2, h3⟩⟩
theorem P6.quad {d : List UInt8} (p : P6 L b w0 F E (.quad d) i e fs wr) : i + 4 ≤ 16 ∧ (e.isSome = true ∨ i = 12) ∧ ∀ e4 w4, End4 b i wr (run4 0 [] 0 true d) e4 w4 → e4 = .returned .nilIface ∧ F.length = i + 4 ∧ E = e ∧ Q6 b w0 F w4 := by
  obtain ⟨⟨xs, hx, h4⟩, _, hs⟩ := p.ok
  have ha : F = fs ++ xs := by rw [p.all, Rest.bytes, hx]; rfl
  have hl : F.length = i + 4 := by rw [ha, List.length_append, p.len, h4]
  have he : E = e := by have := p.ell; rw [this]; cases e <;> rfl
  refine ⟨by have := p.most; omega, hs, fun e4 w4 h => ?_⟩
  rw [hx] at h
  obtain ⟨h1, h2, _, h5, h6, h7⟩ := h
  refine ⟨h1, hl, he, fun j hj => ?_, fun j => (h7 j).trans (p.free j), p.below.trans h2⟩
  have hfl := p.len
  by_cases c : j < i ∨ i + 4 ≤ j
  · rw [h6 j c, p.cells j hj, ha]
    congr 2
    rcases c with c | c
    · rw [List.getD_eq_getElem?_getD, List.getD_eq_getElem?_getD, List.getElem?_append_left (by omega)]
    · rw [List.getD_eq_getElem?_getD, List.getD_eq_getElem?_getD, List.getElem?_eq_none (by omega), List.getElem?_eq_none (by rw [List.length_append]; omega)]
  · have hk : xs[j - i]? = some (xs.getD (j - i) 0) := by
      rw [List.getD_eq_getElem?_getD, List.getElem?_eq_getElem (by omega)]; rfl
    have := h5 (j - i) _ hk
    rw [show i + (j - i) = j by omega] at this
    rw [this, ha]
    congr 2
    rw [List.getD_eq_getElem?_getD, List.getD_eq_getElem?_getD, List.getElem?_append_right (by omega), hfl]
end
theorem sl16_0 (b : Nat) (W : World) : (Instr.sliceAt 62 (.pointer (some ⟨b, 0, none⟩)) (some (.int .i64 0)) (some (.int .i64 4)) none).run Tryz.prog W = .ok (.slice (some ⟨b, 0, none⟩) 4 16) W := by kernel_rfl
theorem sl16_1 (b : Nat) (W : World) : (Instr.sliceAt 62 (.pointer (some ⟨b, 0, none⟩)) (some (.int .i64 1)) (some (.int .i64 5)) none).run Tryz.prog W = .ok (.slice (some ⟨b, 1, none⟩) 4 15) W := by kernel_rfl
theorem sl16_2 (b : Nat) (W : World) : (Instr.sliceAt 62 (.pointer (some ⟨b, 0, none⟩)) (some (.int .i64 2)) (some (.int .i64 6)) none).run Tryz.prog W = .ok (.slice (some ⟨b, 2, none⟩) 4 14) W := by kernel_rfl
theorem sl16_3 (b : Nat) (W : World) : (Instr.sliceAt 62 (.pointer (some ⟨b, 0, none⟩)) (some (.int .i64 3)) (some (.int .i64 7)) none).run Tryz.prog W = .ok (.slice (some ⟨b, 3, none⟩) 4 13) W := by kernel_rfl
theorem sl16_4 (b : Nat) (W : World) : (Instr.sliceAt 62 (.pointer (some ⟨b, 0, none⟩)) (some (.int .i64 4)) (some (.int .i64 8)) none).run Tryz.prog W = .ok (.slice (some ⟨b, 4, none⟩) 4 12) W := by kernel_rfl
theorem sl16_5 (b : Nat) (W : World) : (Instr.sliceAt 62 (.pointer (some ⟨b, 0, none⟩)) (some (.int .i64 5)) (some (.int .i64 9)) none).run Tryz.prog W = .ok (.slice (some ⟨b, 5, none⟩) 4 11) W := by kernel_rfl
theorem sl16_6 (b : Nat) (W : World) : (Instr.sliceAt 62 (.pointer (some ⟨b, 0, none⟩)) (some (.int .i64 6)) (some (.int .i64 10)) none).run Tryz.prog W = .ok (.slice (some ⟨b, 6, none⟩) 4 10) W := by kernel_rfl
theorem sl16_7 (b : Nat) (W : World) : (Instr.sliceAt 62 (.pointer (some ⟨b, 0, none⟩)) (some (.int .i64 7)) (some (.int .i64 11)) none).run Tryz.prog W = .ok (.slice (some ⟨b, 7, none⟩) 4 9) W := by kernel_rfl
theorem sl16_8 (b : Nat) (W : World) : (Instr.sliceAt 62 (.pointer (some ⟨b, 0, none⟩)) (some (.int .i64 8)) (some (.int .i64 12)) none).run Tryz.prog W = .ok (.slice (some ⟨b, 8, none⟩) 4 8) W := by kernel_rfl
theorem sl16_9 (b : Nat) (W : World) : (Instr.sliceAt 62 (.pointer (some ⟨b, 0, none⟩)) (some (.int .i64 9)) (some (.int .i64 13)) none).run Tryz.prog W = .ok (.slice (some ⟨b, 9, none⟩) 4 7) W := by kernel_rfl
theorem sl16_10 (b : Nat) (W : World) : (Instr.sliceAt 62 (.pointer (some ⟨b, 0, none⟩)) (some (.int .i64 10)) (some (.int .i64 14)) none).run Tryz.prog W = .ok (.slice (some ⟨b, 10, none⟩) 4 6) W := by kernel_rfl
theorem sl16_11 (b : Nat) (W : World) : (Instr.sliceAt 62 (.pointer (some ⟨b, 0, none⟩)) (some (.int .i64 11)) (some (.int .i64 15)) none).run Tryz.prog W = .ok (.slice (some ⟨b, 11, none⟩) 4 5) W := by kernel_rfl
theorem sl16_12 (b : Nat) (W : World) : (Instr.sliceAt 62 (.pointer (some ⟨b, 0, none⟩)) (some (.int .i64 12)) (some (.int .i64 16)) none).run Tryz.prog W = .ok (.slice (some ⟨b, 12, none⟩) 4 4) W := by kernel_rfl
theorem sl16 (b i : Nat) (h : i + 4 ≤ 16) (W : World) : (Instr.sliceAt 62 (.pointer (some ⟨b, 0, none⟩)) (some (.int .i64 (i : Int))) (some (.int .i64 ((i : Int) + 4))) none).run Tryz.prog W = .ok (.slice (some ⟨b, i, none⟩) 4 (16 - i)) W := by
  match i, h with
  | 0, _ => exact sl16_0 b W
  | 1, _ => exact sl16_1 b W
  | 2, _ => exact sl16_2 b W
  | 3, _ => exact sl16_3 b W
  | 4, _ => exact sl16_4 b W
  | 5, _ => exact sl16_5 b W
  | 6, _ => exact sl16_6 b W
  | 7, _ => exact sl16_7 b W
  | 8, _ => exact sl16_8 b W
  | 9, _ => exact sl16_9 b W
  | 10, _ => exact sl16_10 b W
  | 11, _ => exact sl16_11 b W
  | 12, _ => exact sl16_12 b W
  | k + 13, h => exact absurd h (by omega)
end Go.Proofs.YtkploaapcpjkbaaGreatDoor
