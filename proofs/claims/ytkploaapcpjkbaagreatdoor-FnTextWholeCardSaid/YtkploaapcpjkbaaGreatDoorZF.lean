/- Plain: the run of zeros is spread. -/
import Derived.Test.YtkploaapcpjkbaaGreatDoorZE0
import Derived.Lib.SliceRun
namespace Go.Proofs.YtkploaapcpjkbaaGreatDoor
open Go Go.RowKit Go.Sort
set_option linter.unusedVariables false
set_option linter.unusedSimpArgs false
attribute [local go_sem] cell_gr

theorem below_cells (B b : Nat) (hb : B ≤ b) (a : World) (vs : List Value) : ∀ (o : Nat) (w : World), Below B a w → Below B a (w.setCells b o vs) := by
  induction vs with
  | nil => exact fun _ _ h => h
  | cons v r ih => exact fun o w h => ih (o + 1) _ (h.setCell (p := ⟨b, o, none⟩) hb v)
theorem slPN (b p n : Nat) (h : p + n ≤ 16) (hn : 0 < n) (W : World) : (Instr.sliceAt 62 (.pointer (some ⟨b, 0, none⟩)) (some (.int .i64 (p : Int))) (some (.int .i64 ((p : Int) + n))) none).run Tryz.prog W = .ok (.slice (some ⟨b, p, none⟩) n (16 - p)) W := by
  have a16 : Tryz.prog.arrayLen 62 = 16 := by kernel_rfl
  have u16 : Tryz.prog.underlying 62 = some (.array (Tryz.prog.arrayLen 62) (Tryz.prog.elem 62)) := by kernel_rfl
  have s16 : (sizeOf (Tryz.prog.elem 62)).run Tryz.prog W = .ok 1 W := by kernel_rfl
  rw [run_sliceAt_array_lh (P := Tryz.prog) W 62 ⟨b, 0, none⟩ u16 .i64 .i64 (p : Int) ((p : Int) + n) (by omega) (by omega) (by rw [a16]; omega), s16, a16]
  have e : ((p : Int) + n).toNat = p + n := by omega
  simp only [Result.andThen, slicedAt, e, Int.toNat_natCast]
  rw [if_neg (by omega), Addr.add_mid]
  simp
theorem zero5 (w : World) : (zeroValue 5).run Tryz.prog w = .ok (.int .u8 0) w := by kernel_rfl

/-- How the third loop stands: what lies from the k-th byte on is moved n places on. -/
structure M6 (b : Nat) (w0 : World) (F : List Int) (n k : Nat) (wr : World) : Prop where
  cells : ∀ j, j < 16 → wr.cell? ⟨b, j, none⟩ = some (.int .u8 (if k + n ≤ j then F.getD (j - n) 0 else F.getD j 0))
  free : ∀ j, wr.frozen? ⟨b, j, none⟩ = w0.frozen? ⟨b, j, none⟩
  below : Below b w0 wr
theorem M6.start {b : Nat} {w0 : World} {F : List Int} {wr : World} (q : Q6 b w0 F wr) : M6 b w0 F (16 - F.length) F.length wr := by
  refine ⟨fun j hj => ?_, q.free, q.below⟩
  by_cases h16 : F.length ≤ 16
  · rw [q.cells j hj, if_neg (by omega)]
  · rw [q.cells j hj, if_neg (by omega)]
theorem M6.step {b : Nat} {w0 : World} {F : List Int} {n k : Nat} {wr : World} (m : M6 b w0 F n (k + 1) wr) (hk : k + n < 16) : M6 b w0 F n k (wr.setCell ⟨b, k + n, none⟩ (.int .u8 (F.getD k 0))) := by
  refine ⟨fun j hj => ?_, fun j => by rw [World.frozen?_setCell]; exact m.free j, m.below.setCell (Nat.le_refl _) _⟩
  by_cases e : j = k + n
  · subst e
    rw [World.cell?_setCell_same _ _ _ (m.cells (k + n) hk), if_pos (Nat.le_refl _), show k + n - n = k by omega]
  · rw [World.cell?_setCell_other _ _ _ _ (by intro e; simp at e; try omega), m.cells j hj]
    by_cases h : k + n ≤ j
    · rw [if_pos (by omega), if_pos h]
    · rw [if_neg (by omega), if_neg h]
/-- Behind the clearing. -/
theorem M6.clear {b : Nat} {w0 : World} {F : List Int} {p : Nat} {wr : World} (m : M6 b w0 F (16 - F.length) p wr) (hp : p ≤ F.length) (h16 : F.length ≤ 16) :
    (∀ j, j < 16 → (wr.setCells b p (List.replicate (16 - F.length) (.int .u8 0))).cell? ⟨b, j, none⟩ = some (.int .u8 (spread F (some p) j))) ∧ Below b w0 (wr.setCells b p (List.replicate (16 - F.length) (.int .u8 0))) := by
  refine ⟨fun j hj => ?_, below_cells b b (Nat.le_refl _) _ _ _ _ m.below⟩
  unfold spread
  by_cases h1 : j < p
  · rw [World.cell?_setCells_out _ _ _ _ _ (fun _ _ => .inl h1), m.cells j hj, if_neg (by omega)]
    simp only [if_pos h1]
  · by_cases h2 : j < p + (16 - F.length)
    · have := World.cell?_setCells_in b (List.replicate (16 - F.length) (Value.int .u8 0)) p wr (fun i hi => by rw [m.cells (p + i) (by rw [List.length_replicate] at hi; omega)]; rfl) (j - p) (by rw [List.length_replicate]; omega)
      rw [show p + (j - p) = j by omega] at this
      rw [this]
      simp only [if_neg h1, if_pos h2, List.getElem_replicate]
    · rw [World.cell?_setCells_out _ _ _ _ _ (fun _ _ => .inr (by rw [List.length_replicate]; show p + (16 - F.length) ≤ j; omega)), m.cells j hj, if_pos (by omega)]
      simp only [if_neg h1, if_neg h2]
end Go.Proofs.YtkploaapcpjkbaaGreatDoor
