/- Contracts: bePutUint32, bePutUint64. -/
import Derived.Test.YtkploaapcpjkbaaGreatDoorA3
namespace Go.Proofs.YtkploaapcpjkbaaGreatDoor
open Go Go.RowKit Go.Sort
set_option linter.unusedVariables false
set_option linter.unusedSimpArgs false
attribute [local go_sem] cell_gr

set_option maxHeartbeats 1600000 in
theorem be64_any (b off cap : Nat) (n : Int) (w : World) (hn : 0 ≤ n) (hn2 : n < 18446744073709551616) (hcap : 8 ≤ cap)
    (hc : ∀ i, i < 8 → ∃ v, w.cell? ⟨b, off + i, none⟩ = some v) (hf : ∀ i, i < 8 → w.frozen? ⟨b, off + i, none⟩ = false) :
    Calls Tryz.prog 61 #[.slice (some ⟨b, off, none⟩) 8 cap, .int .u64 n] w fun e w' => e = .returned (.tuple #[]) ∧ PutAt w w' b off 8 0 n := by
  obtain ⟨v0, h0⟩ := hc 0 (by omega)
  have f0 := hf 0 (by omega)
  obtain ⟨v1, h1⟩ := hc 1 (by omega)
  have f1 := hf 1 (by omega)
  obtain ⟨v2, h2⟩ := hc 2 (by omega)
  have f2 := hf 2 (by omega)
  obtain ⟨v3, h3⟩ := hc 3 (by omega)
  have f3 := hf 3 (by omega)
  obtain ⟨v4, h4⟩ := hc 4 (by omega)
  have f4 := hf 4 (by omega)
  obtain ⟨v5, h5⟩ := hc 5 (by omega)
  have f5 := hf 5 (by omega)
  obtain ⟨v6, h6⟩ := hc 6 (by omega)
  have f6 := hf 6 (by omega)
  obtain ⟨v7, h7⟩ := hc 7 (by omega)
  have f7 := hf 7 (by omega)
  simp only [Nat.add_zero] at h0 f0
  have HC := Lib.hid hc
  clear hc hf
  go_enter Tryz.func61, Tryz.ntmps61
  go_wp2
  refine wp_loop_rounds 9 ?_
  rw [rounds_succ]
  go_wp2
  rw [rounds_succ]
  go_wp2
  rw [rounds_succ]
  go_wp2
  rw [rounds_succ]
  go_wp2
  rw [rounds_succ]
  go_wp2
  rw [rounds_succ]
  go_wp2
  rw [rounds_succ]
  go_wp2
  rw [rounds_succ]
  go_wp2
  rw [rounds_succ]
  go_wp2
  go_end0
  refine ⟨rfl, ?_⟩
  refine ⟨fun i _ hi => ?_, fun i hi => ?_, fun b' o h => ?_, fun p => ?_, ?_⟩
  · match i, hi with
    | 0, _ | 1, _ | 2, _ | 3, _ | 4, _ | 5, _ | 6, _ | 7, _ => first | (simp [go_sem, byteAt, h0, h1, h2, h3, h4, h5, h6, h7]; done) | (simp [go_sem, byteAt, h0, h1, h2, h3, h4, h5, h6, h7]; omega)
  · match i, hi with
    | 0, _ | 1, _ | 2, _ | 3, _ | 4, _ | 5, _ | 6, _ | 7, _ => exact ⟨_, by simp [go_sem, h0, h1, h2, h3, h4, h5, h6, h7]; rfl⟩
  · repeat rw [World.cell?_setCell_other _ _ _ _ (by intro h3; injection h3; omega)]
  · simp only [World.frozen?_setCell]
  · repeat (first | with_reducible exact Below.refl _ _ | with_reducible refine Below.setCell ?_ (by simp) _)

set_option maxHeartbeats 1600000 in
theorem be32_any (b cap : Nat) (n : Int) (w : World) (hn : 0 ≤ n) (hn2 : n < 4294967296) (hcap : 4 ≤ cap)
    (hc : ∀ i, i < 4 → ∃ v, w.cell? ⟨b, 0 + i, none⟩ = some v) (hf : ∀ i, i < 4 → w.frozen? ⟨b, 0 + i, none⟩ = false) :
    Calls Tryz.prog 60 #[.slice (some ⟨b, 0, none⟩) 4 cap, .int .u32 n] w fun e w' => e = .returned (.tuple #[]) ∧ PutAt w w' b 0 4 0 n := by
  obtain ⟨v0, h0⟩ := hc 0 (by omega)
  have f0 := hf 0 (by omega)
  obtain ⟨v1, h1⟩ := hc 1 (by omega)
  have f1 := hf 1 (by omega)
  obtain ⟨v2, h2⟩ := hc 2 (by omega)
  have f2 := hf 2 (by omega)
  obtain ⟨v3, h3⟩ := hc 3 (by omega)
  have f3 := hf 3 (by omega)
  simp only [Nat.zero_add] at h0 f0 h1 f1 h2 f2 h3 f3
  have HC := Lib.hid hc
  clear hc hf
  go_enter Tryz.func60, Tryz.ntmps60
  go_wp2
  go_end0
  refine ⟨rfl, ?_⟩
  refine ⟨fun i _ hi => ?_, fun i hi => ?_, fun b' o h => ?_, fun p => ?_, ?_⟩
  · match i, hi with
    | 0, _ | 1, _ | 2, _ | 3, _ => first | (simp [go_sem, byteAt, h0, h1, h2, h3]; done) | (simp [go_sem, byteAt, h0, h1, h2, h3]; omega)
  · match i, hi with
    | 0, _ | 1, _ | 2, _ | 3, _ => exact ⟨_, by simp [go_sem, h0, h1, h2, h3]; rfl⟩
  · repeat rw [World.cell?_setCell_other _ _ _ _ (by intro h3; injection h3; omega)]
  · simp only [World.frozen?_setCell]
  · repeat (first | with_reducible exact Below.refl _ _ | with_reducible refine Below.setCell ?_ (by simp) _)
end Go.Proofs.YtkploaapcpjkbaaGreatDoor
