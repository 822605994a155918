/- Contracts: impl.Kinds. -/
import Derived.Test.YtkploaapcpjkbaaB3
namespace Go.Proofs.Ytkploaapcpjkbaa
open Go Go.RowKit Go.Sort
set_option linter.unusedVariables false
set_option linter.unusedSimpArgs false
attribute [local go_sem] cell_gr

/-- What a call that makes a list of n bools hands back. -/
def GivesBools (w : World) (f : Nat → Bool) (n : Nat) (e : Ending) (w' : World) : Prop :=
  ∃ b, e = .returned (.slice (some ⟨b, 0, none⟩) n n) ∧ w.heap.size ≤ b ∧ b < w'.heap.size ∧ (∀ i, i < n → w'.cell? ⟨b, i, none⟩ = some (.bool (f i))) ∧ Below w.heap.size w w'

def kinds4 (lo : Int) (i : Nat) : Bool := [loop4 lo, priv4 lo, link4 lo, multi4 lo, unspec4 lo, false].getD i false
def kinds6 (hi lo : Int) (i : Nat) : Bool := [loop6 hi lo, priv6 hi, link6 hi lo, multi6 hi, unspec6 hi lo, false].getD i false
def kindsM (hi lo : Int) (i : Nat) : Bool := [loop4 lo, priv4 lo, link4 lo, multi4 lo, unspec6 hi lo, true].getD i false

set_option maxHeartbeats 1600000 in
theorem kinds_v4 (hi lo : Int) (w : World) (hl : 0 ≤ lo) (hl2 : lo < 4294967296) :
    Calls Try.prog 7 #[.agg #[.bool false, .int .u64 (hi), .int .u64 (lo)]] w (GivesBools w (kinds4 (281470681743360 + lo)) 6) := by
  have g0 : 0 ≤ 281470681743360 + lo := by omega
  have g1 : 281470681743360 + lo < 18446744073709551616 := by omega
  have g2 : 281470681743360 ≤ 281470681743360 + lo := by omega
  go_enter Try.func7, Try.ntmps7
  go_wp2_with fail
  refine (given4_any hi lo _ hl hl2).mono ?_
  rintro e w1 ⟨rfl, hb1⟩
  obtain ⟨hc1, hf1⟩ := rulesB (B := w.heap.size + 1) hb1 (by first | omega | (simp only [World.size_alloc, World.size_setCell, World.size_drew]; omega))
  have hs1 := hb1.size
  try simp only [World.size_alloc, World.size_setCell, World.size_drew] at hs1
  generalize 281470681743360 + lo = L at *
  go_wp2
  refine region_tail 12 (by kernel_rfl) (by kernel_rfl) ?_
  simp only [List.take_succ_cons, List.take_zero, List.drop_succ_cons, List.drop_zero]
  repeat quiet_step (fail)
  quiet_step (with_reducible exact Calls.regrown_of (isLoopback_v4 _ _ g0 g1))
  repeat quiet_step (fail)
  quiet_step (with_reducible exact Calls.regrown_of (isPriv_v4 0 _ _ g0 g1))
  repeat quiet_step (fail)
  quiet_step (with_reducible exact Calls.regrown_of (isLink_v4 0 _ _ g0 g1))
  repeat quiet_step (fail)
  quiet_step (with_reducible exact Calls.regrown_of (isMulti_v4 0 _ _ g0 g1))
  repeat quiet_step (fail)
  quiet_step (with_reducible exact Calls.regrown_of (isUnspecified_v4 _ _ g2))
  repeat quiet_step (fail)
  quiet_step (with_reducible exact Calls.regrown_of (is4In6_v4 _ _))
  repeat quiet_step (fail)
  refine wpQuiet_nil ?_
  intro w2 hb2
  obtain ⟨hc2, hf2⟩ := rules hb2
  have hs2 := hb2.size
  try simp only [World.size_alloc, World.size_setCell, World.size_drew] at hs2
  go_wp2
  go_ret
  refine ⟨w2.heap.size, rfl, by omega, by simp only [World.size_alloc]; omega, fun i hi => ?_, ?_⟩
  · match i, hi with
    | 0, _ | 1, _ | 2, _ | 3, _ | 4, _ | 5, _ => simp [go_sem, kinds4]
  repeat (first | with_reducible exact Below.refl _ _ | with_reducible refine Below.setCell ?_ (by first | omega | (simp only [World.size_alloc, World.size_setCell, World.size_drew]; omega)) _ | with_reducible refine Below.alloc ?_ (by first | omega | (simp only [World.size_alloc, World.size_setCell, World.size_drew]; omega)) _ | with_reducible refine Below.drew ?_ | with_reducible refine Below.trans ?_ (hb2.mono (by first | omega | (simp only [World.size_alloc, World.size_setCell, World.size_drew]; omega))) | with_reducible refine Below.trans ?_ (hb1.mono (by first | omega | (simp only [World.size_alloc, World.size_setCell, World.size_drew]; omega))))

set_option maxHeartbeats 1600000 in
theorem kinds_v6 (hi lo : Int) (w : World) (hh : 0 ≤ hi) (hh2 : hi < 18446744073709551616) (hl : 0 ≤ lo) (hl2 : lo < 18446744073709551616) (H : Hid (mappedB hi lo = false)) :
    Calls Try.prog 7 #[.agg #[.bool true, .int .u64 (hi), .int .u64 (lo)]] w (GivesBools w (kinds6 hi lo) 6) := by
  go_enter Try.func7, Try.ntmps7
  go_wp2_with fail
  refine (given6_any hi lo _ hh hh2 hl hl2).mono ?_
  rintro e w1 ⟨rfl, hb1⟩
  obtain ⟨hc1, hf1⟩ := rulesB (B := w.heap.size + 1) hb1 (by first | omega | (simp only [World.size_alloc, World.size_setCell, World.size_drew]; omega))
  have hs1 := hb1.size
  try simp only [World.size_alloc, World.size_setCell, World.size_drew] at hs1
  go_wp2
  refine region_tail 12 (by kernel_rfl) (by kernel_rfl) ?_
  simp only [List.take_succ_cons, List.take_zero, List.drop_succ_cons, List.drop_zero]
  repeat quiet_step (fail)
  quiet_step (with_reducible exact Calls.regrown_of (isLoopback_v6 _ _ _ hh hl hl2 H))
  repeat quiet_step (fail)
  quiet_step (with_reducible exact Calls.regrown_of (isPriv_v6 _ _ _ hh hh2 hl hl2 H))
  repeat quiet_step (fail)
  quiet_step (with_reducible exact Calls.regrown_of (isLink_v6 _ _ _ hh hh2 hl hl2 H))
  repeat quiet_step (fail)
  quiet_step (with_reducible exact Calls.regrown_of (isMulti_v6 _ _ _ hh hh2 hl hl2 H))
  repeat quiet_step (fail)
  quiet_step (with_reducible exact Calls.regrown_of (isUnspecified_v6 _ _ _))
  repeat quiet_step (fail)
  quiet_step (with_reducible exact Calls.regrown_of (is4In6_no _ _ _ hh hl hl2 H))
  repeat quiet_step (fail)
  refine wpQuiet_nil ?_
  intro w2 hb2
  obtain ⟨hc2, hf2⟩ := rules hb2
  have hs2 := hb2.size
  try simp only [World.size_alloc, World.size_setCell, World.size_drew] at hs2
  go_wp2
  go_ret
  refine ⟨w2.heap.size, rfl, by omega, by simp only [World.size_alloc]; omega, fun i hi => ?_, ?_⟩
  · match i, hi with
    | 0, _ | 1, _ | 2, _ | 3, _ | 4, _ | 5, _ => simp [go_sem, kinds6]
  repeat (first | with_reducible exact Below.refl _ _ | with_reducible refine Below.setCell ?_ (by first | omega | (simp only [World.size_alloc, World.size_setCell, World.size_drew]; omega)) _ | with_reducible refine Below.alloc ?_ (by first | omega | (simp only [World.size_alloc, World.size_setCell, World.size_drew]; omega)) _ | with_reducible refine Below.drew ?_ | with_reducible refine Below.trans ?_ (hb2.mono (by first | omega | (simp only [World.size_alloc, World.size_setCell, World.size_drew]; omega))) | with_reducible refine Below.trans ?_ (hb1.mono (by first | omega | (simp only [World.size_alloc, World.size_setCell, World.size_drew]; omega))))

set_option maxHeartbeats 1600000 in
theorem kinds_map (hi lo : Int) (w : World) (hh : 0 ≤ hi) (hh2 : hi < 18446744073709551616) (hl : 0 ≤ lo) (hl2 : lo < 18446744073709551616) (H : Hid (mappedB hi lo = true)) :
    Calls Try.prog 7 #[.agg #[.bool true, .int .u64 (hi), .int .u64 (lo)]] w (GivesBools w (kindsM hi lo) 6) := by
  go_enter Try.func7, Try.ntmps7
  go_wp2_with fail
  refine (given6_any hi lo _ hh hh2 hl hl2).mono ?_
  rintro e w1 ⟨rfl, hb1⟩
  obtain ⟨hc1, hf1⟩ := rulesB (B := w.heap.size + 1) hb1 (by first | omega | (simp only [World.size_alloc, World.size_setCell, World.size_drew]; omega))
  have hs1 := hb1.size
  try simp only [World.size_alloc, World.size_setCell, World.size_drew] at hs1
  go_wp2
  refine region_tail 12 (by kernel_rfl) (by kernel_rfl) ?_
  simp only [List.take_succ_cons, List.take_zero, List.drop_succ_cons, List.drop_zero]
  repeat quiet_step (fail)
  quiet_step (with_reducible exact Calls.regrown_of (isLoopback_map _ _ _ hh hl hl2 H))
  repeat quiet_step (fail)
  quiet_step (with_reducible exact Calls.regrown_of (isPriv_map _ _ _ hh hh2 hl hl2 H))
  repeat quiet_step (fail)
  quiet_step (with_reducible exact Calls.regrown_of (isLink_map _ _ _ hh hh2 hl hl2 H))
  repeat quiet_step (fail)
  quiet_step (with_reducible exact Calls.regrown_of (isMulti_map _ _ _ hh hh2 hl hl2 H))
  repeat quiet_step (fail)
  quiet_step (with_reducible exact Calls.regrown_of (isUnspecified_v6 _ _ _))
  repeat quiet_step (fail)
  quiet_step (with_reducible exact Calls.regrown_of (is4In6_yes _ _ _ hh hl hl2 H))
  repeat quiet_step (fail)
  refine wpQuiet_nil ?_
  intro w2 hb2
  obtain ⟨hc2, hf2⟩ := rules hb2
  have hs2 := hb2.size
  try simp only [World.size_alloc, World.size_setCell, World.size_drew] at hs2
  go_wp2
  go_ret
  refine ⟨w2.heap.size, rfl, by omega, by simp only [World.size_alloc]; omega, fun i hi => ?_, ?_⟩
  · match i, hi with
    | 0, _ | 1, _ | 2, _ | 3, _ | 4, _ | 5, _ => simp [go_sem, kindsM]
  repeat (first | with_reducible exact Below.refl _ _ | with_reducible refine Below.setCell ?_ (by first | omega | (simp only [World.size_alloc, World.size_setCell, World.size_drew]; omega)) _ | with_reducible refine Below.alloc ?_ (by first | omega | (simp only [World.size_alloc, World.size_setCell, World.size_drew]; omega)) _ | with_reducible refine Below.drew ?_ | with_reducible refine Below.trans ?_ (hb2.mono (by first | omega | (simp only [World.size_alloc, World.size_setCell, World.size_drew]; omega))) | with_reducible refine Below.trans ?_ (hb1.mono (by first | omega | (simp only [World.size_alloc, World.size_setCell, World.size_drew]; omega))))

end Go.Proofs.Ytkploaapcpjkbaa
