/- The walk of laws.FnStepsWhole out of the contracts, and the cases. -/
import Derived.Test.YtkploaapcpjkbaaS6
import Derived.Test.YtkploaapcpjkbaaC3
import Derived.Test.YtkploaapcpjkbaaB5
namespace Go.Proofs.Ytkploaapcpjkbaa
open Go Go.RowKit Go.Sort
set_option linter.unusedVariables false
set_option linter.unusedSimpArgs false
attribute [local go_sem] cell_gr

/-- Three cells at the head of a block. -/
structure Tri (w : World) (b : Nat) (x y z : Value) : Prop where
  c0 : w.cell? ⟨b, 0, none⟩ = some x
  c1 : w.cell? ⟨b, 1, none⟩ = some y
  c2 : w.cell? ⟨b, 2, none⟩ = some z
theorem Tri.new (w : World) (x y z : Value) (t : TypeId) : Tri (w.alloc (.cells #[x, y, z] t)) w.heap.size x y z := ⟨by simp [go_sem], by simp [go_sem], by simp [go_sem]⟩
theorem Tri.below {w w1 : World} {b : Nat} {x y z : Value} (h : Tri w b x y z) (hb : Below w.heap.size w w1) : Tri w1 b x y z :=
  ⟨(hb.cell (block_lt_of_cell h.c0)).trans h.c0, (hb.cell (block_lt_of_cell h.c1)).trans h.c1, (hb.cell (block_lt_of_cell h.c2)).trans h.c2⟩
theorem Tri.alloc {w : World} {b : Nat} {x y z : Value} (h : Tri w b x y z) (o : Obj) : Tri (w.alloc o) b x y z :=
  h.below ((Below.refl _ _).alloc (Nat.le_refl _) _)

set_option maxHeartbeats 3200000 in
theorem steps_of (six : Bool) (high low hi lo : Int) (b1 b2 b3 b4 : Bool) (x1 x2 x3 x4 y1 y2 y3 y4 : Int) (ok is : Bool) (w : World)
    (HA : Ret 5 #[.bool six, .int .u64 high, .int .u64 low] (.agg #[.bool six, .int .u64 (hi), .int .u64 (lo)]))
    (HN : Ret 11 #[.agg #[.bool six, .int .u64 (hi), .int .u64 (lo)]] (.tuple #[.agg #[.bool b1, .int .u64 (x1), .int .u64 (y1)], .bool ok]))
    (HN' : Ret 12 #[.agg #[.bool six, .int .u64 (hi), .int .u64 (lo)]] (.tuple #[.agg #[.bool b2, .int .u64 (x2), .int .u64 (y2)], .bool ok]))
    (HP : Ret 13 #[.agg #[.bool six, .int .u64 (hi), .int .u64 (lo)]] (.tuple #[.agg #[.bool b3, .int .u64 (x3), .int .u64 (y3)], .bool is]))
    (HP' : Ret 14 #[.agg #[.bool six, .int .u64 (hi), .int .u64 (lo)]] (.tuple #[.agg #[.bool b4, .int .u64 (x4), .int .u64 (y4)], .bool is]))
    (en : ok = true → b1 = b2 ∧ x1 = x2 ∧ y1 = y2) (ep : is = true → b3 = b4 ∧ x3 = x4 ∧ y3 = y4) :
    Calls Try.prog 4 #[.bool six, .int .u64 high, .int .u64 low] w fun e w' => e = .returned (.bool true) ∧ Below w.heap.size w w' := by
  cases ok <;> cases is
  all_goals
    first | (obtain ⟨rfl, rfl, rfl⟩ := en rfl) | skip
    first | (obtain ⟨rfl, rfl, rfl⟩ := ep rfl) | skip
    clear en ep
    go_enter Try.func4, Try.ntmps4
    go_wp2_with fail
    refine (HA.at _).mono ?_
    rintro e w1 ⟨rfl, hb1⟩
    have hs1 := hb1.size
    go_wp2_with fail
    refine (HN.at _).mono ?_
    rintro e w2 ⟨rfl, hb2⟩
    have A2 := (Tri.new w1 (.bool six) (.int .u64 hi) (.int .u64 lo) 24).below hb2
    obtain ⟨a20, a21, a22⟩ := A2
    have hs2 := hb2.size
    simp only [World.size_alloc] at hs2
    have z21 : w1.heap.size < w2.heap.size := by omega
    go_wp2_with fail
    refine (HN'.at _).mono ?_
    rintro e w3 ⟨rfl, hb3⟩
    have hs3 := hb3.size
    simp only [World.size_alloc] at hs3
    have A3 := ((Tri.mk a20 a21 a22).alloc _).below hb3
    clear a20 a21 a22
    obtain ⟨a30, a31, a32⟩ := A3
    have R23 := (Tri.new w2 (.bool _) (.int .u64 _) (.int .u64 _) 24).below hb3
    obtain ⟨r230, r231, r232⟩ := R23
    have z31 : w1.heap.size < w3.heap.size := by omega
    have z32 : w2.heap.size < w3.heap.size := by omega
    go_wp2_with fail
    refine (HP.at _).mono ?_
    rintro e w4 ⟨rfl, hb4⟩
    have hs4 := hb4.size
    simp only [World.size_alloc] at hs4
    have A4 := ((Tri.mk a30 a31 a32).alloc _).below hb4
    clear a30 a31 a32
    obtain ⟨a40, a41, a42⟩ := A4
    have R24 := ((Tri.mk r230 r231 r232).alloc _).below hb4
    clear r230 r231 r232
    obtain ⟨r240, r241, r242⟩ := R24
    have R34 := (Tri.new w3 (.bool _) (.int .u64 _) (.int .u64 _) 24).below hb4
    obtain ⟨r340, r341, r342⟩ := R34
    have z41 : w1.heap.size < w4.heap.size := by omega
    have z42 : w2.heap.size < w4.heap.size := by omega
    have z43 : w3.heap.size < w4.heap.size := by omega
    go_wp2_with fail
    refine (HP'.at _).mono ?_
    rintro e w5 ⟨rfl, hb5⟩
    have hs5 := hb5.size
    simp only [World.size_alloc] at hs5
    have A5 := ((Tri.mk a40 a41 a42).alloc _).below hb5
    clear a40 a41 a42
    obtain ⟨a50, a51, a52⟩ := A5
    have R25 := ((Tri.mk r240 r241 r242).alloc _).below hb5
    clear r240 r241 r242
    obtain ⟨r250, r251, r252⟩ := R25
    have R35 := ((Tri.mk r340 r341 r342).alloc _).below hb5
    clear r340 r341 r342
    obtain ⟨r350, r351, r352⟩ := R35
    have R45 := (Tri.new w4 (.bool _) (.int .u64 _) (.int .u64 _) 24).below hb5
    obtain ⟨r450, r451, r452⟩ := R45
    have z51 : w1.heap.size < w5.heap.size := by omega
    have z52 : w2.heap.size < w5.heap.size := by omega
    have z53 : w3.heap.size < w5.heap.size := by omega
    have z54 : w4.heap.size < w5.heap.size := by omega
    clear a50 a51 a52
    go_wp2_with fail
    refine (sane_any _).mono ?_
    rintro e w6 ⟨rfl, hb6⟩
    go_wp2
    go_ret
    refine ⟨rfl, ?_⟩
    repeat (first | with_reducible exact Below.refl _ _ | with_reducible refine Below.setCell ?_ (by first | omega | (simp only [World.size_alloc, World.size_setCell, World.size_drew]; omega)) _ | with_reducible refine Below.alloc ?_ (by first | omega | (simp only [World.size_alloc, World.size_setCell, World.size_drew]; omega)) _ | with_reducible refine Below.drew ?_ | with_reducible refine Below.trans ?_ (hb6.mono (by first | omega | (simp only [World.size_alloc, World.size_setCell, World.size_drew]; omega))) | with_reducible refine Below.trans ?_ (hb5.mono (by first | omega | (simp only [World.size_alloc, World.size_setCell, World.size_drew]; omega))) | with_reducible refine Below.trans ?_ (hb4.mono (by first | omega | (simp only [World.size_alloc, World.size_setCell, World.size_drew]; omega))) | with_reducible refine Below.trans ?_ (hb3.mono (by first | omega | (simp only [World.size_alloc, World.size_setCell, World.size_drew]; omega))) | with_reducible refine Below.trans ?_ (hb2.mono (by first | omega | (simp only [World.size_alloc, World.size_setCell, World.size_drew]; omega))) | with_reducible refine Below.trans ?_ (hb1.mono (by first | omega | (simp only [World.size_alloc, World.size_setCell, World.size_drew]; omega))))

/-! ### The cases -/
theorem lowK (l : Int) : 281470681743360 + l + 1 = 0 * 18446744073709551616 + (281470681743360 + (l + 1)) := by omega

theorem next_v4_ok (hi lo : Int) (h0 : 0 ≤ lo) (h1 : lo < 4294967295) : Ret 11 #[.agg #[.bool false, .int .u64 (hi), .int .u64 (lo)]] (.tuple #[.agg #[.bool false, .int .u64 (0), .int .u64 (lo + 1)], .bool true]) :=
  implNext_of false hi lo 0 (281470681743360 + lo) 0 (281470681743360 + (lo + 1)) true false true false false 0 (lo + 1) true
    (fun w => given4_any hi lo w h0 (by omega)) (fun w => next4_ok 0 _ (281470681743360 + (lo + 1)) 0 0 w (by omega) (by omega) (by omega) (by omega) (by decide) (by omega) (by omega) (by rw [beq_eq_false_iff_ne]; omega))
    (fun w => told_v4 (lo + 1) w (by omega) (by omega)) (fun w => isValid_any false _ _ w)
theorem next_v4_no (hi lo : Int) (h : lo = 4294967295) : Ret 11 #[.agg #[.bool false, .int .u64 (hi), .int .u64 (lo)]] (.tuple #[.agg #[.bool false, .int .u64 (0), .int .u64 (0)], .bool false]) :=
  implNext_of false hi lo 0 (281470681743360 + lo) 0 0 true false false false false 0 0 false
    (fun w => given4_any hi lo w (by omega) (by omega)) (fun w => next4_no 0 _ (281470681743360 + (lo + 1)) 0 0 w (by omega) (by omega) (by omega) (by omega) (by decide) (by omega) (by omega) (by rw [beq_iff_eq]; omega))
    (fun w => told_zero w) (fun w => isValid_zero w)
theorem prev_v4_ok (hi lo : Int) (h0 : 1 ≤ lo) (h1 : lo < 4294967296) : Ret 13 #[.agg #[.bool false, .int .u64 (hi), .int .u64 (lo)]] (.tuple #[.agg #[.bool false, .int .u64 (0), .int .u64 (lo - 1)], .bool true]) :=
  implPrev_of false hi lo 0 (281470681743360 + lo) 0 (281470681743360 + (lo - 1)) true false true false false 0 (lo - 1) true
    (fun w => given4_any hi lo w (by omega) h1) (fun w => prev4_ok 0 _ (281470681743360 + (lo - 1)) 0 0 w (by omega) (by omega) (by omega) (by omega) (by omega) (by decide) (by rw [beq_eq_false_iff_ne]; omega))
    (fun w => told_v4 (lo - 1) w (by omega) (by omega)) (fun w => isValid_any false _ _ w)
theorem prev_v4_no (hi lo : Int) (h : lo = 0) : Ret 13 #[.agg #[.bool false, .int .u64 (hi), .int .u64 (lo)]] (.tuple #[.agg #[.bool false, .int .u64 (0), .int .u64 (0)], .bool false]) :=
  implPrev_of false hi lo 0 (281470681743360 + lo) 0 0 true false false false false 0 0 false
    (fun w => given4_any hi lo w (by omega) (by omega)) (fun w => prev4_no 0 _ w (by omega) (by omega) (by rw [beq_iff_eq]; omega))
    (fun w => told_zero w) (fun w => isValid_zero w)

theorem next_v6_ok (hi lo s c t : Int) (hh : 0 ≤ hi) (hh2 : hi < 18446744073709551616) (hl : 0 ≤ lo) (hl2 : lo < 18446744073709551616) (h : lo + 1 = c * 18446744073709551616 + s) (h0 : 0 ≤ s) (h1 : s < 18446744073709551616) (ht : hi + c = t) (ht0 : 0 ≤ t) (ht1 : t < 18446744073709551616) (hz : ¬ (t = 0 ∧ s = 0)) :
    Ret 11 #[.agg #[.bool true, .int .u64 (hi), .int .u64 (lo)]] (.tuple #[.agg #[.bool true, .int .u64 (t), .int .u64 (s)], .bool true]) :=
  implNext_of true hi lo hi lo t s true true true true true t s true
    (fun w => given6_any hi lo w hh hh2 hl hl2) (fun w => next6_ok hi lo s c t w hl h h0 h1 (by rw [IntKind.wrap_u64]; omega) ht0 ht1 (Lib.hid (by simpa using hz)))
    (fun w => told_v6 t s w ht0 ht1 h0 h1) (fun w => isValid_any true _ _ w)
theorem next_v6_no (hi lo : Int) (hh : hi = 18446744073709551615) (hl : lo = 18446744073709551615) : Ret 11 #[.agg #[.bool true, .int .u64 (hi), .int .u64 (lo)]] (.tuple #[.agg #[.bool false, .int .u64 (0), .int .u64 (0)], .bool false]) :=
  implNext_of true hi lo hi lo 0 0 true true false false false 0 0 false
    (fun w => given6_any hi lo w (by omega) (by omega) (by omega) (by omega)) (fun w => next6_no hi lo 0 1 0 w (by omega) (by omega) (by omega) (by omega) (by rw [IntKind.wrap_u64]; omega) (by omega) (by omega) (Lib.hid (by decide)))
    (fun w => told_zero w) (fun w => isValid_zero w)
theorem prev_v6_ok (hi lo s c t : Int) (hh : 0 ≤ hi) (hh2 : hi < 18446744073709551616) (hl : 0 ≤ lo) (hl2 : lo < 18446744073709551616) (h : lo - 1 = s - c * 18446744073709551616) (h0 : 0 ≤ s) (h1 : s < 18446744073709551616) (ht : hi - c = t) (ht0 : 0 ≤ t) (ht1 : t < 18446744073709551616) (hz : ¬ (hi = 0 ∧ lo = 0)) :
    Ret 13 #[.agg #[.bool true, .int .u64 (hi), .int .u64 (lo)]] (.tuple #[.agg #[.bool true, .int .u64 (t), .int .u64 (s)], .bool true]) :=
  implPrev_of true hi lo hi lo t s true true true true true t s true
    (fun w => given6_any hi lo w hh hh2 hl hl2) (fun w => prev6_ok hi lo s c t w hh hh2 hl hl2 h h0 h1 (by rw [IntKind.wrap_u64]; omega) (Lib.hid (by simpa using hz)))
    (fun w => told_v6 t s w ht0 ht1 h0 h1) (fun w => isValid_any true _ _ w)
theorem prev_v6_no (hi lo : Int) (hh : hi = 0) (hl : lo = 0) : Ret 13 #[.agg #[.bool true, .int .u64 (hi), .int .u64 (lo)]] (.tuple #[.agg #[.bool false, .int .u64 (0), .int .u64 (0)], .bool false]) :=
  implPrev_of true hi lo hi lo 0 0 true true false false false 0 0 false
    (fun w => given6_any hi lo w (by omega) (by omega) (by omega) (by omega)) (fun w => prev6_no hi lo w (by omega) (by omega) (by omega) (by omega) (Lib.hid (by subst hh hl; rfl)))
    (fun w => told_zero w) (fun w => isValid_zero w)
end Go.Proofs.Ytkploaapcpjkbaa
