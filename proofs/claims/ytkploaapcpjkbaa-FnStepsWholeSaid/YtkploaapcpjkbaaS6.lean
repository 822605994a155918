/- Contracts: impl.Next, impl.Prev out of their callees'; the reference's Next and Prev. -/
import Derived.Test.YtkploaapcpjkbaaS5
import Derived.Test.YtkploaapcpjkbaaV2
namespace Go.Proofs.Ytkploaapcpjkbaa
open Go Go.RowKit Go.Sort
set_option linter.unusedVariables false
set_option linter.unusedSimpArgs false
attribute [local go_sem] cell_gr

/-- Function f, called with these arguments in whatever world, hands back v and leaves what was there as it was. -/
def Ret (f : Nat) (args : Array Value) (v : Value) : Prop := ∀ w : World, Calls Try.prog f args w fun e w' => e = .returned v ∧ Below w.heap.size w w'
theorem Ret.at {f : Nat} {args : Array Value} {v : Value} (h : Ret f args v) (w : World) : Calls Try.prog f args w fun e w' => e = .returned v ∧ Below w.heap.size w w' := h w


set_option maxHeartbeats 1600000 in
theorem implNext_of (six : Bool) (hi lo h1 l1 h2 l2 : Int) (s1 z1 s2 z2 : Bool) (six3 : Bool) (hi3 lo3 : Int) (ok : Bool)
    (HG : Ret 15 #[.agg #[.bool six, .int .u64 (hi), .int .u64 (lo)]] (.agg #[.int .u64 h1, .int .u64 l1, .bool s1, .bool z1, .string ⟨#[]⟩]))
    (HN : Ret 24 #[.agg #[.int .u64 h1, .int .u64 l1, .bool s1, .bool z1, .string ⟨#[]⟩]] (.agg #[.int .u64 h2, .int .u64 l2, .bool s2, .bool z2, .string ⟨#[]⟩]))
    (HT : Ret 25 #[.agg #[.int .u64 h2, .int .u64 l2, .bool s2, .bool z2, .string ⟨#[]⟩]] (.agg #[.bool six3, .int .u64 (hi3), .int .u64 (lo3)]))
    (HV : Ret 26 #[.agg #[.int .u64 h2, .int .u64 l2, .bool s2, .bool z2, .string ⟨#[]⟩]] (.bool ok)) :
    Ret 11 #[.agg #[.bool six, .int .u64 (hi), .int .u64 (lo)]] (.tuple #[.agg #[.bool six3, .int .u64 (hi3), .int .u64 (lo3)], .bool ok]) := by
  intro w
  go_enter Try.func11, Try.ntmps11
  go_wp2_with fail
  refine (HG.at _).mono ?_
  rintro e w1 ⟨rfl, hb1⟩
  obtain ⟨hc1, hf1⟩ := rulesB (B := w.heap.size + 1 + 1) hb1 (by first | omega | (simp only [World.size_alloc, World.size_setCell, World.size_drew]; omega))
  have hs1 := hb1.size
  try simp only [World.size_alloc, World.size_setCell, World.size_drew] at hs1
  go_wp2_with fail
  refine (HN.at _).mono ?_
  rintro e w2 ⟨rfl, hb2⟩
  obtain ⟨hc2, hf2⟩ := rulesB (B := w.heap.size + 1 + 1) hb2 (by first | omega | (simp only [World.size_alloc, World.size_setCell, World.size_drew]; omega))
  have hs2 := hb2.size
  try simp only [World.size_alloc, World.size_setCell, World.size_drew] at hs2
  go_wp2
  have hz2_0 : w.heap.size < w2.heap.size := by omega
  have hy2_0 : w.heap.size ≤ w2.heap.size := by omega
  have hz2_1 : w.heap.size + 1 < w2.heap.size := by omega
  have hy2_1 : w.heap.size + 1 ≤ w2.heap.size := by omega
  refine region_tail 4 (by kernel_rfl) (by kernel_rfl) ?_
  simp only [List.take_succ_cons, List.take_zero, List.drop_succ_cons, List.drop_zero]
  repeat quiet_step (fail)
  quiet_step (with_reducible exact Calls.regrown_of (HT.at _))
  repeat quiet_step (fail)
  quiet_step (with_reducible exact Calls.regrown_of (HV.at _))
  repeat quiet_step (fail)
  refine wpQuiet_nil ?_
  intro w3 hb3
  obtain ⟨hc3, hf3⟩ := rules hb3
  have hs3 := hb3.size
  try simp only [World.size_alloc, World.size_setCell, World.size_drew] at hs3
  go_wp2
  refine bodyPost_ret (v := .tuple #[.agg #[.bool six3, .int .u64 (hi3), .int .u64 (lo3)], .bool ok]) ?_ rfl ⟨rfl, ?_⟩
  · simp [results, Try.results11, go_sem, hc3, hc2, hc1, hz2_0, hz2_1, hy2_0, hy2_1]
  repeat (first | with_reducible exact Below.refl _ _ | with_reducible refine Below.setCell ?_ (by first | omega | (simp only [World.size_alloc, World.size_setCell, World.size_drew]; omega)) _ | with_reducible refine Below.alloc ?_ (by first | omega | (simp only [World.size_alloc, World.size_setCell, World.size_drew]; omega)) _ | with_reducible refine Below.drew ?_ | with_reducible refine Below.trans ?_ (hb3.mono (by first | omega | (simp only [World.size_alloc, World.size_setCell, World.size_drew]; omega))) | with_reducible refine Below.trans ?_ (hb2.mono (by first | omega | (simp only [World.size_alloc, World.size_setCell, World.size_drew]; omega))) | with_reducible refine Below.trans ?_ (hb1.mono (by first | omega | (simp only [World.size_alloc, World.size_setCell, World.size_drew]; omega))))

set_option maxHeartbeats 1600000 in
theorem implPrev_of (six : Bool) (hi lo h1 l1 h2 l2 : Int) (s1 z1 s2 z2 : Bool) (six3 : Bool) (hi3 lo3 : Int) (ok : Bool)
    (HG : Ret 15 #[.agg #[.bool six, .int .u64 (hi), .int .u64 (lo)]] (.agg #[.int .u64 h1, .int .u64 l1, .bool s1, .bool z1, .string ⟨#[]⟩]))
    (HN : Ret 28 #[.agg #[.int .u64 h1, .int .u64 l1, .bool s1, .bool z1, .string ⟨#[]⟩]] (.agg #[.int .u64 h2, .int .u64 l2, .bool s2, .bool z2, .string ⟨#[]⟩]))
    (HT : Ret 25 #[.agg #[.int .u64 h2, .int .u64 l2, .bool s2, .bool z2, .string ⟨#[]⟩]] (.agg #[.bool six3, .int .u64 (hi3), .int .u64 (lo3)]))
    (HV : Ret 26 #[.agg #[.int .u64 h2, .int .u64 l2, .bool s2, .bool z2, .string ⟨#[]⟩]] (.bool ok)) :
    Ret 13 #[.agg #[.bool six, .int .u64 (hi), .int .u64 (lo)]] (.tuple #[.agg #[.bool six3, .int .u64 (hi3), .int .u64 (lo3)], .bool ok]) := by
  intro w
  go_enter Try.func13, Try.ntmps13
  go_wp2_with fail
  refine (HG.at _).mono ?_
  rintro e w1 ⟨rfl, hb1⟩
  obtain ⟨hc1, hf1⟩ := rulesB (B := w.heap.size + 1 + 1) hb1 (by first | omega | (simp only [World.size_alloc, World.size_setCell, World.size_drew]; omega))
  have hs1 := hb1.size
  try simp only [World.size_alloc, World.size_setCell, World.size_drew] at hs1
  go_wp2_with fail
  refine (HN.at _).mono ?_
  rintro e w2 ⟨rfl, hb2⟩
  obtain ⟨hc2, hf2⟩ := rulesB (B := w.heap.size + 1 + 1) hb2 (by first | omega | (simp only [World.size_alloc, World.size_setCell, World.size_drew]; omega))
  have hs2 := hb2.size
  try simp only [World.size_alloc, World.size_setCell, World.size_drew] at hs2
  go_wp2
  have hz2_0 : w.heap.size < w2.heap.size := by omega
  have hy2_0 : w.heap.size ≤ w2.heap.size := by omega
  have hz2_1 : w.heap.size + 1 < w2.heap.size := by omega
  have hy2_1 : w.heap.size + 1 ≤ w2.heap.size := by omega
  refine region_tail 4 (by kernel_rfl) (by kernel_rfl) ?_
  simp only [List.take_succ_cons, List.take_zero, List.drop_succ_cons, List.drop_zero]
  repeat quiet_step (fail)
  quiet_step (with_reducible exact Calls.regrown_of (HT.at _))
  repeat quiet_step (fail)
  quiet_step (with_reducible exact Calls.regrown_of (HV.at _))
  repeat quiet_step (fail)
  refine wpQuiet_nil ?_
  intro w3 hb3
  obtain ⟨hc3, hf3⟩ := rules hb3
  have hs3 := hb3.size
  try simp only [World.size_alloc, World.size_setCell, World.size_drew] at hs3
  go_wp2
  refine bodyPost_ret (v := .tuple #[.agg #[.bool six3, .int .u64 (hi3), .int .u64 (lo3)], .bool ok]) ?_ rfl ⟨rfl, ?_⟩
  · simp [results, Try.results13, go_sem, hc3, hc2, hc1, hz2_0, hz2_1, hy2_0, hy2_1]
  repeat (first | with_reducible exact Below.refl _ _ | with_reducible refine Below.setCell ?_ (by first | omega | (simp only [World.size_alloc, World.size_setCell, World.size_drew]; omega)) _ | with_reducible refine Below.alloc ?_ (by first | omega | (simp only [World.size_alloc, World.size_setCell, World.size_drew]; omega)) _ | with_reducible refine Below.drew ?_ | with_reducible refine Below.trans ?_ (hb3.mono (by first | omega | (simp only [World.size_alloc, World.size_setCell, World.size_drew]; omega))) | with_reducible refine Below.trans ?_ (hb2.mono (by first | omega | (simp only [World.size_alloc, World.size_setCell, World.size_drew]; omega))) | with_reducible refine Below.trans ?_ (hb1.mono (by first | omega | (simp only [World.size_alloc, World.size_setCell, World.size_drew]; omega))))


theorem low32' (x : Int) (h0 : 0 ≤ x) (h1 : x < 18446744073709551616) : bits .and .u64 x 4294967295 = x % 4294967296 :=
  u64_low 32 (by decide) x _ h0 (by omega) (by decide)

set_option maxHeartbeats 1600000 in
theorem specNext_v4 (hi lo : Int) (ok : Bool) (hl : 0 ≤ lo) (hl2 : lo < 4294967296) (hk : decide (lo < 4294967295) = ok) :
    Ret 12 #[.agg #[.bool false, .int .u64 (hi), .int .u64 (lo)]] (.tuple #[.agg #[.bool false, .int .u64 (0), .int .u64 ((lo + 1) % 4294967296)], .bool ok]) := by
  intro w
  have HL := Lib.hid (low32' (lo + 1) (by omega) (by omega))
  have HK := Lib.hid hk
  clear hk
  go_enter Try.func12, Try.ntmps12
  go_wp2
  go_region
  all_goals
    go_wp2
    refine bodyPost_ret (v := .tuple #[.agg #[.bool false, .int .u64 (0), .int .u64 (bits .and .u64 (lo + 1) 4294967295)], .bool (decide (lo < 4294967295))]) ?_ rfl ⟨by rw [HL.out, HK.out], ?_⟩
    · simp [results, Try.results12, go_sem]
    repeat (first | with_reducible exact Below.refl _ _ | with_reducible refine Below.setCell ?_ (by first | omega | (simp only [World.size_alloc, World.size_setCell, World.size_drew]; omega)) _ | with_reducible refine Below.alloc ?_ (by first | omega | (simp only [World.size_alloc, World.size_setCell, World.size_drew]; omega)) _ | with_reducible refine Below.drew ?_)

set_option maxHeartbeats 1600000 in
theorem specPrev_v4 (hi lo m : Int) (ok : Bool) (hl : 0 ≤ lo) (hl2 : lo < 4294967296) (hk : decide (0 < lo) = ok) (hm : bits .and .u64 (IntKind.u64.wrap (lo - 1)) 4294967295 = m) :
    Ret 14 #[.agg #[.bool false, .int .u64 (hi), .int .u64 (lo)]] (.tuple #[.agg #[.bool false, .int .u64 (0), .int .u64 (m)], .bool ok]) := by
  intro w
  have HK := Lib.hid hk
  have HM := Lib.hid hm
  clear hk hm
  go_enter Try.func14, Try.ntmps14
  go_wp2
  go_region
  all_goals
    go_wp2
    refine bodyPost_ret (v := .tuple #[.agg #[.bool false, .int .u64 (0), .int .u64 (bits .and .u64 (IntKind.u64.wrap (lo - 1)) 4294967295)], .bool (decide (0 < lo))]) ?_ rfl ⟨by rw [HM.out, HK.out], ?_⟩
    · simp [results, Try.results14, go_sem]
    repeat (first | with_reducible exact Below.refl _ _ | with_reducible refine Below.setCell ?_ (by first | omega | (simp only [World.size_alloc, World.size_setCell, World.size_drew]; omega)) _ | with_reducible refine Below.alloc ?_ (by first | omega | (simp only [World.size_alloc, World.size_setCell, World.size_drew]; omega)) _ | with_reducible refine Below.drew ?_)

set_option maxHeartbeats 1600000 in
theorem specNext_v6 (hi lo s c t o : Int) (ok : Bool) (hh : 0 ≤ hi) (hl : 0 ≤ lo) (h : lo + 1 = c * 18446744073709551616 + s) (hs0 : 0 ≤ s) (hs1 : s < 18446744073709551616) (hc0 : 0 ≤ c) (hc1 : c ≤ 1)
    (h' : hi + c = o * 18446744073709551616 + t) (ht0 : 0 ≤ t) (ht1 : t < 18446744073709551616) (hk : (o == 0) = ok) :
    Ret 12 #[.agg #[.bool true, .int .u64 (hi), .int .u64 (lo)]] (.tuple #[.agg #[.bool true, .int .u64 (t), .int .u64 (s)], .bool ok]) := by
  intro w
  have HA := Lib.hid (add64_is lo 1 0 s c hl (by omega) (by omega) (by omega) (by omega) hs0 hs1)
  have HB := Lib.hid (add64_is hi 0 c t o hh (by omega) hc0 hc1 (by omega) ht0 ht1)
  have HK := Lib.hid hk
  clear h h' hk
  go_enter Try.func12, Try.ntmps12
  go_wp2_with (first | simp only [HA.out] | simp only [HB.out])
  refine bodyPost_ret (v := .tuple #[.agg #[.bool true, .int .u64 (t), .int .u64 (s)], .bool (o == 0)]) ?_ rfl ⟨by rw [HK.out], ?_⟩
  · simp [results, Try.results12, go_sem]
  repeat (first | with_reducible exact Below.refl _ _ | with_reducible refine Below.setCell ?_ (by first | omega | (simp only [World.size_alloc, World.size_setCell, World.size_drew]; omega)) _ | with_reducible refine Below.alloc ?_ (by first | omega | (simp only [World.size_alloc, World.size_setCell, World.size_drew]; omega)) _ | with_reducible refine Below.drew ?_)

set_option maxHeartbeats 1600000 in
theorem specPrev_v6 (hi lo s c t o : Int) (ok : Bool) (hh : 0 ≤ hi) (hh2 : hi < 18446744073709551616) (hl : 0 ≤ lo) (hl2 : lo < 18446744073709551616) (h : lo - 1 = s - c * 18446744073709551616) (hs0 : 0 ≤ s) (hs1 : s < 18446744073709551616) (hc0 : 0 ≤ c) (hc1 : c ≤ 1)
    (h' : hi - c = t - o * 18446744073709551616) (ht0 : 0 ≤ t) (ht1 : t < 18446744073709551616) (hk : (o == 0) = ok) :
    Ret 14 #[.agg #[.bool true, .int .u64 (hi), .int .u64 (lo)]] (.tuple #[.agg #[.bool true, .int .u64 (t), .int .u64 (s)], .bool ok]) := by
  intro w
  have HA := Lib.hid (sub64_is lo 1 0 s c hl hl2 (by omega) (by omega) (by omega) (by omega) (by omega) hs0 hs1)
  have HB := Lib.hid (sub64_is hi 0 c t o hh hh2 (by omega) (by omega) hc0 hc1 (by omega) ht0 ht1)
  have HK := Lib.hid hk
  clear h h' hk
  go_enter Try.func14, Try.ntmps14
  go_wp2_with (first | simp only [HA.out] | simp only [HB.out])
  refine bodyPost_ret (v := .tuple #[.agg #[.bool true, .int .u64 (t), .int .u64 (s)], .bool (o == 0)]) ?_ rfl ⟨by rw [HK.out], ?_⟩
  · simp [results, Try.results14, go_sem]
  repeat (first | with_reducible exact Below.refl _ _ | with_reducible refine Below.setCell ?_ (by first | omega | (simp only [World.size_alloc, World.size_setCell, World.size_drew]; omega)) _ | with_reducible refine Below.alloc ?_ (by first | omega | (simp only [World.size_alloc, World.size_setCell, World.size_drew]; omega)) _ | with_reducible refine Below.drew ?_)
end Go.Proofs.Ytkploaapcpjkbaa
