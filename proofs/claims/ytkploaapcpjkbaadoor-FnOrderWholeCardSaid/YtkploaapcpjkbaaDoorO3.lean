/- Contracts: impl.Compare; the reference's sign, Compare, Len, Prefix. -/
import Derived.Test.YtkploaapcpjkbaaDoorO2
namespace Go.Proofs.YtkploaapcpjkbaaDoor
open Go Go.RowKit Go.Sort
set_option linter.unusedVariables false
set_option linter.unusedSimpArgs false
attribute [local go_sem] cell_gr

def gh (six : Bool) (hi : Int) : Int := if six then hi else 0
def gl (six : Bool) (lo : Int) : Int := if six then lo else 281470681743360 + lo
/-- What the numbers of an address lie in. -/
structure InAd (six : Bool) (hi lo : Int) : Prop where
  h0 : 0 ≤ hi
  h1 : hi < 18446744073709551616
  l0 : 0 ≤ lo
  l1 : lo < 18446744073709551616
  four : six = false → hi = 0 ∧ lo < 4294967296

theorem given_six {six : Bool} {hi lo : Int} (h : InAd six hi lo) : Ret 15 #[.agg #[.bool six, .int .u64 (hi), .int .u64 (lo)]] (.agg #[.int .u64 (gh six hi), .int .u64 (gl six lo), .bool true, .bool six, .string ⟨#[]⟩]) := by
  intro w
  cases six
  · exact given4_any hi lo w h.l0 (h.four rfl).2
  · exact given6_any hi lo w h.h0 h.h1 h.l0 h.l1

set_option maxHeartbeats 800000 in
theorem implCompare_of (sa sb : Bool) (ha la hb lb hx lx hy ly c : Int) (sx sy : Bool) (GA : Ret 15 #[.agg #[.bool sa, .int .u64 (ha), .int .u64 (la)]] (.agg #[.int .u64 (hx), .int .u64 (lx), .bool true, .bool sx, .string ⟨#[]⟩])) (GB : Ret 15 #[.agg #[.bool sb, .int .u64 (hb), .int .u64 (lb)]] (.agg #[.int .u64 (hy), .int .u64 (ly), .bool true, .bool sy, .string ⟨#[]⟩]))
    (GC : Ret 16 #[.agg #[.int .u64 (hx), .int .u64 (lx), .bool true, .bool sx, .string ⟨#[]⟩], .agg #[.int .u64 (hy), .int .u64 (ly), .bool true, .bool sy, .string ⟨#[]⟩]] (.int .i64 c)) : Ret 7 #[.agg #[.bool sa, .int .u64 (ha), .int .u64 (la)], .agg #[.bool sb, .int .u64 (hb), .int .u64 (lb)]] (.int .i64 c) := by
  intro w
  go_enter Tryd.func7, Tryd.ntmps7
  go_wp2
  refine wp_region_quiet_below (by kernel_rfl) (by kernel_rfl) ?_
  repeat quiet_step (fail)
  quiet_step (with_reducible exact Calls.regrown_of (GA.at _))
  repeat quiet_step (fail)
  quiet_step (with_reducible exact Calls.regrown_of (GB.at _))
  repeat quiet_step (fail)
  quiet_step (with_reducible exact Calls.regrown_of (GC.at _))
  repeat quiet_step (fail)
  refine wpQuiet_nil ?_
  intro w1 hb1
  replace hb1 := below_of hb1
  obtain ⟨hc1, hf1⟩ := rules hb1
  have hs1 := hb1.size
  try simp only [World.size_alloc, World.size_setCell, World.size_drew] at hs1
  go_wp2
  go_ret
  refine ⟨rfl, ?_⟩
  repeat (first | with_reducible exact Below.refl _ _ | with_reducible refine Below.setCell ?_ (by first | omega | (simp only [World.size_alloc, World.size_setCell, World.size_drew]; omega)) _ | with_reducible refine Below.alloc ?_ (by first | omega | (simp only [World.size_alloc, World.size_setCell, World.size_drew]; omega)) _ | with_reducible refine Below.drew ?_ | with_reducible refine Below.trans ?_ (hb1.mono (by first | omega | (simp only [World.size_alloc, World.size_setCell, World.size_drew]; omega))))
theorem implCompare_any {sa sb : Bool} {ha la hb lb : Int} (hA : InAd sa ha la) (hB : InAd sb hb lb) : Ret 7 #[.agg #[.bool sa, .int .u64 (ha), .int .u64 (la)], .agg #[.bool sb, .int .u64 (hb), .int .u64 (lb)]] (.int .i64 (scmp sa (gh sa ha) (gl sa la) sb (gh sb hb) (gl sb lb))) :=
  implCompare_of _ _ _ _ _ _ _ _ _ _ _ _ _ (given_six hA) (given_six hB) (compare_any _ _ _ _ _ _)

theorem scmp_given {sa sb : Bool} {ha la hb lb : Int} (hA : InAd sa ha la) (hB : InAd sb hb lb) : scmp sa (gh sa ha) (gl sa la) sb (gh sb hb) (gl sb lb) = scmp sa ha la sb hb lb := by
  cases sa <;> cases sb <;> simp only [scmp, gh, gl]
  · have h1 := (hA.four rfl).1
    have h2 := (hB.four rfl).1
    subst h1 h2
    simp only [sgn, ne_eq, not_true_eq_false, if_false, Bool.false_eq_true]
    repeat' split
    all_goals omega
  · rfl
  · rfl
  · rfl

def sgnB (a b : Bool) : Int := if a then -1 else if b then 1 else 0
theorem sign_any (a b : Bool) : Ret 17 #[.bool a, .bool b] (.int .i64 (sgnB a b)) := by
  intro w
  cases a <;> cases b
  all_goals
    go_enter Tryd.func17, Tryd.ntmps17
    go_wp2
    go_ret
    exact ⟨rfl, Below.refl _ _⟩
theorem sgn_eq (a b : Int) : sgnB (decide (a < b)) (decide (b < a)) = sgn a b := by
  unfold sgnB sgn
  simp only [decide_eq_true_eq]

set_option maxHeartbeats 800000 in
theorem specCompare_apart (sa sb : Bool) (ha la hb lb : Int) (hs : sa ≠ sb) : Ret 8 #[.agg #[.bool sa, .int .u64 (ha), .int .u64 (la)], .agg #[.bool sb, .int .u64 (hb), .int .u64 (lb)]] (.int .i64 (if sb then -1 else 1)) := by
  intro w
  cases sa <;> cases sb <;> first | exact absurd rfl hs | skip
  all_goals
    clear hs
    go_enter Tryd.func8, Tryd.ntmps8
    go_wp2_with fail
    refine ((sign_any _ _).at _).mono ?_
    rintro e w1 ⟨rfl, hb1⟩
    obtain ⟨hc1, hf1⟩ := rulesB (B := w.heap.size + 2) hb1 (by first | omega | (simp only [World.size_alloc, World.size_setCell, World.size_drew]; omega))
    have hs1 := hb1.size
    try simp only [World.size_alloc, World.size_setCell, World.size_drew] at hs1
    go_wp2
    go_ret
    refine ⟨rfl, ?_⟩
    repeat (first | with_reducible exact Below.refl _ _ | with_reducible refine Below.setCell ?_ (by first | omega | (simp only [World.size_alloc, World.size_setCell, World.size_drew]; omega)) _ | with_reducible refine Below.alloc ?_ (by first | omega | (simp only [World.size_alloc, World.size_setCell, World.size_drew]; omega)) _ | with_reducible refine Below.drew ?_ | with_reducible refine Below.trans ?_ (hb1.mono (by first | omega | (simp only [World.size_alloc, World.size_setCell, World.size_drew]; omega))))
set_option maxHeartbeats 800000 in
theorem specCompare_hi (s : Bool) (ha la hb lb : Int) (d : (ha == hb) = false) : Ret 8 #[.agg #[.bool s, .int .u64 (ha), .int .u64 (la)], .agg #[.bool s, .int .u64 (hb), .int .u64 (lb)]] (.int .i64 (sgn ha hb)) := by
  intro w
  have S := Lib.hid (sgn_eq ha hb)
  cases s
  all_goals
    go_enter Tryd.func8, Tryd.ntmps8
    go_wp2_with fail
    refine ((sign_any _ _).at _).mono ?_
    rintro e w1 ⟨rfl, hb1⟩
    obtain ⟨hc1, hf1⟩ := rulesB (B := w.heap.size + 2) hb1 (by first | omega | (simp only [World.size_alloc, World.size_setCell, World.size_drew]; omega))
    have hs1 := hb1.size
    try simp only [World.size_alloc, World.size_setCell, World.size_drew] at hs1
    go_wp2
    go_ret
    refine ⟨by rw [← S.out]; rfl, ?_⟩
    repeat (first | with_reducible exact Below.refl _ _ | with_reducible refine Below.setCell ?_ (by first | omega | (simp only [World.size_alloc, World.size_setCell, World.size_drew]; omega)) _ | with_reducible refine Below.alloc ?_ (by first | omega | (simp only [World.size_alloc, World.size_setCell, World.size_drew]; omega)) _ | with_reducible refine Below.drew ?_ | with_reducible refine Below.trans ?_ (hb1.mono (by first | omega | (simp only [World.size_alloc, World.size_setCell, World.size_drew]; omega))))
set_option maxHeartbeats 800000 in
theorem specCompare_lo (s : Bool) (ha la lb : Int) : Ret 8 #[.agg #[.bool s, .int .u64 (ha), .int .u64 (la)], .agg #[.bool s, .int .u64 (ha), .int .u64 (lb)]] (.int .i64 (sgn la lb)) := by
  intro w
  have S := Lib.hid (sgn_eq la lb)
  cases s
  all_goals
    go_enter Tryd.func8, Tryd.ntmps8
    go_wp2_with fail
    refine ((sign_any _ _).at _).mono ?_
    rintro e w1 ⟨rfl, hb1⟩
    obtain ⟨hc1, hf1⟩ := rulesB (B := w.heap.size + 2) hb1 (by first | omega | (simp only [World.size_alloc, World.size_setCell, World.size_drew]; omega))
    have hs1 := hb1.size
    try simp only [World.size_alloc, World.size_setCell, World.size_drew] at hs1
    go_wp2
    go_ret
    refine ⟨by rw [← S.out]; rfl, ?_⟩
    repeat (first | with_reducible exact Below.refl _ _ | with_reducible refine Below.setCell ?_ (by first | omega | (simp only [World.size_alloc, World.size_setCell, World.size_drew]; omega)) _ | with_reducible refine Below.alloc ?_ (by first | omega | (simp only [World.size_alloc, World.size_setCell, World.size_drew]; omega)) _ | with_reducible refine Below.drew ?_ | with_reducible refine Below.trans ?_ (hb1.mono (by first | omega | (simp only [World.size_alloc, World.size_setCell, World.size_drew]; omega))))
theorem specCompare_any (sa sb : Bool) (ha la hb lb : Int) : Ret 8 #[.agg #[.bool sa, .int .u64 (ha), .int .u64 (la)], .agg #[.bool sb, .int .u64 (hb), .int .u64 (lb)]] (.int .i64 (scmp sa ha la sb hb lb)) := by
  unfold scmp
  by_cases h : sa = sb
  · subst h
    rw [if_neg (by simp)]
    by_cases h2 : ha = hb
    · subst h2; rw [if_neg (by simp)]; exact specCompare_lo sa ha la lb
    · rw [if_pos h2]; exact specCompare_hi sa ha la hb lb (beq_eq_false_iff_ne.2 h2)
  · rw [if_pos h]; exact specCompare_apart sa sb ha la hb lb h

def wide (six : Bool) : Int := if six then 128 else 32
theorem specLen_any (six : Bool) (hi lo : Int) : Ret 14 #[.agg #[.bool six, .int .u64 (hi), .int .u64 (lo)]] (.int .i64 (wide six)) := by
  intro w
  cases six
  all_goals
    go_enter Tryd.func14, Tryd.ntmps14
    go_wp2
    go_ret
    refine ⟨rfl, ?_⟩
    repeat (first | with_reducible exact Below.refl _ _ | with_reducible refine Below.setCell ?_ (by first | omega | (simp only [World.size_alloc, World.size_setCell, World.size_drew]; omega)) _ | with_reducible refine Below.alloc ?_ (by first | omega | (simp only [World.size_alloc, World.size_setCell, World.size_drew]; omega)) _ | with_reducible refine Below.drew ?_)
end Go.Proofs.YtkploaapcpjkbaaDoor
