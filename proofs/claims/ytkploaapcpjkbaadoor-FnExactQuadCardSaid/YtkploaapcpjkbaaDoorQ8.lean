/- The walk of laws.FnExactQuad. -/
import Derived.Test.YtkploaapcpjkbaaDoorQ6
import Derived.Test.YtkploaapcpjkbaaDoorQ7
import Derived.Test.YtkploaapcpjkbaaDoorC3
import Derived.Test.YtkploaapcpjkbaaDoorSA
namespace Go.Proofs.YtkploaapcpjkbaaDoor
open Go Go.RowKit Go.Sort
set_option linter.unusedVariables false
set_option linter.unusedSimpArgs false
attribute [local go_sem] cell_gr

set_option maxHeartbeats 3200000 in
theorem law_bad (a0 a1 a2 a3 zs n : Int) (S : ByteArray) (w : World)
    (HQ : Hid (Calls Tryd.prog 12 #[.int .u16 a0, .int .u16 a1, .int .u16 a2, .int .u16 a3, .int .u8 zs] w fun e w' => e = .returned (.tuple #[.string S, .bool false, .int .u64 n]) ∧ Below w.heap.size w w'))
    (HP : Ret 13 #[.string S] (.tuple #[.agg #[.bool false, .int .u64 (0), .int .u64 (0)], .bool false])) :
    Calls Tryd.prog 4 #[.int .u16 a0, .int .u16 a1, .int .u16 a2, .int .u16 a3, .int .u8 zs] w fun e w' => e = .returned (.bool true) ∧ Below w.heap.size w w' := by
  go_enter Tryd.func4, Tryd.ntmps4
  go_wp2_with fail
  refine HQ.out.mono ?_
  rintro e w1 ⟨rfl, hb1⟩
  have hs1 := hb1.size
  go_wp2_with fail
  refine (HP.at _).mono ?_
  rintro e w2 ⟨rfl, hb2⟩
  obtain ⟨hc2, hf2⟩ := rulesB (B := w1.heap.size) hb2 (by first | omega | (simp only [World.size_alloc, World.size_setCell, World.size_drew]; omega))
  have hs2 := hb2.size
  try simp only [World.size_alloc, World.size_setCell, World.size_drew] at hs2
  go_wp2
  refine wp_region_quiet_below (by kernel_rfl) (by kernel_rfl) ?_
  repeat quiet_step (fail)
  quiet_step (with_reducible exact Calls.regrown_of (sane_any _))
  repeat quiet_step (fail)
  refine wpQuiet_nil ?_
  intro w3 hb3
  replace hb3 := below_of hb3
  obtain ⟨hc3, hf3⟩ := rules hb3
  have hs3 := hb3.size
  try simp only [World.size_alloc, World.size_setCell, World.size_drew] at hs3
  go_wp2
  go_ret
  refine ⟨rfl, ?_⟩
  repeat (first | with_reducible exact Below.refl _ _ | with_reducible refine Below.setCell ?_ (by first | omega | (simp only [World.size_alloc, World.size_setCell, World.size_drew]; omega)) _ | with_reducible refine Below.alloc ?_ (by first | omega | (simp only [World.size_alloc, World.size_setCell, World.size_drew]; omega)) _ | with_reducible refine Below.drew ?_ | with_reducible refine Below.trans ?_ (hb3.mono (by first | omega | (simp only [World.size_alloc, World.size_setCell, World.size_drew]; omega))) | with_reducible refine Below.trans ?_ (hb2.mono (by first | omega | (simp only [World.size_alloc, World.size_setCell, World.size_drew]; omega))) | with_reducible refine Below.trans ?_ (hb1.mono (by first | omega | (simp only [World.size_alloc, World.size_setCell, World.size_drew]; omega))))

set_option maxHeartbeats 3200000 in
theorem law_good (a0 a1 a2 a3 zs n : Int) (S : ByteArray) (w : World) (n0 : 0 ≤ n) (n1 : n < 4294967296)
    (HQ : Hid (Calls Tryd.prog 12 #[.int .u16 a0, .int .u16 a1, .int .u16 a2, .int .u16 a3, .int .u8 zs] w fun e w' => e = .returned (.tuple #[.string S, .bool true, .int .u64 n]) ∧ Below w.heap.size w w'))
    (HP : Ret 13 #[.string S] (.tuple #[.agg #[.bool false, .int .u64 (0), .int .u64 (n)], .bool true])) :
    Calls Tryd.prog 4 #[.int .u16 a0, .int .u16 a1, .int .u16 a2, .int .u16 a3, .int .u8 zs] w fun e w' => e = .returned (.bool true) ∧ Below w.heap.size w w' := by
  have HA : Ret 6 #[.bool false, .int .u64 0, .int .u64 n] (.agg #[.bool false, .int .u64 (0), .int .u64 (n)]) := fun w => by
    have h := specAddr_no 0 n w n0 (by omega)
    rwa [show n % 4294967296 = n by omega] at h
  go_enter Tryd.func4, Tryd.ntmps4
  go_wp2_with fail
  refine HQ.out.mono ?_
  rintro e w1 ⟨rfl, hb1⟩
  have hs1 := hb1.size
  go_wp2_with fail
  refine (HP.at _).mono ?_
  rintro e w2 ⟨rfl, hb2⟩
  obtain ⟨hc2, hf2⟩ := rulesB (B := w1.heap.size) hb2 (by first | omega | (simp only [World.size_alloc, World.size_setCell, World.size_drew]; omega))
  have hs2 := hb2.size
  try simp only [World.size_alloc, World.size_setCell, World.size_drew] at hs2
  go_wp2
  refine wp_region_quiet_below (by kernel_rfl) (by kernel_rfl) ?_
  repeat quiet_step (fail)
  quiet_step (with_reducible exact Calls.regrown_of (HA.at _))
  repeat quiet_step (fail)
  quiet_step (with_reducible exact Calls.regrown_of (sane_any _))
  repeat quiet_step (fail)
  refine wpQuiet_nil ?_
  intro w3 hb3
  replace hb3 := below_of hb3
  obtain ⟨hc3, hf3⟩ := rules hb3
  have hs3 := hb3.size
  try simp only [World.size_alloc, World.size_setCell, World.size_drew] at hs3
  go_wp2
  go_ret
  refine ⟨rfl, ?_⟩
  repeat (first | with_reducible exact Below.refl _ _ | with_reducible refine Below.setCell ?_ (by first | omega | (simp only [World.size_alloc, World.size_setCell, World.size_drew]; omega)) _ | with_reducible refine Below.alloc ?_ (by first | omega | (simp only [World.size_alloc, World.size_setCell, World.size_drew]; omega)) _ | with_reducible refine Below.drew ?_ | with_reducible refine Below.trans ?_ (hb3.mono (by first | omega | (simp only [World.size_alloc, World.size_setCell, World.size_drew]; omega))) | with_reducible refine Below.trans ?_ (hb2.mono (by first | omega | (simp only [World.size_alloc, World.size_setCell, World.size_drew]; omega))) | with_reducible refine Below.trans ?_ (hb1.mono (by first | omega | (simp only [World.size_alloc, World.size_setCell, World.size_drew]; omega))))

theorem quad_law (a : Nat → Int) (zs : Int) (ha : ∀ k, 0 ≤ a k ∧ a k < 65536) (hz : 0 ≤ zs ∧ zs < 256) (w : World) (hT : Tab w) :
    Calls Tryd.prog 4 #[.int .u16 (a 0), .int .u16 (a 1), .int .u16 (a 2), .int .u16 (a 3), .int .u8 zs] w fun e w' => e = .returned (.bool true) ∧ Below w.heap.size w w' := by
  have HQ := quad_any a zs ha hz w hT
  have hl : (qtext a (zeroed zs) 4).length ≤ 20 := qtext_length a _ 4 ha
  have hS : (bs (qtext a (zeroed zs) 4)).size ≤ 1000 := by rw [bs_size]; omega
  have hR := run4_quad a (zeroed zs)
  have x0 : ∀ k, 0 ≤ a k % 300 ∧ a k % 300 < 300 := fun k => by omega
  have hE := qtext_eq a (zeroed zs)
  have hp : (piece (zeroed zs 0) (a 0 % 300)).length < (qtext a (zeroed zs) 4).length := by
    rw [hE]; simp only [List.length_append, List.length_cons]; omega
  have hd : ∀ i (h : i < (qtext a (zeroed zs) 4).length), i < (piece (zeroed zs 0) (a 0 % 300)).length → 48 ≤ ((qtext a (zeroed zs) 4)[i]).toNat ∧ ((qtext a (zeroed zs) 4)[i]).toNat ≤ 57 := fun i h hi => by
    have e : (qtext a (zeroed zs) 4)[i] = (piece (zeroed zs 0) (a 0 % 300))[i] := by
      simp only [hE]; rw [List.getElem_append_left hi]
    rw [e]
    exact piece_digits _ _ (x0 0).1 (x0 0).2 _ (List.getElem_mem hi)
  have h46 : ((qtext a (zeroed zs) 4)[(piece (zeroed zs 0) (a 0 % 300)).length]).toNat = 46 := by
    have e : (qtext a (zeroed zs) 4)[(piece (zeroed zs 0) (a 0 % 300)).length] = 46 := by
      simp only [hE]; rw [List.getElem_append_right (Nat.le_refl _)]; simp
    rw [e]; rfl
  cases hk : qok a (zeroed zs) 4
  · rw [hk] at HQ hR
    have hR' : run4 0 [] 0 true (qtext a (zeroed zs) 4) = none := by rw [hR]; rfl
    refine law_bad _ _ _ _ _ _ (bs (qtext a (zeroed zs) 4)) w (Lib.hid HQ) (fun w => parse_bad _ (Lib.hid fun w => ?_) w)
    exact parseAddr_of _ _ (Lib.hid rfl) hS _ hp (Lib.hid hd) (Lib.hid h46) 0 false (fun r => ∃ t x, r = .iface t x) (fun w => (parse4_bad _ _ (Lib.hid rfl) w hS (Lib.hid hR')).mono fun e w' ⟨⟨t, x, he⟩, hb⟩ => ⟨⟨_, ⟨t, x, rfl⟩, he⟩, hb⟩) w
  · rw [hk] at HQ hR
    have hR' : run4 0 [] 0 true (qtext a (zeroed zs) 4) = some [a 0 % 300, a 1 % 300, a 2 % 300, a 3 % 300] := by rw [hR]; rfl
    rw [qok_eq] at hk
    simp only [Bool.and_eq_true, decide_eq_true_eq] at hk
    obtain ⟨⟨_, k0⟩, ⟨_, k1⟩, ⟨_, k2⟩, _, k3⟩ := hk
    have hn : qnum a 4 = a 0 % 300 * 16777216 + a 1 % 300 * 65536 + a 2 % 300 * 256 + a 3 % 300 := by
      simp only [qnum]; omega
    have bn := qnum_bd a 4 (Nat.le_refl _)
    refine law_good _ _ _ _ _ _ (bs (qtext a (zeroed zs) 4)) w bn.1 bn.2 (Lib.hid HQ) (fun w => parse_ok _ _ bn.1 bn.2 (Lib.hid fun w => ?_) w)
    refine parseAddr_of _ _ (Lib.hid rfl) hS _ hp (Lib.hid hd) (Lib.hid h46) _ true (fun r => r = .nilIface) (fun w => ?_) w
    rw [hn]
    exact (parse4_ok _ _ (Lib.hid rfl) w hS _ _ _ _ ⟨(x0 0).1, k0⟩ ⟨(x0 1).1, k1⟩ ⟨(x0 2).1, k2⟩ ⟨(x0 3).1, k3⟩ (Lib.hid hR')).mono fun e w' ⟨he, hb⟩ => ⟨⟨_, rfl, he⟩, hb⟩
end Go.Proofs.YtkploaapcpjkbaaDoor
