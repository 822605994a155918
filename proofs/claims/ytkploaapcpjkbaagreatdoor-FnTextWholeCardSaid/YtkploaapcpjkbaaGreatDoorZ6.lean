/- Contract: appendHexPad. -/
import Derived.Test.YtkploaapcpjkbaaGreatDoorZ5
import Derived.Deep.RegionLaw
import Derived.BigRegion
namespace Go.Proofs.YtkploaapcpjkbaaGreatDoor
open Go Go.RowKit Go.Sort
set_option linter.unusedVariables false
set_option linter.unusedSimpArgs false
attribute [local go_sem] cell_gr hx_at

def padU (x : Int) : List UInt8 := [hxU (x / 4096), hxU (x / 256 % 16), hxU (x / 16 % 16), hxU (x % 16)]
theorem step_four {ops : Array Oper} {o : Oper} {a : Act} {w wX : World} {K : Act → World → Prop} {Q : Exit → Act → World → Prop} {E : Prop} {g cap k : Nat} {xs : List Value} {v1 v2 v3 v4 : Value} (hgd : o.guard = none) (s x : Operand) (ho : o.op = .call { callee := .builtin .append, args := #[s, x], argTypes := #[60, 60] })
    (hs : a.eval s = .slice (some ⟨g, 0, none⟩) k cap) (hx : a.eval x = .slice (some ⟨w.heap.size, 0, none⟩) 4 4) (hW : wX = w.drew.alloc (.cells #[v1, v2, v3, v4] 5)) (hB : Buf w g cap k xs) (hv1 : v1.oneCell' = true) (hv2 : v2.oneCell' = true) (hv3 : v3.oneCell' = true) (hv4 : v4.oneCell' = true) (hr : k + 4 ≤ cap)
    (h : ∀ w', Buf w' g cap (k + 4) (xs ++ [v1, v2, v3, v4]) → w.grownBy w' (some g) → K (a.put o.dst (.slice (some ⟨g, 0, none⟩) (k + 4) cap)) w') :
    if Region.wanted o (yielded ops a.tmps) = true then Oper.wp Tryz.prog o a wX K Q else E := by
  have hw : Region.wanted o (yielded ops a.tmps) = true := by simp [Region.wanted, hgd]
  rw [if_pos hw]
  subst hW
  obtain ⟨i0, hi, hz0, hz1, hz2⟩ := info_parts info5
  have hB' : Buf (w.drew.alloc (.cells #[v1, v2, v3, v4] 5)) g cap k xs := World.ownsRow.alloc (World.ownsRow.drew hB) _
  obtain ⟨w', hrun, r1, r2⟩ := run_append_fits (P := Tryz.prog) (w.drew.alloc (.cells #[v1, v2, v3, v4] 5)) 0 60 o.type 5 i0 1 Tryz.underlying60 hi hz1 g k cap xs hB' ⟨w.heap.size, 0, none⟩ 4 4 [v1, v2, v3, v4] rfl (by
    intro j u hj
    show (w.drew.alloc (.cells #[v1, v2, v3, v4] 5)).cell? ((⟨w.drew.heap.size, 0, none⟩ : Addr).add j) = some u
    rw [Addr.add_mid, Nat.zero_add, World.cell?_alloc_at _ _ _ _ rfl]
    simpa using hj) (by simpa using ⟨hv1, hv2, hv3, hv4⟩) hr
  unfold Oper.wp
  simp [execOp, ho, resolve, invoke, builtin, hs, hx, hrun, Result.andThen]
  have hd : w.grownBy w.drew (some g) := ⟨rfl, rfl, rfl, Nat.le_refl _, fun _ _ _ => rfl⟩
  exact h w' r1 (grown_trans (grown_alloc hd _) r2)

set_option maxHeartbeats 3200000 in
set_option maxRecDepth 100000 in
theorem appendHexPad_any (g cap k : Nat) (xs : List Value) (x : Int) (w : World) (h0 : 0 ≤ x) (h1 : x < 65536) (hb : Buf w g cap k xs) (hr : k + 4 ≤ cap) :
    Calls Tryz.prog 47 #[.slice (some ⟨g, 0, none⟩) k cap, .int .u16 x] w (Appends w g cap k xs (vals (padU x))) := by
  have e0 : bits .and .u16 x 15 = x % 16 := u16_low4 x (by omega) (by omega)
  have e1 : bits .and .u16 (x / 16) 15 = x / 16 % 16 := u16_low4 _ (by omega) (by omega)
  have e2 : bits .and .u16 (x / 256) 15 = x / 256 % 16 := u16_low4 _ (by omega) (by omega)
  have i0 : 0 ≤ x / 4096 := by omega
  have i1 : x / 4096 < 16 := by omega
  have j0 : 0 ≤ x / 256 % 16 := by omega
  have j1 : x / 256 % 16 < 16 := by omega
  have k0 : 0 ≤ x / 16 % 16 := by omega
  have k1 : x / 16 % 16 < 16 := by omega
  have l0 : 0 ≤ x % 16 := by omega
  have l1 : x % 16 < 16 := by omega
  have HB := Lib.hid hb
  go_enter Tryz.func47, Tryz.ntmps47
  go_wp2
  go_region_law (refine step_four rfl (.tmp 5) (.tmp 20) rfl (by simp [Act.eval, Act.put]) (by simp [Act.eval, Act.put]) rfl HB.out rfl rfl rfl rfl hr ?_; intro w2 hB2 hG2)
  all_goals
    go_wp2
    go_ret
    exact ⟨rfl, hB2, hG2⟩

end Go.Proofs.YtkploaapcpjkbaaGreatDoor
