/- Contracts: appendHex, appendHexPad. -/
import Derived.Test.YtkploaapcpjkbaaGreatDoorC1
import Derived.Test.YtkploaapcpjkbaaGreatDoorP
namespace Go.Proofs.YtkploaapcpjkbaaGreatDoor
open Go Go.RowKit Go.Sort
set_option linter.unusedVariables false
set_option linter.unusedSimpArgs false
attribute [local go_sem] cell_gr hx_at

theorem u16_low4 (x : Int) (h0 : 0 ≤ x) (h1 : x < 65536) : bits .and .u16 x 15 = x % 16 := by
  have h := bits_mask .u16 16 (by decide) wraps_u16 4 (by decide) x h0 h1
  exact h

/-- A number in hexadecimal. -/
def hexV (x : Int) : List Value :=
  if 4096 ≤ x then [dig (x / 4096), dig (x / 256 % 16), dig (x / 16 % 16), dig (x % 16)] else if 256 ≤ x then [dig (x / 256 % 16), dig (x / 16 % 16), dig (x % 16)] else if 16 ≤ x then [dig (x / 16 % 16), dig (x % 16)] else [dig (x % 16)]


set_option maxHeartbeats 800000 in
theorem appendHex_1 (g cap k : Nat) (xs : List Value) (x : Int) (w : World) (h0 : 0 ≤ x) (h1 : x < 16) (hb : Buf w g cap k xs) (hr : k + 1 ≤ cap) :
    Calls Tryz.prog 55 #[.slice (some ⟨g, 0, none⟩) k cap, .int .u16 x] w (Appends w g cap k xs [dig (x % 16)]) := by
  have hG := grown_refl w g
  have e0 : bits .and .u16 x 15 = x % 16 := u16_low4 x (by omega) (by omega)
  have e1 : bits .and .u16 (x / 16) 15 = x / 16 % 16 := u16_low4 _ (by omega) (by omega)
  have e2 : bits .and .u16 (x / 256) 15 = x / 256 % 16 := u16_low4 _ (by omega) (by omega)
  go_enter Tryz.func55, Tryz.ntmps55
  go_wp2_with (at_builtin; refine append1 rfl _ _ rfl rfl rfl (by assumption) (by assumption) rfl (by omega) ?_; intro w1 hB1 hG1)
  go_ret
  exact ⟨rfl, by simpa [List.append_assoc, dig] using hB1, hG1⟩

set_option maxHeartbeats 800000 in
theorem appendHex_2 (g cap k : Nat) (xs : List Value) (x : Int) (w : World) (h0 : 16 ≤ x) (h1 : x < 256) (hb : Buf w g cap k xs) (hr : k + 2 ≤ cap) :
    Calls Tryz.prog 55 #[.slice (some ⟨g, 0, none⟩) k cap, .int .u16 x] w (Appends w g cap k xs [dig (x / 16 % 16), dig (x % 16)]) := by
  have hG := grown_refl w g
  have e0 : bits .and .u16 x 15 = x % 16 := u16_low4 x (by omega) (by omega)
  have e1 : bits .and .u16 (x / 16) 15 = x / 16 % 16 := u16_low4 _ (by omega) (by omega)
  have e2 : bits .and .u16 (x / 256) 15 = x / 256 % 16 := u16_low4 _ (by omega) (by omega)
  go_enter Tryz.func55, Tryz.ntmps55
  go_wp2_with (at_builtin; refine append1 rfl _ _ rfl rfl rfl (by assumption) (by assumption) rfl (by omega) ?_; intro w1 hB1 hG1)
  go_ret
  exact ⟨rfl, by simpa [List.append_assoc, dig] using hB1, hG1⟩

set_option maxHeartbeats 800000 in
theorem appendHex_3 (g cap k : Nat) (xs : List Value) (x : Int) (w : World) (h0 : 256 ≤ x) (h1 : x < 4096) (hb : Buf w g cap k xs) (hr : k + 3 ≤ cap) :
    Calls Tryz.prog 55 #[.slice (some ⟨g, 0, none⟩) k cap, .int .u16 x] w (Appends w g cap k xs [dig (x / 256 % 16), dig (x / 16 % 16), dig (x % 16)]) := by
  have hG := grown_refl w g
  have e0 : bits .and .u16 x 15 = x % 16 := u16_low4 x (by omega) (by omega)
  have e1 : bits .and .u16 (x / 16) 15 = x / 16 % 16 := u16_low4 _ (by omega) (by omega)
  have e2 : bits .and .u16 (x / 256) 15 = x / 256 % 16 := u16_low4 _ (by omega) (by omega)
  go_enter Tryz.func55, Tryz.ntmps55
  go_wp2_with (at_builtin; refine append1 rfl _ _ rfl rfl rfl (by assumption) (by assumption) rfl (by omega) ?_; intro w1 hB1 hG1)
  go_ret
  exact ⟨rfl, by simpa [List.append_assoc, dig] using hB1, hG1⟩

set_option maxHeartbeats 800000 in
theorem appendHex_4 (g cap k : Nat) (xs : List Value) (x : Int) (w : World) (h0 : 4096 ≤ x) (h1 : x < 65536) (hb : Buf w g cap k xs) (hr : k + 4 ≤ cap) :
    Calls Tryz.prog 55 #[.slice (some ⟨g, 0, none⟩) k cap, .int .u16 x] w (Appends w g cap k xs [dig (x / 4096), dig (x / 256 % 16), dig (x / 16 % 16), dig (x % 16)]) := by
  have hG := grown_refl w g
  have e0 : bits .and .u16 x 15 = x % 16 := u16_low4 x (by omega) (by omega)
  have e1 : bits .and .u16 (x / 16) 15 = x / 16 % 16 := u16_low4 _ (by omega) (by omega)
  have e2 : bits .and .u16 (x / 256) 15 = x / 256 % 16 := u16_low4 _ (by omega) (by omega)
  go_enter Tryz.func55, Tryz.ntmps55
  go_wp2_with (at_builtin; refine append1 rfl _ _ rfl rfl rfl (by assumption) (by assumption) rfl (by omega) ?_; intro w1 hB1 hG1)
  go_ret
  exact ⟨rfl, by simpa [List.append_assoc, dig] using hB1, hG1⟩


theorem hexV_len (x : Int) : 1 ≤ (hexV x).length ∧ (hexV x).length ≤ 4 := by unfold hexV; split <;> (try split) <;> (try split) <;> simp
theorem appendHex_any (g cap k : Nat) (xs : List Value) (x : Int) (w : World) (h0 : 0 ≤ x) (h1 : x < 65536) (hb : Buf w g cap k xs) (hr : k + (hexV x).length ≤ cap) :
    Calls Tryz.prog 55 #[.slice (some ⟨g, 0, none⟩) k cap, .int .u16 x] w (Appends w g cap k xs (hexV x)) := by
  unfold hexV at hr ⊢
  by_cases c1 : 4096 ≤ x
  · rw [if_pos c1] at hr ⊢; exact appendHex_4 g cap k xs x w c1 h1 hb hr
  · by_cases c2 : 256 ≤ x
    · rw [if_neg c1, if_pos c2] at hr ⊢; exact appendHex_3 g cap k xs x w c2 (by omega) hb hr
    · by_cases c3 : 16 ≤ x
      · rw [if_neg c1, if_neg c2, if_pos c3] at hr ⊢; exact appendHex_2 g cap k xs x w c3 (by omega) hb hr
      · rw [if_neg c1, if_neg c2, if_neg c3] at hr ⊢; exact appendHex_1 g cap k xs x w h0 (by omega) hb hr
end Go.Proofs.YtkploaapcpjkbaaGreatDoor
