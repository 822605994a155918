/- Contract: appendDecimal. -/
import Derived.Test.YtkploaapcpjkbaaGreatDoorC0
import Derived.Test.YtkploaapcpjkbaaGreatDoorB1
namespace Go.Proofs.YtkploaapcpjkbaaGreatDoor
open Go Go.RowKit Go.Sort
set_option linter.unusedVariables false
set_option linter.unusedSimpArgs false
attribute [local go_sem] cell_gr

/-- The hexadecimal digit, as the code reads it off its constant. -/
def hx (d : Int) : Int := (((#[48, 49, 50, 51, 52, 53, 54, 55, 56, 57, 97, 98, 99, 100, 101, 102] : Array UInt8).getD d.toNat 0).toNat : Int)
theorem hx_at (d : Int) (h : d.toNat < (⟨#[48, 49, 50, 51, 52, 53, 54, 55, 56, 57, 97, 98, 99, 100, 101, 102]⟩ : ByteArray).size) : (((⟨#[48, 49, 50, 51, 52, 53, 54, 55, 56, 57, 97, 98, 99, 100, 101, 102]⟩ : ByteArray)[d.toNat]'h).toNat : Int) = hx d := by
  unfold hx
  rw [Array.getD_eq_getD_getElem?, Array.getElem?_eq_getElem h]; rfl
attribute [local go_sem] hx_at
def dig (d : Int) : Value := .int .u8 (hx d)
def dec (x : Int) : List Value :=
  if 100 ≤ x then [dig (x / 100), dig (x / 10 % 10), dig (x % 10)] else if 10 ≤ x then [dig (x / 10 % 10), dig (x % 10)] else [dig (x % 10)]


set_option maxHeartbeats 400000 in
theorem appendDecimal_1 (g cap k : Nat) (xs : List Value) (x : Int) (w : World) (h0 : 0 ≤ x) (h1 : x < 10) (hb : Buf w g cap k xs) (hr : k + 1 ≤ cap) :
    Calls Tryz.prog 51 #[.slice (some ⟨g, 0, none⟩) k cap, .int .u8 x] w (Appends w g cap k xs [dig (x % 10)]) := by
  have hG := grown_refl w g
  go_enter Tryz.func51, Tryz.ntmps51
  go_wp2_with (at_builtin; refine append1 rfl _ _ rfl rfl rfl (by assumption) (by assumption) rfl (by omega) ?_; intro w1 hB1 hG1)
  go_ret
  exact ⟨rfl, by simpa [List.append_assoc, dig] using hB1, hG1⟩

set_option maxHeartbeats 400000 in
theorem appendDecimal_2 (g cap k : Nat) (xs : List Value) (x : Int) (w : World) (h0 : 10 ≤ x) (h1 : x < 100) (hb : Buf w g cap k xs) (hr : k + 2 ≤ cap) :
    Calls Tryz.prog 51 #[.slice (some ⟨g, 0, none⟩) k cap, .int .u8 x] w (Appends w g cap k xs [dig (x / 10 % 10), dig (x % 10)]) := by
  have hG := grown_refl w g
  go_enter Tryz.func51, Tryz.ntmps51
  go_wp2_with (at_builtin; refine append1 rfl _ _ rfl rfl rfl (by assumption) (by assumption) rfl (by omega) ?_; intro w1 hB1 hG1)
  go_ret
  exact ⟨rfl, by simpa [List.append_assoc, dig] using hB1, hG1⟩

set_option maxHeartbeats 400000 in
theorem appendDecimal_3 (g cap k : Nat) (xs : List Value) (x : Int) (w : World) (h0 : 100 ≤ x) (h1 : x < 256) (hb : Buf w g cap k xs) (hr : k + 3 ≤ cap) :
    Calls Tryz.prog 51 #[.slice (some ⟨g, 0, none⟩) k cap, .int .u8 x] w (Appends w g cap k xs [dig (x / 100), dig (x / 10 % 10), dig (x % 10)]) := by
  have hG := grown_refl w g
  go_enter Tryz.func51, Tryz.ntmps51
  go_wp2_with (at_builtin; refine append1 rfl _ _ rfl rfl rfl (by assumption) (by assumption) rfl (by omega) ?_; intro w1 hB1 hG1)
  go_ret
  exact ⟨rfl, by simpa [List.append_assoc, dig] using hB1, hG1⟩


/-- The same as numbers. -/
def decI (x : Int) : List Int :=
  if 100 ≤ x then [hx (x / 100), hx (x / 10 % 10), hx (x % 10)] else if 10 ≤ x then [hx (x / 10 % 10), hx (x % 10)] else [hx (x % 10)]
theorem dec_eq (x : Int) : dec x = (decI x).map (Value.int .u8) := by
  unfold dec decI; split <;> (try split) <;> rfl
theorem dec_len (x : Int) : 1 ≤ (dec x).length ∧ (dec x).length ≤ 3 := by unfold dec; split <;> (try split) <;> simp

theorem appendDecimal_any (g cap k : Nat) (xs : List Value) (x : Int) (w : World) (h0 : 0 ≤ x) (h1 : x < 256) (hb : Buf w g cap k xs) (hr : k + (dec x).length ≤ cap) :
    Calls Tryz.prog 51 #[.slice (some ⟨g, 0, none⟩) k cap, .int .u8 x] w (Appends w g cap k xs (dec x)) := by
  unfold dec at hr ⊢
  by_cases c1 : 100 ≤ x
  · rw [if_pos c1] at hr ⊢; exact appendDecimal_3 g cap k xs x w c1 h1 hb hr
  · by_cases c2 : 10 ≤ x
    · rw [if_neg c1, if_pos c2] at hr ⊢; exact appendDecimal_2 g cap k xs x w c2 (by omega) hb hr
    · rw [if_neg c1, if_neg c2] at hr ⊢; exact appendDecimal_1 g cap k xs x w h0 (by omega) hb hr
end Go.Proofs.YtkploaapcpjkbaaGreatDoor
