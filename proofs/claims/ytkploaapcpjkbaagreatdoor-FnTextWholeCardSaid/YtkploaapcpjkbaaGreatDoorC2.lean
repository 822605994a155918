/- Contract: appendTo4. -/
import Derived.Test.YtkploaapcpjkbaaGreatDoorC1
namespace Go.Proofs.YtkploaapcpjkbaaGreatDoor
open Go Go.RowKit Go.Sort
set_option linter.unusedVariables false
set_option linter.unusedSimpArgs false
attribute [local go_sem] cell_gr

def dot : Value := .int .u8 46
/-- Four numbers in decimal with points between. -/
def quad (lo : Int) : List Value := dec (byteAt lo 3) ++ ([dot] ++ (dec (byteAt lo 2) ++ ([dot] ++ (dec (byteAt lo 1) ++ ([dot] ++ dec (byteAt lo 0))))))

def quadI (lo : Int) : List Int := decI (byteAt lo 3) ++ ([46] ++ (decI (byteAt lo 2) ++ ([46] ++ (decI (byteAt lo 1) ++ ([46] ++ decI (byteAt lo 0))))))
theorem quad_eq (lo : Int) : quad lo = (quadI lo).map (Value.int .u8) := by
  simp only [quad, quadI, dec_eq, dot, List.map_append, List.map_cons, List.map_nil]
theorem quad_len (lo : Int) : (quad lo).length ≤ 15 := by
  have h3 := dec_len (byteAt lo 3); have h2 := dec_len (byteAt lo 2); have h1 := dec_len (byteAt lo 1); have h0 := dec_len (byteAt lo 0)
  simp only [quad, List.length_append, List.length_cons, List.length_nil]
  omega

set_option maxHeartbeats 1600000 in
theorem appendTo4_any (z : Bool) (g cap k : Nat) (xs : List Value) (hi lo : Int) (w : World) (hl : 0 ≤ lo) (hl2 : lo < 18446744073709551616) (hb : Buf w g cap k xs) (hr : k + (quad lo).length ≤ cap) :
    Calls Tryz.prog 31 #[.agg #[.int .u64 (hi), .int .u64 (lo), .bool true, .bool z, .string ⟨#[]⟩], .slice (some ⟨g, 0, none⟩) k cap] w (Appends w g cap k xs (quad lo)) := by
  have hne : w.heap.size ≠ g := by have := hb.lt; omega
  have hB0 := hb.alloc (.cells #[.int .u64 hi, .int .u64 lo, .bool true, .bool z, .string ⟨#[]⟩] 36)
  have hG0 := grown_refl (w.alloc (.cells #[.int .u64 hi, .int .u64 lo, .bool true, .bool z, .string ⟨#[]⟩] 36)) g
  have HG := Lib.hid (grown_alloc (grown_refl w g) (.cells #[.int .u64 hi, .int .u64 lo, .bool true, .bool z, .string ⟨#[]⟩] 36))
  have hr' : k + ((dec (byteAt lo 3)).length + 1 + (dec (byteAt lo 2)).length + 1 + (dec (byteAt lo 1)).length + 1 + (dec (byteAt lo 0)).length) ≤ cap := by
    simp only [quad, List.length_append, List.length_cons, List.length_nil] at hr; omega
  clear hr hb
  go_enter Tryz.func31, Tryz.ntmps31
  go_wp2_with fail
  refine (v4_0 _ _ _ _ hl hl2).mono ?_
  rintro e w1 ⟨rfl, hb1⟩
  have hG1 := grown_below hG0 hb1
  have hB1 := hB0.below hb1
  clear hb1
  have hc1 := fun b o (h : b < _) (hn : b ≠ g) => grown_cell hG1 (p := ⟨b, o, none⟩) h hn
  have hf1 := fun b o (h : b < _) (hn : b ≠ g) => grown_frozen hG1 (p := ⟨b, o, none⟩) h hn
  have hs1 := hG1.size
  go_wp2_with fail
  refine (appendDecimal_any g cap _ _ _ _ (byteAt_bd _ _).1 (byteAt_bd _ _).2 hB1 (by omega)).mono ?_
  rintro e w2 ⟨rfl, hB2, hg2⟩
  have hG2 := grown_trans hG1 hg2
  clear hg2
  have hc2 := fun b o (h : b < _) (hn : b ≠ g) => grown_cell hG2 (p := ⟨b, o, none⟩) h hn
  have hf2 := fun b o (h : b < _) (hn : b ≠ g) => grown_frozen hG2 (p := ⟨b, o, none⟩) h hn
  have hs2 := hG2.size
  clear hc1 hf1
  go_wp2_with (at_builtin; refine append1 rfl _ _ rfl rfl rfl hB2 hG2 rfl (by omega) ?_; intro w3 hB3 hG3; clear hc2 hf2; have hc3 := fun b o (h : b < _) (hn : b ≠ g) => grown_cell hG3 (p := ⟨b, o, none⟩) h hn; have hf3 := fun b o (h : b < _) (hn : b ≠ g) => grown_frozen hG3 (p := ⟨b, o, none⟩) h hn; have hs3 := hG3.size)
  go_wp2_with fail
  refine (v4_1 _ _ _ _ hl hl2).mono ?_
  rintro e w4 ⟨rfl, hb4⟩
  have hG4 := grown_below hG3 hb4
  have hB4 := hB3.below hb4
  clear hb4
  have hc4 := fun b o (h : b < _) (hn : b ≠ g) => grown_cell hG4 (p := ⟨b, o, none⟩) h hn
  have hf4 := fun b o (h : b < _) (hn : b ≠ g) => grown_frozen hG4 (p := ⟨b, o, none⟩) h hn
  have hs4 := hG4.size
  clear hc3 hf3
  go_wp2_with fail
  refine (appendDecimal_any g cap _ _ _ _ (byteAt_bd _ _).1 (byteAt_bd _ _).2 hB4 (by omega)).mono ?_
  rintro e w5 ⟨rfl, hB5, hg5⟩
  have hG5 := grown_trans hG4 hg5
  clear hg5
  have hc5 := fun b o (h : b < _) (hn : b ≠ g) => grown_cell hG5 (p := ⟨b, o, none⟩) h hn
  have hf5 := fun b o (h : b < _) (hn : b ≠ g) => grown_frozen hG5 (p := ⟨b, o, none⟩) h hn
  have hs5 := hG5.size
  clear hc4 hf4
  go_wp2_with (at_builtin; refine append1 rfl _ _ rfl rfl rfl hB5 hG5 rfl (by omega) ?_; intro w6 hB6 hG6; clear hc5 hf5; have hc6 := fun b o (h : b < _) (hn : b ≠ g) => grown_cell hG6 (p := ⟨b, o, none⟩) h hn; have hf6 := fun b o (h : b < _) (hn : b ≠ g) => grown_frozen hG6 (p := ⟨b, o, none⟩) h hn; have hs6 := hG6.size)
  go_wp2_with fail
  refine (v4_2 _ _ _ _ hl hl2).mono ?_
  rintro e w7 ⟨rfl, hb7⟩
  have hG7 := grown_below hG6 hb7
  have hB7 := hB6.below hb7
  clear hb7
  have hc7 := fun b o (h : b < _) (hn : b ≠ g) => grown_cell hG7 (p := ⟨b, o, none⟩) h hn
  have hf7 := fun b o (h : b < _) (hn : b ≠ g) => grown_frozen hG7 (p := ⟨b, o, none⟩) h hn
  have hs7 := hG7.size
  clear hc6 hf6
  go_wp2_with fail
  refine (appendDecimal_any g cap _ _ _ _ (byteAt_bd _ _).1 (byteAt_bd _ _).2 hB7 (by omega)).mono ?_
  rintro e w8 ⟨rfl, hB8, hg8⟩
  have hG8 := grown_trans hG7 hg8
  clear hg8
  have hc8 := fun b o (h : b < _) (hn : b ≠ g) => grown_cell hG8 (p := ⟨b, o, none⟩) h hn
  have hf8 := fun b o (h : b < _) (hn : b ≠ g) => grown_frozen hG8 (p := ⟨b, o, none⟩) h hn
  have hs8 := hG8.size
  clear hc7 hf7
  go_wp2_with (at_builtin; refine append1 rfl _ _ rfl rfl rfl hB8 hG8 rfl (by omega) ?_; intro w9 hB9 hG9; clear hc8 hf8; have hc9 := fun b o (h : b < _) (hn : b ≠ g) => grown_cell hG9 (p := ⟨b, o, none⟩) h hn; have hf9 := fun b o (h : b < _) (hn : b ≠ g) => grown_frozen hG9 (p := ⟨b, o, none⟩) h hn; have hs9 := hG9.size)
  go_wp2_with fail
  refine (v4_3 _ _ _ _ hl hl2).mono ?_
  rintro e w10 ⟨rfl, hb10⟩
  have hG10 := grown_below hG9 hb10
  have hB10 := hB9.below hb10
  clear hb10
  have hc10 := fun b o (h : b < _) (hn : b ≠ g) => grown_cell hG10 (p := ⟨b, o, none⟩) h hn
  have hf10 := fun b o (h : b < _) (hn : b ≠ g) => grown_frozen hG10 (p := ⟨b, o, none⟩) h hn
  have hs10 := hG10.size
  clear hc9 hf9
  go_wp2_with fail
  refine (appendDecimal_any g cap _ _ _ _ (byteAt_bd _ _).1 (byteAt_bd _ _).2 hB10 (by omega)).mono ?_
  rintro e w11 ⟨rfl, hB11, hg11⟩
  have hG11 := grown_trans hG10 hg11
  clear hg11
  have hc11 := fun b o (h : b < _) (hn : b ≠ g) => grown_cell hG11 (p := ⟨b, o, none⟩) h hn
  have hf11 := fun b o (h : b < _) (hn : b ≠ g) => grown_frozen hG11 (p := ⟨b, o, none⟩) h hn
  have hs11 := hG11.size
  clear hc10 hf10
  go_wp2
  go_ret
  refine ⟨?_, ?_, grown_trans HG.out hG11⟩
  · exact ret_len (by simp only [quad, List.length_append, List.length_cons, List.length_nil]; omega)
  · exact hB11.cast (by simp only [quad, List.length_append, List.length_cons, List.length_nil]; omega) (by simp only [quad, dot, List.append_assoc])
end Go.Proofs.YtkploaapcpjkbaaGreatDoor
