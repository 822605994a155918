/- Contract: the reference's text of four numbers. -/
import Derived.Test.YtkploaapcpjkbaaDoorQ1
import Derived.Test.YtkploaapcpjkbaaDoorP
namespace Go.Proofs.YtkploaapcpjkbaaDoor
open Go Go.RowKit Go.Sort
set_option linter.unusedVariables false
set_option linter.unusedSimpArgs false
attribute [local go_sem] cell_gr

/-- Bytes as a string. -/
def bs (l : List UInt8) : ByteArray := ⟨l.toArray⟩
theorem bs_append (a b : List UInt8) : bs a ++ bs b = bs (a ++ b) := by
  unfold bs
  apply ByteArray.ext
  simp [ByteArray.data_append]

/-- Is the k-th number to have a zero ahead? -/
def zeroed (zeros : Int) (k : Nat) : Bool := bits .and .u8 (zeros / 2 ^ k) 17 == 17
/-- The text of the first k numbers. -/
def qtext (a : Nat → Int) (z : Nat → Bool) : Nat → List UInt8
  | 0 => []
  | k + 1 => qtext a z k ++ ((if k = 0 then [] else [46]) ++ ((if z k then [48] else []) ++ Lib.itoa (a k % 300)))
def qok (a : Nat → Int) (z : Nat → Bool) : Nat → Bool
  | 0 => true
  | k + 1 => (qok a z k && !z k) && decide (a k % 300 < 256)
def qnum (a : Nat → Int) : Nat → Int
  | 0 => 0
  | k + 1 => qnum a k * 256 + a k % 300 % 256
theorem qnum_bd (a : Nat → Int) (k : Nat) (hk : k ≤ 4) : 0 ≤ qnum a k ∧ qnum a k < 4294967296 := by
  have h0 : ∀ k, 0 ≤ qnum a k := fun k => by
    induction k with
    | zero => exact Int.le_refl _
    | succ k ih => simp only [qnum]; omega
  have e0 : qnum a 0 = 0 := rfl
  have e1 : qnum a 1 = qnum a 0 * 256 + a 0 % 300 % 256 := rfl
  have e2 : qnum a 2 = qnum a 1 * 256 + a 1 % 300 % 256 := rfl
  have e3 : qnum a 3 = qnum a 2 * 256 + a 2 % 300 % 256 := rfl
  have e4 : qnum a 4 = qnum a 3 * 256 + a 3 % 300 % 256 := rfl
  refine ⟨h0 k, ?_⟩
  match k, hk with
  | 0, _ => omega
  | 1, _ => omega
  | 2, _ => omega
  | 3, _ => omega
  | 4, _ => omega
  | n + 5, h => omega

theorem dec_length (n : Nat) (h : n < 1000) : (Lib.decDigits n).length ≤ 3 := by
  rw [Lib.decDigits]
  split
  · simp
  · rw [Lib.decDigits]
    split
    · simp
    · rw [Lib.decDigits, dif_pos (by omega)]; simp
theorem itoa_length (n : Int) (h0 : 0 ≤ n) (h1 : n < 1000) : (Lib.itoa n).length ≤ 3 := by
  unfold Lib.itoa
  rw [if_neg (by omega)]
  exact dec_length _ (by omega)
theorem qtext_length (a : Nat → Int) (z : Nat → Bool) (k : Nat) (ha : ∀ k, 0 ≤ a k ∧ a k < 65536) : (qtext a z k).length ≤ 5 * k := by
  induction k with
  | zero => simp [qtext]
  | succ k ih =>
    have h3 := itoa_length (a k % 300) (by omega) (by omega)
    simp only [qtext, List.length_append]
    have e1 : (if k = 0 then ([] : List UInt8) else [46]).length ≤ 1 := by split <;> simp
    have e2 : (if z k then ([48] : List UInt8) else []).length ≤ 1 := by split <;> simp
    omega
theorem bs_size (l : List UInt8) : (bs l).size = l.length := by simp [bs, ByteArray.size]

theorem bs_dot : (⟨#[46]⟩ : ByteArray) = bs [46] := rfl
theorem bs_zero : (⟨#[48]⟩ : ByteArray) = bs [48] := rfl
theorem bs_any (l : List UInt8) : (⟨l.toArray⟩ : ByteArray) = bs l := rfl

set_option maxHeartbeats 3200000 in
theorem quad_any (a : Nat → Int) (zeros : Int) (ha : ∀ k, 0 ≤ a k ∧ a k < 65536) (hz : 0 ≤ zeros ∧ zeros < 256) (w : World) (hT : Tab w) :
    Calls Tryd.prog 12 #[.int .u16 (a 0), .int .u16 (a 1), .int .u16 (a 2), .int .u16 (a 3), .int .u8 zeros] w fun e w' =>
      e = .returned (.tuple #[.string (bs (qtext a (zeroed zeros) 4)), .bool (qok a (zeroed zeros) 4), .int .u64 (qnum a 4)]) ∧ Below w.heap.size w w' := by
  have HT := Lib.hid hT
  have HA := Lib.hid ha
  have HZ := Lib.hid hz
  clear hT ha
  go_enter Tryd.func12, Tryd.ntmps12
  go_wp2
  go_loopw [13, 14, 15, 24] (fun s o n i wr => ∃ (k : Nat) (S : ByteArray), k ≤ 4 ∧ S = bs (qtext a (zeroed zeros) k) ∧ i = .int .i64 k ∧ s = .string S ∧ o = .bool (qok a (zeroed zeros) k) ∧ n = .int .u64 (qnum a k) ∧ Below (w.heap.size + 1) (w.alloc (.cells #[.int .u16 (a 0), .int .u16 (a 1), .int .u16 (a 2), .int .u16 (a 3)] 33)) wr) (fun _ _ _ i _ => 4 - (intOf i).toNat)
  case atStart => exact ⟨0, _, by omega, rfl, rfl, rfl, rfl, rfl, Below.refl _ _⟩
  case round =>
    obtain ⟨k, S, hk, hS, rfl, rfl, rfl, rfl, hb⟩ := hrel
    have HS := Lib.hid hS
    clear hS
    by_cases hlt : k < 4
    · have hcell : wr.cell? ⟨w.heap.size, k, none⟩ = some (.int .u16 (a k)) := (hb.cell (p := ⟨w.heap.size, k, none⟩) (by simp)).trans (by
        match k, hlt with
        | 0, _ => simp [go_sem]
        | 1, _ => simp [go_sem]
        | 2, _ => simp [go_sem]
        | 3, _ => simp [go_sem]
        | n + 4, h => exact absurd h (by omega))
      have ha := HA.out k
      have e1 : Int.tmod (a k) 300 = a k % 300 := Int.tmod_eq_emod_of_nonneg ha.1
      have x0 : 0 ≤ a k % 300 := by omega
      have x1 : a k % 300 < 300 := by omega
      have HX : Hid (a k % 300 = a k % 300) := Lib.hid rfl
      have hn0 := (qnum_bd a k hk).1
      have hn1 := (qnum_bd a k hk).2
      have HN := Lib.hid (show bits .or .u64 (qnum a k * 256) (a k % 300 % 256) = qnum a (k + 1) from u64_or 8 _ _ (by omega) (by omega) (by omega) (by omega) (by omega) (by omega))
      have e2 : IntKind.u16.wrap (a k % 300) = a k % 300 := wraps_u16 _ x0 (by omega)
      have e3 : IntKind.i64.wrap (a k % 300) = a k % 300 := by rw [IntKind.wrap_i64]; omega
      have hsz : S.size ≤ 64 := by rw [HS.out, bs_size]; have := qtext_length a (zeroed zeros) k HA.out; omega
      have hsi := itoa_length (a k % 300) x0 (by omega)
      have hm : min ((k : Int)).toNat 8 = k := by omega
      have hT := Lib.hid ((HT.out.below ((Below.refl _ _).alloc (Nat.le_refl _) _)).below (show Below _ _ wr from by simpa using hb))
      cases hq : qok a (zeroed zeros) k <;> cases hzk : (bits .and .u8 (zeros / 2 ^ k) 17 == 17) <;> by_cases hk0 : k = 0
      all_goals
        first | (have hp : (0 : Int) < (k : Int) := by omega) | (have hp : ¬ (0 : Int) < (k : Int) := by omega)
        have HK := Lib.hid hk0
        clear hk0
        go_wp2_with fail
        try simp only [e3]
        refine (itoa_any _ (by omega) (by omega) _ hT.out).mono ?_
        rintro e w1 ⟨rfl, hb1⟩
        have HB1 := Lib.hid hb1
        have HB := Lib.hid hb
        clear hb1 hb hcell e1 hm
        go_wp2_with fail
        go_roundw
        case rel =>
          refine ⟨k + 1, _, by omega, ?_, by go_num, rfl, ?_, ?_, ?_⟩
          · rw [HS.out]; simp only [bs_dot, bs_zero, bs_any, bs_append, qtext, List.append_assoc]; first | rw [if_pos HK.out] | rw [if_neg HK.out]
            simp only [zeroed, hzk, if_true, if_false, Bool.false_eq_true, List.nil_append]
          · simp only [qok, zeroed, hq, hzk]; rfl
          · rw [HN.out]
          · exact HB.out.trans (HB1.out.mono (by have := HB.out.size; simp only [World.size_alloc] at this; omega))
        case measure => simp [intOf]; omega
    · obtain rfl : k = 4 := by omega
      have HB := Lib.hid hb
      clear hb
      go_wp2
      go_ret3
      refine ⟨by rw [HS.out]; rfl, ?_⟩
      exact ((Below.refl _ _).alloc (Nat.le_refl _) _).trans (HB.out.mono (by simp))
end Go.Proofs.YtkploaapcpjkbaaDoor
