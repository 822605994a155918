/- Contracts: the reference's Mapped, mark, padded, form. -/
import Derived.Test.YtkploaapcpjkbaaGreatDoorY3
import Derived.Test.YtkploaapcpjkbaaGreatDoorB1
import Derived.Test.YtkploaapcpjkbaaGreatDoorZ6
namespace Go.Proofs.YtkploaapcpjkbaaGreatDoor
open Go Go.RowKit Go.Sort
set_option linter.unusedVariables false
set_option linter.unusedSimpArgs false
attribute [local go_sem] cell_gr

theorem specMapped_no (hi lo : Int) : Ret 21 #[.agg #[.bool false, .int .u64 (hi), .int .u64 (lo)]] (.bool false) := by
  intro w
  go_enter Tryz.func21, Tryz.ntmps21
  go_wp2
  go_ret
  exact ⟨rfl, (Below.refl _ _).alloc (Nat.le_refl _) _⟩
theorem specMapped_yes (hi lo : Int) : Ret 21 #[.agg #[.bool true, .int .u64 (hi), .int .u64 (lo)]] (.bool (mappedB hi lo)) := by
  intro w
  unfold mappedB
  cases h : (hi == 0)
  · go_enter Tryz.func21, Tryz.ntmps21
    go_wp2
    go_ret
    exact ⟨by first | rfl | simp, (Below.refl _ _).alloc (Nat.le_refl _) _⟩
  · go_enter Tryz.func21, Tryz.ntmps21
    go_wp2
    go_ret
    exact ⟨by first | rfl | simp, (Below.refl _ _).alloc (Nat.le_refl _) _⟩
def markU (at8 : Bool) : List UInt8 := if at8 then [] else [58, 58]
theorem mark_lt (n : Int) (h : n < 8) (w : World) : Calls Tryz.prog 20 #[.int .i64 n] w fun e w' => e = .returned (.string (bs [58, 58])) ∧ w' = w := by
  have d : decide (n < 8) = true := decide_eq_true h
  go_enter Tryz.func20, Tryz.ntmps20
  go_wp2
  go_ret
  exact ⟨rfl, rfl⟩
theorem mark_ge (n : Int) (h : 8 ≤ n) (w : World) : Calls Tryz.prog 20 #[.int .i64 n] w fun e w' => e = .returned (.string (bs [])) ∧ w' = w := by
  have d : decide (n < 8) = false := decide_eq_false (by omega)
  go_enter Tryz.func20, Tryz.ntmps20
  go_wp2
  go_ret
  exact ⟨rfl, rfl⟩

theorem repeatL_one (k : Nat) : Lib.repeatL [48] k = List.replicate k 48 := by
  induction k with
  | zero => rfl
  | succ k ih => rw [Lib.repeatL, ih]; rfl
theorem repeat0 (c : Int) (k : Nat) (hc : c = k) (hk : k ≤ 100) (w : World) :
    Calls Tryz.prog 42 #[.string ⟨#[48]⟩, .int .i64 c] w fun e w' => e = .returned (.string (bs (List.replicate k 48))) ∧ Below w.heap.size w w' := by
  subst hc
  have h := Tryz.strings_Repeat ⟨#[48]⟩ k w (by omega) (by simp [ByteArray.size]; omega)
  rw [show (⟨#[48]⟩ : ByteArray).data.toList = [48] from rfl, repeatL_one] at h
  exact h

theorem pad_eq (x : Int) (h0 : 0 ≤ x) (h1 : x < 65536) : List.replicate (4 - (hexU x).length) 48 ++ hexU x = padU x := by
  have z : (48 : UInt8) = hxU 0 := rfl
  unfold hexU padU
  by_cases c1 : 4096 ≤ x
  · rw [if_pos c1]; rfl
  · by_cases c2 : 256 ≤ x
    · rw [if_neg c1, if_pos c2, show x / 4096 = 0 by omega]; rfl
    · by_cases c3 : 16 ≤ x
      · rw [if_neg c1, if_neg c2, if_pos c3, show x / 4096 = 0 by omega, show x / 256 % 16 = 0 by omega]; rfl
      · rw [if_neg c1, if_neg c2, if_neg c3, show x / 4096 = 0 by omega, show x / 256 % 16 = 0 by omega, show x / 16 % 16 = 0 by omega]; rfl

set_option maxHeartbeats 1600000 in
theorem padded_any (x : Int) (w : World) (hT : Laid w) (h0 : 0 ≤ x) (h1 : x < 65536) :
    Calls Tryz.prog 25 #[.int .u16 x] w fun e w' => e = .returned (.string (bs (padU x))) ∧ Below w.heap.size w w' := by
  have HF := Lib.hid (formatUint_any x w hT h0 h1)
  have HP := Lib.hid (pad_eq x h0 h1)
  have hlen := hexU_len x
  obtain ⟨l, hl⟩ : ∃ l, l = hexU x := ⟨_, rfl⟩
  rw [← hl] at HF HP hlen
  clear hl hT
  have hsz : (bs l).size = l.length := bs_size l
  have hs1 : (bs l).size ≤ 64 := by omega
  have hs2 : (bs (List.replicate (4 - l.length) 48)).size ≤ 64 := by rw [bs_size, List.length_replicate]; omega
  go_enter Tryz.func25, Tryz.ntmps25
  go_wp2_with fail
  refine HF.out.mono ?_
  rintro e w1 ⟨rfl, hb1⟩
  have hs3 := hb1.size
  go_wp2_with fail
  refine (repeat0 _ (4 - l.length) (by omega) (by omega) _).mono ?_
  rintro e w2 ⟨rfl, hb2⟩
  go_wp2
  go_ret
  refine ⟨?_, hb1.trans (hb2.mono hs3)⟩
  show Ending.returned (.string (bs (List.replicate (4 - l.length) 48 ++ l))) = _
  rw [HP.out]

/-- A group with zeros ahead, in small or large figures. -/
def zform (x way : Int) : List UInt8 := List.replicate (way % (5 - (hexU x).length)).toNat 48 ++ hexU x
def formU (x way : Int) : List UInt8 := if way / 16 % 2 = 1 then Lib.toUpperA (zform x way) else zform x way
theorem hexU_small (x : Int) (h0 : 0 ≤ x) (h1 : x < 65536) : ∀ c ∈ hexU x, c.toNat < 128 := by
  have H : ∀ d : Int, 0 ≤ d → d < 16 → (hxU d).toNat < 128 := by
    intro d d0 d1
    obtain ⟨n, rfl⟩ := Int.eq_ofNat_of_zero_le d0
    have H : ∀ n, n < 16 → (hxU ((n : Nat) : Int)).toNat < 128 := by decide +kernel
    exact H n (by omega)
  unfold hexU
  intro c hc
  split at hc
  · simp only [List.mem_cons, List.not_mem_nil, or_false] at hc
    rcases hc with rfl | rfl | rfl | rfl <;> exact H _ (by omega) (by omega)
  · split at hc
    · simp only [List.mem_cons, List.not_mem_nil, or_false] at hc
      rcases hc with rfl | rfl | rfl <;> exact H _ (by omega) (by omega)
    · split at hc
      · simp only [List.mem_cons, List.not_mem_nil, or_false] at hc
        rcases hc with rfl | rfl <;> exact H _ (by omega) (by omega)
      · simp only [List.mem_cons, List.not_mem_nil, or_false] at hc
        subst hc; exact H _ (by omega) (by omega)
theorem zform_small (x way : Int) (h0 : 0 ≤ x) (h1 : x < 65536) : ∀ c ∈ zform x way, c.toNat < 128 := by
  intro c hc
  rcases List.mem_append.1 hc with h | h
  · rw [(List.mem_replicate.1 h).2]; decide
  · exact hexU_small x h0 h1 c h
theorem zform_len (x way : Int) (hw : 0 ≤ way) : 1 ≤ (zform x way).length ∧ (zform x way).length ≤ 4 := by
  have := hexU_len x
  unfold zform
  rw [List.length_append, List.length_replicate]
  have h1 : 0 ≤ way % (5 - ((hexU x).length : Int)) := Int.emod_nonneg _ (by omega)
  have h2 : way % (5 - ((hexU x).length : Int)) < 5 - ((hexU x).length : Int) := Int.emod_lt_of_pos _ (by omega)
  omega
theorem upper_at (l : List UInt8) (S : ByteArray) (hS : S = bs l) (hl : l.length ≤ 100) (h : ∀ c ∈ l, c.toNat < 128) (w : World) :
    Calls Tryz.prog 43 #[.string S] w fun e w' => e = .returned (.string (bs (Lib.toUpperA l))) ∧ Below w.heap.size w w' := by
  subst hS
  exact Tryz.strings_ToUpper_ascii (bs l) w (by rw [bs_size]; omega) (fun j b hj => h b (List.mem_of_getElem? hj))

set_option maxHeartbeats 1600000 in
theorem form_any (x way : Int) (w : World) (hT : Laid w) (h0 : 0 ≤ x) (h1 : x < 65536) (hw : 0 ≤ way) (hw2 : way < 18446744073709551616) :
    Calls Tryz.prog 18 #[.int .u16 x, .int .u64 way] w fun e w' => e = .returned (.string (bs (formU x way))) ∧ Below w.heap.size w w' := by
  have HF := Lib.hid (formatUint_any x w hT h0 h1)
  have hlen := hexU_len x
  have HZ := Lib.hid (zform_len x way hw)
  have HS := Lib.hid (zform_small x way h0 h1)
  have HD : Hid (zform x way = List.replicate (way % (5 - (hexU x).length)).toNat 48 ++ hexU x) := Lib.hid rfl
  have HE : Hid (formU x way = if way / 16 % 2 = 1 then Lib.toUpperA (zform x way) else zform x way) := Lib.hid rfl
  obtain ⟨l, hl⟩ : ∃ l, l = hexU x := ⟨_, rfl⟩
  rw [← hl] at HF HD hlen
  clear hl hT
  have q1 : 0 ≤ way % (5 - (l.length : Int)) := Int.emod_nonneg _ (by omega)
  have q2 : way % (5 - (l.length : Int)) < 5 - (l.length : Int) := Int.emod_lt_of_pos _ (by omega)
  obtain ⟨k, hk⟩ : ∃ k : Nat, k = (way % (5 - (l.length : Int))).toNat := ⟨_, rfl⟩
  have hk2 : way % (5 - (l.length : Int)) = k := by omega
  have hk4 : k ≤ 4 := by omega
  rw [← hk] at HD
  have hsz : (bs l).size = l.length := bs_size l
  have hs1 : (bs l).size ≤ 64 := by omega
  have hs2 : (bs (List.replicate k 48)).size ≤ 64 := by rw [bs_size, List.length_replicate]; omega
  clear hk
  cases hc : (way / 16 % 2 == 1)
  · have HC := Lib.hid (beq_eq_false_iff_ne.1 hc)
    go_enter Tryz.func18, Tryz.ntmps18
    go_wp2_with fail
    refine HF.out.mono ?_
    rintro e w1 ⟨rfl, hb1⟩
    have hs3 := hb1.size
    go_wp2_with fail
    refine (repeat0 _ k (by first | exact hk2 | (rw [← hk2]; simp) | omega) (by omega) _).mono ?_
    rintro e w2 ⟨rfl, hb2⟩
    go_wp2
    go_ret
    refine ⟨?_, hb1.trans (hb2.mono hs3)⟩
    show Ending.returned (.string (bs (List.replicate k 48 ++ l))) = _
    rw [HE.out, if_neg HC.out, HD.out]
  · have HC := Lib.hid (eq_of_beq hc)
    go_enter Tryz.func18, Tryz.ntmps18
    go_wp2_with fail
    refine HF.out.mono ?_
    rintro e w1 ⟨rfl, hb1⟩
    have hs3 := hb1.size
    go_wp2_with fail
    refine (repeat0 _ k (by first | exact hk2 | (rw [← hk2]; simp) | omega) (by omega) _).mono ?_
    rintro e w2 ⟨rfl, hb2⟩
    have hs4 := hb2.size
    go_wp2_with fail
    refine (upper_at (zform x way) _ (by rw [HD.out]; exact bs_append _ _) (by have := HZ.out; omega) HS.out _).mono ?_
    rintro e w3 ⟨rfl, hb3⟩
    go_wp2
    go_ret
    refine ⟨?_, hb1.trans ((hb2.trans (hb3.mono hs4)).mono hs3)⟩
    show Ending.returned (.string (bs (Lib.toUpperA (zform x way)))) = _
    rw [HE.out, if_pos HC.out]
end Go.Proofs.YtkploaapcpjkbaaGreatDoor
