/-
  For every input laws.FnOrderWhole returns true: addresses without zones are in the order of their lengths and then of their numbers, prefixes in that of their masked addresses, their lengths, and then their addresses.
  No condition beside the row's own (what the program's own initialisers lay in the listed tables; the card ties it). The frame of the row's step is that of the kit's worked example over a listed table.
-/
import Derived.Test.YtkploaapcpjkbaaDoorRows
import Derived.Test.YtkploaapcpjkbaaDoorCards
import Derived.Test.YtkploaapcpjkbaaDoorTie
import Derived.Test.YtkploaapcpjkbaaDoorOA
import Derived.WalkKit
import Derived.ProofKit
import Derived.OpenShut
import Derived.LaidMore
import Derived.Stop.Joined
import Derived.SevenTiedAt
namespace Go.Proofs.YtkploaapcpjkbaaDoor.fnOrderWhole
open Go.ChangeShapes Go.WideShapes Go.ChangeAt Go.RowKit
set_option linter.unusedVariables false
set_option linter.unusedSimpArgs false

theorem addr_any (six : Bool) (hi lo : Int) (h0 : 0 ≤ hi) (h1 : hi < 18446744073709551616) (l0 : 0 ≤ lo) (l1 : lo < 18446744073709551616) :
    ∃ ha la, InAd six ha la ∧ Ret 6 #[.bool six, .int .u64 hi, .int .u64 lo] (.agg #[.bool six, .int .u64 (ha), .int .u64 (la)]) := by
  cases six
  · exact ⟨0, lo % 4294967296, ⟨by omega, by omega, by omega, by omega, fun _ => ⟨rfl, by omega⟩⟩, fun w => specAddr_no hi lo w l0 l1⟩
  · exact ⟨hi, lo, ⟨h0, h1, l0, l1, fun h => by cases h⟩, fun w => specAddr_yes hi lo w⟩

theorem bits_in (six : Bool) (n : Int) : 0 ≤ n % (wide six + 1) ∧ n % (wide six + 1) ≤ wide six := by
  cases six
  · show 0 ≤ n % (32 + 1) ∧ n % (32 + 1) ≤ 32; omega
  · show 0 ≤ n % (128 + 1) ∧ n % (128 + 1) ≤ 128; omega

theorem law_any (sa : Bool) (h1 l1 b : Int) (sb : Bool) (h2 l2 d : Int) (w : World) (a1 : 0 ≤ h1 ∧ h1 < 18446744073709551616) (a2 : 0 ≤ l1 ∧ l1 < 18446744073709551616) (a3 : 0 ≤ b ∧ b < 256) (a5 : 0 ≤ h2 ∧ h2 < 18446744073709551616) (a6 : 0 ≤ l2 ∧ l2 < 18446744073709551616) (a7 : 0 ≤ d ∧ d < 256) :
    Calls Tryd.prog 3 #[.bool sa, .int .u64 h1, .int .u64 l1, .int .u8 b, .bool sb, .int .u64 h2, .int .u64 l2, .int .u8 d] w fun r w' => r = .returned (.bool true) ∧ Below w.heap.size w w' := by
  obtain ⟨ha, la, hA, A1⟩ := addr_any sa h1 l1 a1.1 a1.2 a2.1 a2.2
  obtain ⟨hb, lb, hB, A2⟩ := addr_any sb h2 l2 a5.1 a5.2 a6.1 a6.2
  have nA := bits_in sa b
  have nB := bits_in sb d
  have C1 := implCompare_any hA hB
  rw [scmp_given hA hB] at C1
  exact order_of sa sb h1 l1 ha la b _ h2 l2 hb lb d _ _ _ A1 A2 (specPrefix_any sa ha la b a3.1 a3.2) (specPrefix_any sb hb lb d a7.1 a7.2) C1 (specCompare_any _ _ _ _ _ _) (implCP_any hA hB nA.1 nA.2 nB.1 nB.2) (specCP_any hA hB nA.1 nA.2 nB.1 nB.2) w

theorem own : ownKnob Tryd.prog.godebug = none := by kernel_rfl
def laidL : List (String × DataW Unit) := [("math/bits.deBruijn32tab", Rows.laid_math_bits_deBruijn32tab), ("math/bits.deBruijn64tab", Rows.laid_math_bits_deBruijn64tab), ("internal/strconv.uint64pow10", Rows.laid_internal_strconv_uint64pow10)]
/-- The door's own heap meets the condition. -/
theorem door_met (os : Os) (args : Array Value) : laidMetH Tryd.prog laidL ((World.doorLaid Tryd.prog 400 os).forCall (fun _ _ => 0) ⟨#[], args, []⟩).memory :=
  laidMetH_of_parts3 (fuel := 8) (laidMet_of_run' 8 (by kernel_rfl) (by kernel_rfl)) (by kernel_rfl) (by kernel_rfl)

set_option maxRecDepth 100000 in
theorem lifted (os : Os) (started : os.Started) (H : Type) (enc : TypeId × Value → H) :
    ReturnsInHanded {} Tryd.checked os 3 .any (fun w args => (Rows.fnOrderWholeSpec.pre enc Tryd.prog Tryd.f3 [] false w args ∧ laidMetH Tryd.prog laidL w) ∧ sizedMet enc Tryd.prog Tryd.f3 (OpenSpec.ofChange Rows.fnOrderWholeSpec) false w args)
      (Rows.fnOrderWholeSpec.post enc Tryd.prog Tryd.f3 false true false false) := by
  refine returnsInHanded_of_change_and (C := Tryd.checked) (X := fun w _ => laidMetH Tryd.prog laidL w) (fun _ _ _ hh h => h.of_heap hh) own started (by kernel_rfl) Tryd.func3
    (ChangeSpec.witness_shaped (enc := enc) (C := Tryd.checked) (os := os) (X := fun w _ => laidMetH Tryd.prog laidL w) false (World.doorLaid Tryd.prog 400 os) #[.bool false, .int .u64 0, .int .u64 0, .int .u8 0, .bool false, .int .u64 0, .int .u64 0, .int .u8 0] 8 rfl (World.shaped_of_RefB (by kernel_rfl) (by kernel_rfl)) (by kernel_rfl) (by kernel_rfl) (by kernel_rfl) (door_met os _)) ?_
  intro W base args ds gs before hval0 hW _ _ hL _
  have hval : ∀ (j : Nat) t v, Tryd.f3.params[j]? = some t → args[j]? = some v → Value.okWide Tryd.prog W .any base t v := hval0
  have hW' := hW
  obtain ⟨p, q, hA0, hV, rfl, hfz, hnd⟩ := hW
  have hA : DataW.TrodAll enc Tryd.prog W 0 (fun _ => true) true Tryd.f3.params.toList args.toList ds p := hA0
  rw [Tryd.params3] at hA hval
  obtain ⟨v0, vs0, d0, ds0, p0, q0, hargs, rfl, rfl, h0, r0⟩ := trodAll_cons hA
  obtain ⟨v1, vs1, d1, ds1, p1, q1, rfl, rfl, rfl, h1, r1⟩ := trodAll_cons r0
  obtain ⟨v2, vs2, d2, ds2, p2, q2, rfl, rfl, rfl, h2, r2⟩ := trodAll_cons r1
  obtain ⟨v3, vs3, d3, ds3, p3, q3, rfl, rfl, rfl, h3, r3⟩ := trodAll_cons r2
  obtain ⟨v4, vs4, d4, ds4, p4, q4, rfl, rfl, rfl, h4, r4⟩ := trodAll_cons r3
  obtain ⟨v5, vs5, d5, ds5, p5, q5, rfl, rfl, rfl, h5, r5⟩ := trodAll_cons r4
  obtain ⟨v6, vs6, d6, ds6, p6, q6, rfl, rfl, rfl, h6, r6⟩ := trodAll_cons r5
  obtain ⟨v7, vs7, d7, ds7, p7, q7, rfl, rfl, rfl, h7, r7⟩ := trodAll_cons r6
  obtain ⟨rfl, rfl, rfl⟩ := trodAll_nil r7
  obtain rfl : args = #[v0, v1, v2, v3, v4, v5, v6, v7] := by cases args; simp_all
  obtain ⟨rfl, rfl⟩ := trodVars_none hV
  obtain ⟨a0, rfl, rfl, rfl⟩ := open_bool Tryd.underlying4 (hval 0 4 v0 rfl rfl) h0
  obtain ⟨a1, rfl, rfl, rfl, w1⟩ := open_int Tryd.underlying22 (hval 1 22 v1 rfl rfl) h1
  obtain ⟨a2, rfl, rfl, rfl, w2⟩ := open_int Tryd.underlying22 (hval 2 22 v2 rfl rfl) h2
  obtain ⟨a3, rfl, rfl, rfl, w3⟩ := open_int Tryd.underlying5 (hval 3 5 v3 rfl rfl) h3
  obtain ⟨a4, rfl, rfl, rfl⟩ := open_bool Tryd.underlying4 (hval 4 4 v4 rfl rfl) h4
  obtain ⟨a5, rfl, rfl, rfl, w5⟩ := open_int Tryd.underlying22 (hval 5 22 v5 rfl rfl) h5
  obtain ⟨a6, rfl, rfl, rfl, w6⟩ := open_int Tryd.underlying22 (hval 6 22 v6 rfl rfl) h6
  obtain ⟨a7, rfl, rfl, rfl, w7⟩ := open_int Tryd.underlying5 (hval 7 5 v7 rfl rfl) h7
  clear hA0 hval0
  simp only [List.append_nil] at hW'
  have b1 := bounds_u64 w1
  have b2 := bounds_u64 w2
  have b3 := bounds_u8 w3
  have b5 := bounds_u64 w5
  have b6 := bounds_u64 w6
  have b7 := bounds_u8 w7
  refine (law_any a0 a1 a2 a3 a4 a5 a6 a7 W ⟨b1.1, by omega⟩ ⟨b2.1, by omega⟩ ⟨b3.1, by omega⟩ ⟨b5.1, by omega⟩ ⟨b6.1, by omega⟩ ⟨b7.1, by omega⟩).mono fun e W' ⟨he, hb⟩ => ?_
  subst he
  exact ⟨_, rfl, _, _, [], [], [], [], hW', trodAll_cons_mk (shut_bool Tryd.underlying4 _) trodAll_mk0,
    trodAll_cons_mk (shut_bool Tryd.underlying4 _) (trodAll_cons_mk (shut_int Tryd.underlying22 w1) (trodAll_cons_mk (shut_int Tryd.underlying22 w2) (trodAll_cons_mk (shut_int Tryd.underlying5 w3) (trodAll_cons_mk (shut_bool Tryd.underlying4 _) (trodAll_cons_mk (shut_int Tryd.underlying22 w5) (trodAll_cons_mk (shut_int Tryd.underlying22 w6) (trodAll_cons_mk (shut_int Tryd.underlying5 w7) trodAll_mk0))))))),
    rfl, hb.frame _, fun h => by cases h⟩

theorem over : Rows.FnOrderWholeSaid :=
  OpenClaim.holds_of_wide 3 Tryd.f3 rfl rfl rfl rfl rfl rfl rfl ⟨rfl, rfl, rfl, rfl, rfl⟩ rfl rfl rfl rfl rfl (by kernel_rfl) Tryd.func3 (by kernel_rfl)
    (of_decide_eq_true (by kernel_rfl)) (by unfold Func.isWrapper; first | (rw [if_pos (by decide +kernel)]; kernel_rfl) | (rw [if_neg (by decide +kernel)]; exact ⟨rfl, rfl⟩))
    (fun os started H enc _ => lifted os started H enc)

/-- ████ THE STATEMENT ████ -/
theorem proved : Rows.FnOrderWholeCardSaid :=
  Claim7.holds_tied_plain_at .later [] [.data, .data, .data] true (true, "0ad6df3bce55cb8edde850f11f815e38c9d0846f4f511cd1d24052499999eee9") false
    over (fun _ h => by cases h) (by kernel_rfl) (fun _ h => by cases h) fnOrderWhole_row_tie rfl ⟨rfl, rfl⟩ (by kernel_rfl) rfl
    (fun f fn hf hfn => by
      obtain rfl : f = 3 := Option.some.inj ((show Tryd.prog.funcNamed "loop.example/pub-prefixsets/laws.FnOrderWhole" = some 3 by kernel_rfl).symm.trans hf) |>.symm
      obtain rfl : fn = Tryd.f3 := (Option.some.inj (Tryd.func3.symm.trans hfn)).symm
      exact ⟨by kernel_rfl, fun j t ht => by
        rw [Tryd.params3] at ht
        have hm : t ∈ [4, 22, 22, 5, 4, 22, 22, 5] := by simpa using Array.mem_of_getElem? ht
        have hall : ([4, 22, 22, 5, 4, 22, 22, 5].all fun u => !Tryd.prog.wantsStandIn u) = true := by kernel_rfl
        exact (show Tryd.prog.wantsStandIn t = false by simpa using List.all_eq_true.1 hall t hm)⟩)
    (by kernel_rfl)
#print axioms proved
end Go.Proofs.YtkploaapcpjkbaaDoor.fnOrderWhole
