/-
  For every input laws.FnExactQuad returns true: four numbers below 300, each with a zero ahead or none, with points between are an address just if each is below 256 and has no zero ahead.
  The condition is the row's own: what the program's own initialisers lay in the listed tables (the powers of ten are read by strconv.Itoa); the card ties it. The frame of the row's step is that of the kit's worked example over a listed table.
-/
import Derived.Test.YtkploaapcpjkbaaDoorRows
import Derived.Test.YtkploaapcpjkbaaDoorCards
import Derived.Test.YtkploaapcpjkbaaDoorTie
import Derived.Test.YtkploaapcpjkbaaDoorQ8
import Derived.WalkKit
import Derived.ProofKit
import Derived.OpenShut
import Derived.LaidMore
import Derived.LaidSub
import Derived.Lib.LaidTab
import Derived.Stop.Joined
import Derived.SevenTiedAt
namespace Go.Proofs.YtkploaapcpjkbaaDoor.fnExactQuad
open Go.ChangeShapes Go.WideShapes Go.ChangeAt Go.RowKit
set_option linter.unusedVariables false
set_option linter.unusedSimpArgs false

def four (a0 a1 a2 a3 : Int) : Nat → Int
  | 0 => a0
  | 1 => a1
  | 2 => a2
  | _ => a3
theorem law_any (a0 a1 a2 a3 zs : Int) (w : World) (h0 : 0 ≤ a0 ∧ a0 < 65536) (h1 : 0 ≤ a1 ∧ a1 < 65536) (h2 : 0 ≤ a2 ∧ a2 < 65536) (h3 : 0 ≤ a3 ∧ a3 < 65536) (hz : 0 ≤ zs ∧ zs < 256) (hT : Tab w) :
    Calls Tryd.prog 4 #[.int .u16 a0, .int .u16 a1, .int .u16 a2, .int .u16 a3, .int .u8 zs] w fun e w' => e = .returned (.bool true) ∧ Below w.heap.size w w' :=
  quad_law (four a0 a1 a2 a3) zs (fun k => match k with | 0 => h0 | 1 => h1 | 2 => h2 | _ + 3 => h3) hz w hT

theorem own : ownKnob Tryd.prog.godebug = none := by kernel_rfl
def laidL : List (String × DataW Unit) := [("math/bits.deBruijn32tab", Rows.laid_math_bits_deBruijn32tab), ("math/bits.deBruijn64tab", Rows.laid_math_bits_deBruijn64tab), ("internal/strconv.uint64pow10", Rows.laid_internal_strconv_uint64pow10)]
/-- The door's own heap meets the condition. -/
theorem door_met (os : Os) (args : Array Value) : laidMetH Tryd.prog laidL ((World.doorLaid Tryd.prog 400 os).forCall (fun _ _ => 0) ⟨#[], args, []⟩).memory :=
  laidMetH_of_parts3 (fuel := 8) (laidMet_of_run' 8 (by kernel_rfl) (by kernel_rfl)) (by kernel_rfl) (by kernel_rfl)

/-- The table of the powers of ten, out of the row's condition. -/
theorem tab_of {W : World} (h : laidMetH Tryd.prog laidL W) : Tab W := by
  rw [MakeChecks.laidMetH_plain _ _ _ (by kernel_rfl)] at h
  have h2 := h.filter (fun x => x.1 == "internal/strconv.uint64pow10")
  have e : laidL.filter (fun x => x.1 == "internal/strconv.uint64pow10") = [("internal/strconv.uint64pow10", Lib.tabData .u64 Lib.pow10Tab)] := by kernel_rfl
  rw [e] at h2
  exact Tab.of (Lib.tabIs_of_head (g := 0) (t := 110) (e := 22) (n := 20) (by kernel_rfl) (by kernel_rfl) (by kernel_rfl) (by kernel_rfl) (by kernel_rfl) (by kernel_rfl) h2)

set_option maxRecDepth 100000 in
theorem lifted (os : Os) (started : os.Started) (H : Type) (enc : TypeId × Value → H) :
    ReturnsInHanded {} Tryd.checked os 4 .any (fun w args => (Rows.fnExactQuadSpec.pre enc Tryd.prog Tryd.f4 [] false w args ∧ laidMetH Tryd.prog laidL w) ∧ sizedMet enc Tryd.prog Tryd.f4 (OpenSpec.ofChange Rows.fnExactQuadSpec) false w args)
      (Rows.fnExactQuadSpec.post enc Tryd.prog Tryd.f4 false true false false) := by
  refine returnsInHanded_of_change_and (C := Tryd.checked) (X := fun w _ => laidMetH Tryd.prog laidL w) (fun _ _ _ hh h => h.of_heap hh) own started (by kernel_rfl) Tryd.func4
    (ChangeSpec.witness_shaped (enc := enc) (C := Tryd.checked) (os := os) (X := fun w _ => laidMetH Tryd.prog laidL w) false (World.doorLaid Tryd.prog 400 os) #[.int .u16 0, .int .u16 0, .int .u16 0, .int .u16 0, .int .u8 0] 8 rfl (World.shaped_of_RefB (by kernel_rfl) (by kernel_rfl)) (by kernel_rfl) (by kernel_rfl) (by kernel_rfl) (door_met os _)) ?_
  intro W base args ds gs before hval0 hW _ _ hL _
  have hval : ∀ (j : Nat) t v, Tryd.f4.params[j]? = some t → args[j]? = some v → Value.okWide Tryd.prog W .any base t v := hval0
  have hW' := hW
  obtain ⟨p, q, hA0, hV, rfl, hfz, hnd⟩ := hW
  have hA : DataW.TrodAll enc Tryd.prog W 0 (fun _ => true) true Tryd.f4.params.toList args.toList ds p := hA0
  rw [Tryd.params4] at hA hval
  obtain ⟨v0, vs0, d0, ds0, p0, q0, hargs, rfl, rfl, h0, r0⟩ := trodAll_cons hA
  obtain ⟨v1, vs1, d1, ds1, p1, q1, rfl, rfl, rfl, h1, r1⟩ := trodAll_cons r0
  obtain ⟨v2, vs2, d2, ds2, p2, q2, rfl, rfl, rfl, h2, r2⟩ := trodAll_cons r1
  obtain ⟨v3, vs3, d3, ds3, p3, q3, rfl, rfl, rfl, h3, r3⟩ := trodAll_cons r2
  obtain ⟨v4, vs4, d4, ds4, p4, q4, rfl, rfl, rfl, h4, r4⟩ := trodAll_cons r3
  obtain ⟨rfl, rfl, rfl⟩ := trodAll_nil r4
  obtain rfl : args = #[v0, v1, v2, v3, v4] := by cases args; simp_all
  obtain ⟨rfl, rfl⟩ := trodVars_none hV
  obtain ⟨a0, rfl, rfl, rfl, w0⟩ := open_int Tryd.underlying33 (hval 0 33 v0 rfl rfl) h0
  obtain ⟨a1, rfl, rfl, rfl, w1⟩ := open_int Tryd.underlying33 (hval 1 33 v1 rfl rfl) h1
  obtain ⟨a2, rfl, rfl, rfl, w2⟩ := open_int Tryd.underlying33 (hval 2 33 v2 rfl rfl) h2
  obtain ⟨a3, rfl, rfl, rfl, w3⟩ := open_int Tryd.underlying33 (hval 3 33 v3 rfl rfl) h3
  obtain ⟨a4, rfl, rfl, rfl, w4⟩ := open_int Tryd.underlying5 (hval 4 5 v4 rfl rfl) h4
  clear hA0 hval0
  simp only [List.append_nil] at hW'
  have b0 := bounds_u16 w0
  have b1 := bounds_u16 w1
  have b2 := bounds_u16 w2
  have b3 := bounds_u16 w3
  have b4 := bounds_u8 w4
  refine (law_any a0 a1 a2 a3 a4 W ⟨b0.1, by omega⟩ ⟨b1.1, by omega⟩ ⟨b2.1, by omega⟩ ⟨b3.1, by omega⟩ ⟨b4.1, by omega⟩ (tab_of hL)).mono fun e W' ⟨he, hb⟩ => ?_
  subst he
  exact ⟨_, rfl, _, _, [], [], [], [], hW', trodAll_cons_mk (shut_bool Tryd.underlying4 _) trodAll_mk0, (trodAll_cons_mk (shut_int Tryd.underlying33 w0) (trodAll_cons_mk (shut_int Tryd.underlying33 w1) (trodAll_cons_mk (shut_int Tryd.underlying33 w2) (trodAll_cons_mk (shut_int Tryd.underlying33 w3) (trodAll_cons_mk (shut_int Tryd.underlying5 w4) trodAll_mk0))))), rfl, hb.frame _, fun h => by cases h⟩

theorem over : Rows.FnExactQuadSaid :=
  OpenClaim.holds_of_wide 4 Tryd.f4 rfl rfl rfl rfl rfl rfl rfl ⟨rfl, rfl, rfl, rfl, rfl⟩ rfl rfl rfl rfl rfl (by kernel_rfl) Tryd.func4 (by kernel_rfl)
    (of_decide_eq_true (by kernel_rfl)) (by unfold Func.isWrapper; first | (rw [if_pos (by decide +kernel)]; kernel_rfl) | (rw [if_neg (by decide +kernel)]; exact ⟨rfl, rfl⟩))
    (fun os started H enc _ => lifted os started H enc)

/-- ████ THE STATEMENT ████ -/
theorem proved : Rows.FnExactQuadCardSaid :=
  Claim7.holds_tied_plain_at .later [] [.data, .data, .data] true (true, "0ad6df3bce55cb8edde850f11f815e38c9d0846f4f511cd1d24052499999eee9") false
    over (fun _ h => by cases h) (by kernel_rfl) (fun _ h => by cases h) fnExactQuad_row_tie rfl ⟨rfl, rfl⟩ (by kernel_rfl) rfl
    (fun f fn hf hfn => by
      obtain rfl : f = 4 := Option.some.inj ((show Tryd.prog.funcNamed "loop.example/pub-prefixsets/laws.FnExactQuad" = some 4 by kernel_rfl).symm.trans hf) |>.symm
      obtain rfl : fn = Tryd.f4 := (Option.some.inj (Tryd.func4.symm.trans hfn)).symm
      exact ⟨by kernel_rfl, fun j t ht => by
        rw [Tryd.params4] at ht
        have hm : t ∈ [33, 33, 33, 33, 5] := by simpa using Array.mem_of_getElem? ht
        have hall : ([33, 33, 33, 33, 5].all fun u => !Tryd.prog.wantsStandIn u) = true := by kernel_rfl
        exact (show Tryd.prog.wantsStandIn t = false by simpa using List.all_eq_true.1 hall t hm)⟩)
    (by kernel_rfl)
#print axioms proved
end Go.Proofs.YtkploaapcpjkbaaDoor.fnExactQuad
