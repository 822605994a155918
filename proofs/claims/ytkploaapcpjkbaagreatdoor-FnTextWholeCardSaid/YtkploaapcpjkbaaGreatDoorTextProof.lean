/-
  For every input laws.FnTextWhole returns true: an address without a zone is written as RFC 5952 tells it, and read back; each other way to write it (zeros ahead, large figures, a run of groups left out, the last four bytes in decimal) is read as it; and its text with all zeros is told.
  The condition is the row's own: what the program's own initialisers lay in the listed tables (the powers of ten are read by strconv.Itoa, one place of the table of trailing zeros by strconv.FormatUint); the card ties it. The frame of the row's step is that of the kit's worked example over a listed table.
-/
import Derived.Test.YtkploaapcpjkbaaGreatDoorRows
import Derived.Test.YtkploaapcpjkbaaGreatDoorCards
import Derived.Test.YtkploaapcpjkbaaGreatDoorTie
import Derived.Test.YtkploaapcpjkbaaGreatDoorPW
import Derived.WalkKit
import Derived.ProofKit
import Derived.OpenShut
import Derived.LaidMore
import Derived.LaidSub
import Derived.Lib.LaidTab
import Derived.Lib.TrailingZeros
import Derived.Lay
import Derived.Stop.Joined
import Derived.SevenTiedAt
namespace Go.Proofs.YtkploaapcpjkbaaGreatDoor.fnTextWhole
open Go.ChangeShapes Go.WideShapes Go.ChangeAt Go.RowKit
set_option linter.unusedVariables false
set_option linter.unusedSimpArgs false

theorem law_any (six : Bool) (H L way : Int) (w : World) (hH : 0 ≤ H ∧ H < 18446744073709551616) (hL : 0 ≤ L ∧ L < 18446744073709551616) (hw : 0 ≤ way ∧ way < 18446744073709551616) (hT : Laid w) :
    Calls Tryz.prog 3 #[.bool six, .int .u64 H, .int .u64 L, .int .u64 way] w fun e w' => e = .returned (.bool true) ∧ Below w.heap.size w w' := by
  cases six
  · have l0 : 0 ≤ L % 4294967296 := by omega
    have l1 : L % 4294967296 < 4294967296 := by omega
    exact law_four false H L 0 (L % 4294967296) way w hT (quadU (L % 4294967296)) (quadU (L % 4294967296)) (fun w => specAddr_no H L w hL.1 hL.2) (text4 0 _ l0 l1) (parse_text4 _ l0 l1)
      (fun w h => (form4 0 _ way l0 (by omega) w h).mono fun e w' ⟨he, hb⟩ => ⟨⟨_, parse_text4 _ l0 l1, he⟩, hb⟩)
      (fun w h => specText4 0 _ w l0 (by omega) h) (expanded4 0 _ l0 l1) (fun w h => specExpanded4 0 _ w l0 (by omega) h)
  · exact law_six true H L H L way w hT (textU H L) (pads (grp H L) 8) (fun w => specAddr_yes H L w) (text6 H L hH.1 hH.2 hL.1 hL.2) (parse_text6 H L hH.1 hH.2 hL.1 hL.2)
      (fun w h => form6 H L way hH.1 hH.2 hL.1 hL.2 hw.1 hw.2 w h) (fun w h => specText6 H L w hH.1 hH.2 hL.1 hL.2 h) (expanded6 H L hH.1 hH.2 hL.1 hL.2) (fun w h => specExpanded6 H L w hH.1 hH.2 hL.1 hL.2 h)

theorem own : ownKnob Tryz.prog.godebug = none := by kernel_rfl
def laidL : List (String × DataW Unit) := [("math/bits.deBruijn32tab", Rows.laid_math_bits_deBruijn32tab), ("math/bits.deBruijn64tab", Rows.laid_math_bits_deBruijn64tab), ("internal/strconv.uint64pow10", Rows.laid_internal_strconv_uint64pow10), ("unicode/utf8.acceptRanges", Rows.laid_unicode_utf8_acceptRanges), ("unicode.CaseRanges", Rows.laid_unicode_CaseRanges), ("unicode/utf8.first", Rows.laid_unicode_utf8_first)]
def deB : List Int := List.map (fun n : Nat => (n : Int)) Go.Lib.deBruijn64tab
/-- The tables that the code reads, out of the row's condition. -/
theorem tab_of {W : World} (h : laidMetH Tryz.prog laidL W) : Laid W := by
  rw [MakeChecks.laidMetH_plain _ _ _ (by kernel_rfl)] at h
  refine ⟨?_, ?_⟩
  · have h2 := h.filter (fun x => x.1 == "internal/strconv.uint64pow10")
    have e : laidL.filter (fun x => x.1 == "internal/strconv.uint64pow10") = [("internal/strconv.uint64pow10", Lib.tabData .u64 Lib.pow10Tab)] := by kernel_rfl
    rw [e] at h2
    exact Tab.of (Lib.tabIs_of_head (g := 0) (t := 121) (e := 22) (n := 20) (by kernel_rfl) (by kernel_rfl) (by kernel_rfl) (by kernel_rfl) (by kernel_rfl) (by kernel_rfl) h2)
  · have h2 := h.filter (fun x => x.1 == "math/bits.deBruijn64tab")
    have e : laidL.filter (fun x => x.1 == "math/bits.deBruijn64tab") = [("math/bits.deBruijn64tab", Lib.tabData .u8 deB)] := by kernel_rfl
    rw [e] at h2
    have h3 := Lib.tabIs_of_head (g := 6) (t := 138) (e := 5) (n := 64) (by kernel_rfl) (by kernel_rfl) (by kernel_rfl) (by kernel_rfl) (by kernel_rfl) (by kernel_rfl) h2
    have h4 := h3.cell (g := 6) (by kernel_rfl) 15 (by decide +kernel)
    have e4 : deB.getD 15 0 = 4 := by decide +kernel
    rw [e4] at h4
    exact h4

set_option maxRecDepth 100000 in
theorem lifted (os : Os) (started : os.Started) (H : Type) (enc : TypeId × Value → H) :
    ReturnsInHanded {} Tryz.checked os 3 .any (fun w args => (Rows.fnTextWholeSpec.pre enc Tryz.prog Tryz.f3 [] false w args ∧ laidMetH Tryz.prog laidL w) ∧ sizedMet enc Tryz.prog Tryz.f3 (OpenSpec.ofChange Rows.fnTextWholeSpec) false w args)
      (Rows.fnTextWholeSpec.post enc Tryz.prog Tryz.f3 false true false false) := by
  refine returnsInHanded_of_change_and (C := Tryz.checked) (X := fun w _ => laidMetH Tryz.prog laidL w) (fun _ _ _ hh h => h.of_heap hh) own started (by kernel_rfl) Tryz.func3
    (ChangeSpec.witness_shaped (enc := enc) (C := Tryz.checked) (os := os) (X := fun w _ => laidMetH Tryz.prog laidL w) false (World.laidAll Tryz.prog os laidL) #[.bool false, .int .u64 0, .int .u64 0, .int .u64 0] 8 (World.laidAll_os _ _ _)
      (World.shaped_of_ZipB (by kernel_rfl) (by kernel_rfl)) (by kernel_rfl) (by kernel_rfl) (by kernel_rfl)
      (by rw [MakeChecks.laidMetH_plain _ _ _ (by kernel_rfl)]; exact laidMet_laidAll _ (by kernel_rfl) (by kernel_rfl))) ?_
  intro W base args ds gs before hval0 hW _ _ hL _
  have hval : ∀ (j : Nat) t v, Tryz.f3.params[j]? = some t → args[j]? = some v → Value.okWide Tryz.prog W .any base t v := hval0
  have hW' := hW
  obtain ⟨p, q, hA0, hV, rfl, hfz, hnd⟩ := hW
  have hA : DataW.TrodAll enc Tryz.prog W 0 (fun _ => true) true Tryz.f3.params.toList args.toList ds p := hA0
  rw [Tryz.params3] at hA hval
  obtain ⟨v0, vs0, d0, ds0, p0, q0, hargs, rfl, rfl, h0, r0⟩ := trodAll_cons hA
  obtain ⟨v1, vs1, d1, ds1, p1, q1, rfl, rfl, rfl, h1, r1⟩ := trodAll_cons r0
  obtain ⟨v2, vs2, d2, ds2, p2, q2, rfl, rfl, rfl, h2, r2⟩ := trodAll_cons r1
  obtain ⟨v3, vs3, d3, ds3, p3, q3, rfl, rfl, rfl, h3, r3⟩ := trodAll_cons r2
  obtain ⟨rfl, rfl, rfl⟩ := trodAll_nil r3
  obtain rfl : args = #[v0, v1, v2, v3] := by cases args; simp_all
  obtain ⟨rfl, rfl⟩ := trodVars_none hV
  obtain ⟨a0, rfl, rfl, rfl⟩ := open_bool Tryz.underlying4 (hval 0 4 v0 rfl rfl) h0
  obtain ⟨a1, rfl, rfl, rfl, w1⟩ := open_int Tryz.underlying22 (hval 1 22 v1 rfl rfl) h1
  obtain ⟨a2, rfl, rfl, rfl, w2⟩ := open_int Tryz.underlying22 (hval 2 22 v2 rfl rfl) h2
  obtain ⟨a3, rfl, rfl, rfl, w3⟩ := open_int Tryz.underlying22 (hval 3 22 v3 rfl rfl) h3
  clear hA0 hval0
  simp only [List.append_nil] at hW'
  have b1 := bounds_u64 w1
  have b2 := bounds_u64 w2
  have b3 := bounds_u64 w3
  refine (law_any a0 a1 a2 a3 W ⟨b1.1, by omega⟩ ⟨b2.1, by omega⟩ ⟨b3.1, by omega⟩ (tab_of hL)).mono fun e W' ⟨he, hb⟩ => ?_
  subst he
  exact ⟨_, rfl, _, _, [], [], [], [], hW', trodAll_cons_mk (shut_bool Tryz.underlying4 _) trodAll_mk0, (trodAll_cons_mk (shut_bool Tryz.underlying4 _) (trodAll_cons_mk (shut_int Tryz.underlying22 w1) (trodAll_cons_mk (shut_int Tryz.underlying22 w2) (trodAll_cons_mk (shut_int Tryz.underlying22 w3) trodAll_mk0)))), rfl, hb.frame _, fun h => by cases h⟩

theorem over : Rows.FnTextWholeSaid :=
  OpenClaim.holds_of_wide 3 Tryz.f3 rfl rfl rfl rfl rfl rfl rfl ⟨rfl, rfl, rfl, rfl, rfl⟩ rfl rfl rfl rfl rfl (by kernel_rfl) Tryz.func3 (by kernel_rfl)
    (of_decide_eq_true (by kernel_rfl)) (by unfold Func.isWrapper; first | (rw [if_pos (by decide +kernel)]; kernel_rfl) | (rw [if_neg (by decide +kernel)]; exact ⟨rfl, rfl⟩))
    (fun os started H enc _ => lifted os started H enc)

/-- ████ THE STATEMENT ████ -/
theorem proved : Rows.FnTextWholeCardSaid :=
  Claim7.holds_tied_plain_at .later [] [.data, .data, .data, .data, .pinned, .pinned] true (true, "2eb7771bfd0337a063139dcd564ca7f0cfc7da4935b91f63fe9e62a2be9b9525") false
    over (fun _ h => by cases h) (by kernel_rfl) (fun _ h => by cases h) fnTextWhole_row_tie rfl ⟨rfl, rfl⟩ (by kernel_rfl) rfl
    (fun f fn hf hfn => by
      obtain rfl : f = 3 := Option.some.inj ((show Tryz.prog.funcNamed "loop.example/pub-prefixsets/laws.FnTextWhole" = some 3 by kernel_rfl).symm.trans hf) |>.symm
      obtain rfl : fn = Tryz.f3 := (Option.some.inj (Tryz.func3.symm.trans hfn)).symm
      exact ⟨by kernel_rfl, fun j t ht => by
        rw [Tryz.params3] at ht
        have hm : t ∈ [4, 22, 22, 22] := by simpa using Array.mem_of_getElem? ht
        have hall : ([4, 22, 22, 22].all fun u => !Tryz.prog.wantsStandIn u) = true := by kernel_rfl
        exact (show Tryz.prog.wantsStandIn t = false by simpa using List.all_eq_true.1 hall t hm)⟩)
    (by kernel_rfl)
#print axioms proved
end Go.Proofs.YtkploaapcpjkbaaGreatDoor.fnTextWhole
