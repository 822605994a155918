/- A region that draws its order, whose last two operations may come in either order (a store, and the assignment of another result). -/
import Derived.Test.YtkploaapcpjkbaaDoorV
namespace Go.Proofs.YtkploaapcpjkbaaDoor
open Go Go.RowKit Go.Sort
set_option linter.unusedVariables false
set_option linter.unusedSimpArgs false
section
variable {P : Program} {ops : Array Oper} {md : Region.Mode} {C : World → Prop}
/-! ### The same where the last two operations may come in either order -/

/-- Operation t waits, directly or through operations below n, for all that lie below n. -/
def sinkT (md : Region.Mode) (ops : Array Oper) (n t : Nat) : Bool :=
  (List.range n).all fun i => (List.range n ++ [t]).any fun j => decide (i < j) && Region.waitsFor md ops j i
/-- The two that are left may both come, and behind either just the other. -/
def pairB (md : Region.Mode) (ops : Array Oper) (n : Nat) (listed : Array Bool) : Bool :=
  decide (Region.ready md ops listed = [n, n + 1]) && decide (Region.ready md ops (listed.setIfInBounds n true) = [n + 1]) && decide (Region.ready md ops (listed.setIfInBounds (n + 1) true) = [n]) &&
  (Region.ready md ops ((listed.setIfInBounds n true).setIfInBounds (n + 1) true)).isEmpty && (Region.ready md ops ((listed.setIfInBounds (n + 1) true).setIfInBounds n true)).isEmpty
def lexHead2 (md : Region.Mode) (ops : Array Oper) (n : Nat) : Nat → Nat → Array Bool → Bool
  | 0, _, listed => pairB md ops n listed
  | f + 1, k, listed => (Region.ready md ops listed).contains k && Region.free md ops listed k && lexHead2 md ops n f (k + 1) (listed.setIfInBounds k true)
def pairTailB (md : Region.Mode) (ops : Array Oper) (n : Nat) : Bool :=
  Region.noSelect ops && decide (ops.size = n + 2) && sinkT md ops n n && sinkT md ops n (n + 1) && lexHead2 md ops n n 0 (Array.replicate ops.size false)

theorem sinkT_waits {n t : Nat} {listed : Array Bool} (hs : sinkT md ops n t = true) (hn : n ≤ ops.size) (hnt : n ≤ t) (inv : HeadInv md ops n listed) :
    ∀ (d i : Nat), n - i = d → i < n → listed.getD i true = false → t ∉ Region.ready md ops listed := by
  intro d
  induction d using Nat.strongRecOn with
  | _ d ih =>
    intro i hd hi hun hr
    obtain ⟨_, ot, hot, hall⟩ := mem_ready.1 hr
    obtain ⟨j, hj, hj2⟩ := List.any_eq_true.1 (List.all_eq_true.1 hs i (List.mem_range.2 hi))
    simp only [Bool.and_eq_true, decide_eq_true_eq] at hj2
    obtain ⟨oj, hoj, e, he, hb, hon⟩ := Region.waitsFor_spec hj2.2
    by_cases hjt : j = t
    · subst hjt
      obtain rfl : oj = ot := Option.some.inj (hoj.symm.trans hot)
      have h2 := hall e he hb
      rw [hon, getD_both hun] at h2
      cases h2
    · have hjn : j < n := by
        rcases List.mem_append.1 hj with h | h
        · exact List.mem_range.1 h
        · exact absurd (by simpa using h) hjt
      cases hl : listed.getD j false with
      | true =>
        have h2 := inv.closed j oj hoj hl e he hb
        rw [hon, getD_both hun] at h2
        cases h2
      | false => exact ih (n - j) (by omega) j rfl hjn (getD_in (by rw [inv.size]; omega) hl) hr

theorem headQ_first2 {n i : Nat} {oi : Oper} {v : Value} {L : Array Bool → Act → Prop} (hi : ops[i]? = some oi) (hsel : ∀ (j : Nat) (o : Oper) cs b, ops[j]? = some o → o.op ≠ .select cs b)
    (hlt : ∀ listed, HeadInv md ops n listed → listed.getD i true = false → ∀ j ∈ Region.ready md ops listed, j < n) (hdone : ∀ listed a, L listed a → ∀ j ∈ Region.ready md ops listed, n ≤ j) (f : Nat) :
    ∀ (listed : Array Bool) (a : Act), HeadInv md ops n listed →
      (∀ j oj, ops[j]? = some oj → j ≠ i → listed.getD j true = false → (∀ e ∈ oj.after, Region.binds md e = true → e.on ≠ i) → oi.apart ops oj = true) →
      i ∈ Region.ready md ops listed → YieldsIn P ops C oi v a →
      headQ P md ops C n L f (listed.setIfInBounds i true) (a.put oi.dst v) → headQ P md ops C n L (f + 1) listed a := by
  induction f with
  | zero =>
    intro listed a inv _ hr hy H
    have hun := (mem_ready.1 hr).1
    refine ⟨fun h => (by rw [h] at hr; cases hr), fun j hj => ⟨hlt _ inv hun j hj, ?_⟩⟩
    by_cases hji : j = i
    · subst hji; exact hy.qOp hi H
    · have h1 := hdone _ _ H j (ready_mono hj hji)
      have h2 := hlt _ inv hun j hj
      omega
  | succ f ih =>
    intro listed a inv hfree hr hy H
    have hun := (mem_ready.1 hr).1
    refine ⟨fun h => (by rw [h] at hr; cases hr), fun j hj => ?_⟩
    have hjn := hlt _ inv hun j hj
    refine ⟨hjn, ?_⟩
    by_cases hji : j = i
    · subst hji; exact hy.qOp hi H
    · obtain ⟨hjun, oj, hoj, hall⟩ := mem_ready.1 hj
      have hnot : ∀ e ∈ oj.after, Region.binds md e = true → e.on ≠ i := by
        intro e he hb heq
        have h1 := hall e he hb
        rw [heq, getD_both hun] at h1
        cases h1
      refine qOp_mono (fun a' h3 => ?_) (qOp_put hoj (hfree j oj hoj hji hjun hnot) (fun cs b => hsel i oi cs b hi) (fun cs b => hsel j oj cs b hoj) hy (H.2 j (ready_mono hj hji)).2)
      refine ih (listed.setIfInBounds j true) a' (inv.set hj hjn) (fun k ok hk hki hunk hno => ?_) (ready_mono hr (Ne.symm hji)) h3.1 (by rw [Array.setIfInBounds_comm _ _ hji]; exact h3.2)
      refine hfree k ok hk hki ?_ hno
      by_cases hjk : j = k
      · subst hjk; exact hjun
      · rwa [getD_set_ne true hjk] at hunk

theorem headQ_lex2 {n : Nat} {Lq : Act → Prop} (hsel : Region.noSelect ops = true) (hsz : ops.size = n + 2) (hs : sinkT md ops n n = true) (hs' : sinkT md ops n (n + 1) = true) (l : List Oper) :
    ∀ (k : Nat) (listed : Array Bool) (a : Act), (∀ j, j < l.length → l[j]? = ops[k + j]?) → k + l.length = n → HeadInv md ops n listed →
    lexHead2 md ops n l.length k listed = true → wpQuiet P ops C Lq l a →
    headQ P md ops C n (fun listed' a' => pairB md ops n listed' = true ∧ Lq a') l.length listed a := by
  induction l with
  | nil =>
    intro k listed a _ hk _ hB h
    exact ⟨by simpa [lexHead2] using hB, h⟩
  | cons o l ih =>
    intro k listed a hl hk inv hB h
    have h0 : ops[k]? = some o := by simpa using (hl 0 (by simp)).symm
    simp only [List.length_cons] at hk
    simp only [List.length_cons, lexHead2, Bool.and_eq_true] at hB
    obtain ⟨⟨hr, hf⟩, hB'⟩ := hB
    have hkn : k < n := by omega
    have hr' : k ∈ Region.ready md ops listed := by simpa using hr
    have hst : qOp P ops C k (wpQuiet P ops C Lq l) a := by unfold qOp; simp only [h0]; exact h
    obtain ⟨v, hy, hK⟩ := yieldsIn_of_qOp h0 hst
    refine headQ_first2 h0 (Region.noSelect_spec hsel) (fun li iv hun j hj => ?_) (fun listed' a' hL j hj => ?_) l.length listed a inv (Region.free_spec h0 hf) hr' hy ?_
    · refine (Nat.lt_or_ge j n).elim id fun hge => ?_
      obtain ⟨_, oj, hoj, _⟩ := mem_ready.1 hj
      have hjs : j < ops.size := (Array.getElem?_eq_some_iff.1 hoj).1
      rcases (show j = n ∨ j = n + 1 by omega) with rfl | rfl
      · exact absurd hj (sinkT_waits hs (by omega) (Nat.le_refl _) iv _ k rfl hkn hun)
      · exact absurd hj (sinkT_waits hs' (by omega) (by omega) iv _ k rfl hkn hun)
    · have h1 := hL.1
      simp only [pairB, Bool.and_eq_true, decide_eq_true_eq] at h1
      rw [h1.1.1.1.1] at hj
      simp only [List.mem_cons, List.not_mem_nil, or_false] at hj
      omega
    · exact ih (k + 1) _ _ (fun j hj => by have := hl (j + 1) (by simp; omega); simpa [Nat.add_assoc, Nat.add_comm 1 j] using this) (by omega) (inv.set hr' hkn) hB' hK

theorem any_of_pair {n : Nat} {listed : Array Bool} {a : Act} {w : World} {Q' : Exit → Act → World → Prop} {o1 o2 : Oper} (h1 : ops[n]? = some o1) (h2 : ops[n + 1]? = some o2) (hB : pairB md ops n listed = true)
    (hA : wpList P ops Q' [o1, o2] a w) (hA' : wpList P ops Q' [o2, o1] a w) : wpAny P md ops Q' 2 listed a w := by
  simp only [pairB, Bool.and_eq_true, decide_eq_true_eq, List.isEmpty_iff] at hB
  obtain ⟨⟨⟨⟨b1, b2⟩, b3⟩, b4⟩, b5⟩ := hB
  have two : ∀ (i j : Nat) (oi oj : Oper) (li : Array Bool), ops[i]? = some oi → ops[j]? = some oj → Region.ready md ops (li.setIfInBounds i true) = [j] → Region.ready md ops ((li.setIfInBounds i true).setIfInBounds j true) = [] →
      wpList P ops Q' [oi, oj] a w → wpOp P ops Q' i (wpAny P md ops Q' 1 (li.setIfInBounds i true)) a w := by
    intro i j oi oj li hi hj r1 r2 h
    have hw : wpOp P ops Q' i (wpList P ops Q' [oj]) a w := by unfold wpOp; simp only [hi]; exact h
    refine wpOp_mono (fun a' w' h' => ⟨fun h0 => absurd h0 (by rw [r1]; simp), fun x hx => ?_⟩) hw
    rw [r1] at hx
    obtain rfl : x = j := by simpa using hx
    have hw' : wpOp P ops Q' x (wpList P ops Q' []) a' w' := by unfold wpOp; simp only [hj]; exact h'
    exact wpOp_mono (fun a'' w'' h'' => ⟨r2, h''⟩) hw'
  refine ⟨fun h0 => absurd h0 (by rw [b1]; simp), fun i hi => ?_⟩
  rw [b1] at hi
  simp only [List.mem_cons, List.not_mem_nil, or_false] at hi
  rcases hi with rfl | rfl
  · exact two _ _ o1 o2 listed h1 h2 b2 b4 hA
  · exact two _ _ o2 o1 listed h2 h1 b3 b5 hA'

/-- THE LAW FOR A PAIR AT THE END. -/
theorem region_pair {id : Nat} {Q : Exit → Act → World → Prop} {a : Act} {w : World} {l : List Oper} (n : Nat) (o1 o2 : Oper) (hm : P.follows .mixedOrders = true) (hB : pairTailB .any l.toArray n = true) (h1 : l[n]? = some o1) (h2 : l[n + 1]? = some o2)
    (h : wpQuiet P l.toArray (fun w' => ∃ p : Regrown, w' = grow (redrawn w p.d) p.os) (fun a' => ∀ w', Below w.heap.size w w' → wpList P l.toArray Q [o1, o2] a' w' ∧ wpList P l.toArray Q [o2, o1] a' w') (l.take n) a) : (Code.region id l.toArray true).wp P Q a w := by
  simp only [pairTailB, Bool.and_eq_true, decide_eq_true_eq] at hB
  obtain ⟨⟨⟨⟨hsel, hn⟩, hs⟩, hs'⟩, hlex⟩ := hB
  have hn' : l.length = n + 2 := by simpa using hn
  have htl : (l.take n).length = n := by simp; omega
  have inv0 : HeadInv .any l.toArray n (Array.replicate l.toArray.size false) :=
    ⟨by simp, fun j oj _ hl => (by rw [getD_replicate_false] at hl; cases hl), fun t _ ht => getD_in (by simpa using ht) (getD_replicate_false _ _)⟩
  have H := headQ_lex2 (md := .any) hsel hn hs hs' (l.take n) 0 _ a (fun j hj => by
    rw [htl] at hj
    simp [hj]) (by simpa using htl) inv0 (by rw [htl]; exact hlex) h
  refine wp_region_any hm ?_
  have := any_of_headQ (Q' := Q) (g := 2) (fun listed a' w' hw' hL => any_of_pair (by simpa using h1) (by simpa using h2) hL.1 (hL.2 w' (below_of hw')).1 (hL.2 w' (below_of hw')).2) _ _ _ _ (⟨⟨w.drawn + 1, #[]⟩, by rw [grow_empty]⟩) H
  rw [htl, hn] at this
  rw [hn]
  exact this
end
end Go.Proofs.YtkploaapcpjkbaaDoor
