/- A region that draws its order and makes one variable of its own: a head that reads and calls functions that only make memory (n operations), two extractions (numbers n and n + 1), the allocation (number n + 2, free to come at any time), a store into it of the one (n + 3) and the assignment of the other (n + 4). -/
import Derived.Test.YtkploaapcpjkbaaDoorV2
import Derived.Deep.RegionHeld3
namespace Go.Proofs.YtkploaapcpjkbaaDoor
open Go Go.RowKit Go.Sort
set_option linter.unusedVariables false
set_option linter.unusedSimpArgs false

/-- w' is w with blocks laid behind it. -/
def Rel (w w' : World) : Prop := ∃ p : Regrown, w' = grow (redrawn w p.d) p.os
theorem rel_refl (w : World) : Rel w w := regrown_of_below (Below.refl _ _)
theorem rel_trans {w w1 w2 : World} (h : Rel w w1) (h2 : Rel w1 w2) : Rel w w2 := regrown_of_below ((below_of h).trans ((below_of h2).mono (below_of h).size))

section
variable {P : Program} {ops : Array Oper} {md : Region.Mode}

theorem quietAt_mono {o : Oper} {a : Act} {C C' : World → Prop} {w : World} {v : Value} (h : ∀ x, C x → C' x) (hh : o.quietAt P a C w v) : o.quietAt P a C' w v := by
  unfold Oper.quietAt at *
  generalize (execOp a.eval o).run P w = r at *
  cases r with
  | ok x w' => cases x <;> simp only [Oper.quietUpon] at hh ⊢ <;> first | exact hh | exact ⟨hh.1, hh.2.mono fun _ _ he => ⟨he.1, h _ he.2⟩⟩
  | halt x w' => exact hh

/-- In every world that is w with blocks laid behind, this operation yields v, and lays blocks behind at most. -/
def quietR (P : Program) (o : Oper) (a : Act) (w : World) (next : Act → Prop) : Prop :=
  ∃ v, (∀ w', (∃ p : Regrown, w' = grow (redrawn w p.d) p.os) → o.quietAt P a (fun w'' => ∃ q : Regrown, w'' = grow (redrawn w' q.d) q.os) w' v) ∧ next (a.put o.dst v)
def wpR (P : Program) (ops : Array Oper) (w : World) (Q : Act → Prop) : List Oper → Act → Prop
  | [], a => Q a
  | o :: rest, a => if Region.wanted o (yielded ops a.tmps) then quietR P o a w (wpR P ops w Q rest) else wpR P ops w Q rest (a.put o.dst undef)
theorem wpR_nil {w : World} {Q : Act → Prop} {a : Act} (h : Q a) : wpR P ops w Q [] a := h
theorem wpR_step {w : World} {Q : Act → Prop} {a : Act} {o : Oper} {rest : List Oper}
    (h : ∀ K : Act → Prop, (∀ a, wpR P ops w Q rest a → K a) → if Region.wanted o (yielded ops a.tmps) then quietR P o a w K else K (a.put o.dst undef)) : wpR P ops w Q (o :: rest) a := h _ (fun _ h => h)

def yR (P : Program) (ops : Array Oper) (w : World) (o : Oper) (v : Value) (a : Act) : Prop :=
  (Region.wanted o (yielded ops a.tmps) = true ∧ ∀ w', Rel w w' → o.quietAt P a (Rel w') w' v) ∨ (Region.wanted o (yielded ops a.tmps) = false ∧ v = undef)
def qR (P : Program) (ops : Array Oper) (w : World) (i : Nat) (K : Act → Prop) (a : Act) : Prop :=
  ∀ o, ops[i]? = some o → ∃ v, yR P ops w o v a ∧ K (a.put o.dst v)

theorem qR_mono {w : World} {i : Nat} {a : Act} {K K' : Act → Prop} (h : ∀ a, K a → K' a) (hh : qR P ops w i K a) : qR P ops w i K' a :=
  fun o ho => let ⟨v, h1, h2⟩ := hh o ho; ⟨v, h1, h _ h2⟩
theorem yR.of_same {w : World} {o : Oper} {v : Value} {a a' : Act} (hy : yR P ops w o v a) (he : execOp a'.eval o = execOp a.eval o)
    (hw : Region.wanted o (yielded ops a'.tmps) = Region.wanted o (yielded ops a.tmps)) : yR P ops w o v a' := by
  unfold yR Oper.quietAt at *
  rw [he, hw]
  exact hy
theorem qR_put {w : World} {j : Nat} {oi oj : Oper} {v : Value} (hj : ops[j]? = some oj) (hap : oi.apart ops oj = true)
    (hsi : ∀ cs b, oi.op ≠ .select cs b) (hsj : ∀ cs b, oj.op ≠ .select cs b) {K : Act → Prop} {a : Act}
    (hy : yR P ops w oi v a) (h : qR P ops w j K (a.put oi.dst v)) : qR P ops w j (fun a' => yR P ops w oi v a' ∧ K (a'.put oi.dst v)) a := by
  obtain ⟨h1, h2, h3⟩ := Oper.apart_spec hap
  intro o ho
  obtain rfl : oj = o := Option.some.inj (hj.symm.trans ho)
  obtain ⟨u, hu, hK⟩ := h oj hj
  exact ⟨u, hu.of_same (execOp_put oj hsj a oi.dst v h1).symm (wanted_put oj a oi.dst v h1).symm, hy.of_same (execOp_put oi hsi a oj.dst u h3) (wanted_put oi a oj.dst u h3), by rw [← Act.put_comm a v u h2]; exact hK⟩
/-- What another, apart from it, has laid into its own temporary makes no difference. -/
theorem qR_at_put {w : World} {j : Nat} {oi oj : Oper} {v : Value} (hj : ops[j]? = some oj) (hap : oi.apart ops oj = true) (hsj : ∀ cs b, oj.op ≠ .select cs b) {K : Act → Prop} {a : Act}
    (h : qR P ops w j K a) : qR P ops w j (fun a' => ∃ a0, a' = a0.put oi.dst v ∧ K a0) (a.put oi.dst v) := by
  obtain ⟨h1, h2, h3⟩ := Oper.apart_spec hap
  intro o ho
  obtain rfl : oj = o := Option.some.inj (hj.symm.trans ho)
  obtain ⟨u, hu, hK⟩ := h oj hj
  exact ⟨u, hu.of_same (execOp_put oj hsj a oi.dst v h1) (wanted_put oj a oi.dst v h1), _, Act.put_comm a v u h2, hK⟩
theorem wpOp_of_qR {w w1 : World} {i : Nat} {a : Act} {K : Act → Prop} {K' : Act → World → Prop} {Q' : Exit → Act → World → Prop} (hi : (ops[i]?).isSome = true) (hw : Rel w w1) (h : ∀ a' w', Rel w1 w' → K a' → K' a' w') (hh : qR P ops w i K a) : wpOp P ops Q' i K' a w1 := by
  refine wpOp_of_qOp (C := Rel w1) (K := K) (rel_refl w1) h ?_
  obtain ⟨o, ho⟩ := Option.isSome_iff_exists.1 hi
  obtain ⟨v, hy, hK⟩ := hh o ho
  unfold qOp
  simp only [ho]
  rcases hy with ⟨hw', hv⟩ | ⟨hw', rfl⟩
  · simp only [hw', if_true]
    exact ⟨v, fun x hx => quietAt_mono (fun y hy => rel_trans hx hy) (hv x (rel_trans hw hx)), hK⟩
  · simp only [hw', Bool.false_eq_true, if_false]; exact hK

def headR (P : Program) (md : Region.Mode) (ops : Array Oper) (w : World) (n : Nat) (L : Array Bool → Act → Prop) : Nat → Array Bool → Act → Prop
  | 0, listed, a => L listed a
  | f + 1, listed, a => Region.ready md ops listed ≠ [] ∧ ∀ i ∈ Region.ready md ops listed, i < n ∧ qR P ops w i (headR P md ops w n L f (listed.setIfInBounds i true)) a

theorem sinkT_waits' {n m t : Nat} {listed : Array Bool} (hs : sinkT md ops n t = true) (hn : n ≤ ops.size) (inv : HeadInv md ops m listed) :
    ∀ (d i : Nat), n - i = d → i < n → listed.getD i true = false → t ∉ Region.ready md ops listed := by
  intro d
  induction d using Nat.strongRecOn with
  | _ d ih =>
    intro i hd hi hun hr
    obtain ⟨_, ot, hot, hall⟩ := mem_ready.1 hr
    obtain ⟨j, hj, hj2⟩ := List.any_eq_true.1 (List.all_eq_true.1 hs i (List.mem_range.2 hi))
    simp only [Bool.and_eq_true, decide_eq_true_eq] at hj2
    obtain ⟨oj, hoj, e, he, hb, hon⟩ := Region.waitsFor_spec hj2.2
    by_cases hjt : j = t
    · subst hjt
      obtain rfl : oj = ot := Option.some.inj (hoj.symm.trans hot)
      have h2 := hall e he hb
      rw [hon, getD_both hun] at h2
      cases h2
    · have hjn : j < n := by
        rcases List.mem_append.1 hj with h | h
        · exact List.mem_range.1 h
        · exact absurd (by simpa using h) hjt
      cases hl : listed.getD j false with
      | true =>
        have h2 := inv.closed j oj hoj hl e he hb
        rw [hon, getD_both hun] at h2
        cases h2
      | false => exact ih (n - j) (by omega) j rfl hjn (getD_in (by rw [inv.size]; omega) hl) hr

theorem headR_first {w : World} {n m i : Nat} {oi : Oper} {v : Value} {L : Array Bool → Act → Prop} (hi : ops[i]? = some oi) (hsel : ∀ (j : Nat) (o : Oper) cs b, ops[j]? = some o → o.op ≠ .select cs b) (hnm : n ≤ m) (hin : i < n)
    (hlt : ∀ listed, HeadInv md ops m listed → listed.getD (n + 2) true = true → listed.getD i true = false → ∀ j ∈ Region.ready md ops listed, j < n) (hdone : ∀ listed a, L listed a → ∀ j ∈ Region.ready md ops listed, n ≤ j) (f : Nat) :
    ∀ (listed : Array Bool) (a : Act), HeadInv md ops m listed → listed.getD (n + 2) true = true →
      (∀ j oj, ops[j]? = some oj → j ≠ i → listed.getD j true = false → (∀ e ∈ oj.after, Region.binds md e = true → e.on ≠ i) → oi.apart ops oj = true) →
      i ∈ Region.ready md ops listed → yR P ops w oi v a →
      headR P md ops w n L f (listed.setIfInBounds i true) (a.put oi.dst v) → headR P md ops w n L (f + 1) listed a := by
  induction f with
  | zero =>
    intro listed a inv hN _ hr hy H
    have hun := (mem_ready.1 hr).1
    refine ⟨fun h => (by rw [h] at hr; cases hr), fun j hj => ⟨hlt _ inv hN hun j hj, ?_⟩⟩
    by_cases hji : j = i
    · subst hji; intro o ho; obtain rfl : oi = o := Option.some.inj (hi.symm.trans ho); exact ⟨v, hy, H⟩
    · have h1 := hdone _ _ H j (ready_mono hj hji)
      have h2 := hlt _ inv hN hun j hj
      omega
  | succ f ih =>
    intro listed a inv hN hfree hr hy H
    have hun := (mem_ready.1 hr).1
    refine ⟨fun h => (by rw [h] at hr; cases hr), fun j hj => ?_⟩
    have hjn := hlt _ inv hN hun j hj
    refine ⟨hjn, ?_⟩
    by_cases hji : j = i
    · subst hji; intro o ho; obtain rfl : oi = o := Option.some.inj (hi.symm.trans ho); exact ⟨v, hy, H⟩
    · obtain ⟨hjun, oj, hoj, hall⟩ := mem_ready.1 hj
      have hnot : ∀ e ∈ oj.after, Region.binds md e = true → e.on ≠ i := by
        intro e he hb heq
        have h1 := hall e he hb
        rw [heq, getD_both hun] at h1
        cases h1
      refine qR_mono (fun a' h3 => ?_) (qR_put hoj (hfree j oj hoj hji hjun hnot) (fun cs b => hsel i oi cs b hi) (fun cs b => hsel j oj cs b hoj) hy (H.2 j (ready_mono hj hji)).2)
      refine ih (listed.setIfInBounds j true) a' (inv.set hj (by omega)) (by rw [getD_set_ne true (by omega)]; exact hN) (fun k ok hk hki hunk hno => ?_) (ready_mono hr (Ne.symm hji)) h3.1 (by rw [Array.setIfInBounds_comm _ _ hji]; exact h3.2)
      refine hfree k ok hk hki ?_ hno
      by_cases hjk : j = k
      · subst hjk; exact hjun
      · rwa [getD_set_ne true hjk] at hunk

/-- The two that are left come in their order. -/
def endB (md : Region.Mode) (ops : Array Oper) (n : Nat) (listed : Array Bool) : Bool :=
  decide (Region.ready md ops listed = [n + 3]) && decide (Region.ready md ops (listed.setIfInBounds (n + 3) true) = [n + 4]) && (Region.ready md ops ((listed.setIfInBounds (n + 3) true).setIfInBounds (n + 4) true)).isEmpty
/-- Before them: the extraction may come, and may be taken first. -/
def endX (md : Region.Mode) (ops : Array Oper) (n : Nat) (listed : Array Bool) : Bool :=
  (Region.ready md ops listed).all (fun j => decide (n ≤ j)) && (Region.ready md ops listed).contains n && Region.free md ops listed n && (Region.ready md ops (listed.setIfInBounds n true)).contains (n + 1) && Region.free md ops (listed.setIfInBounds n true) (n + 1) && listed.getD (n + 2) false && endB md ops n ((listed.setIfInBounds n true).setIfInBounds (n + 1) true)
def lexHead3 (md : Region.Mode) (ops : Array Oper) (n : Nat) : Nat → Nat → Array Bool → Bool
  | 0, _, listed => endX md ops n listed
  | f + 1, k, listed => (Region.ready md ops listed).contains k && Region.free md ops listed k && lexHead3 md ops n f (k + 1) (listed.setIfInBounds k true)
def apartB (ops : Array Oper) (n : Nat) : Bool := (List.range (n + 2)).all fun j => match ops[n + 2]?, ops[j]? with | some oa, some oj => oa.apart ops oj && oj.apart ops oa | _, _ => false
/-- The extraction does not wait for the allocation. -/
def loneB (md : Region.Mode) (ops : Array Oper) (n x : Nat) : Bool := match ops[x]? with | some o => o.after.all fun e => !Region.binds md e || e.on != n + 2 | none => false
def allocTailB (md : Region.Mode) (ops : Array Oper) (n : Nat) : Bool :=
  Region.noSelect ops && decide (ops.size = n + 5) && sinkT md ops n n && sinkT md ops n (n + 1) && sinkT md ops n (n + 3) && sinkT md ops n (n + 4) && Region.waitsFor md ops (n + 3) (n + 2) && loneB md ops n n && loneB md ops n (n + 1) && apartB ops n && lexHead3 md ops n n 0 ((Array.replicate ops.size false).setIfInBounds (n + 2) true)

theorem headR_lex {w : World} {n : Nat} {Lq : Act → Prop} (hsel : Region.noSelect ops = true) (hsz : ops.size = n + 5) (hs0 : sinkT md ops n n = true) (hs1 : sinkT md ops n (n + 1) = true) (hs : sinkT md ops n (n + 3) = true) (hs' : sinkT md ops n (n + 4) = true) (l : List Oper) :
    ∀ (k : Nat) (listed : Array Bool) (a : Act), (∀ j, j < l.length → l[j]? = ops[k + j]?) → k + l.length = n → HeadInv md ops (n + 3) listed → listed.getD (n + 2) true = true →
    lexHead3 md ops n l.length k listed = true → wpR P ops w Lq l a →
    headR P md ops w n (fun listed' a' => endX md ops n listed' = true ∧ Lq a') l.length listed a := by
  induction l with
  | nil =>
    intro k listed a _ hk _ _ hB h
    exact ⟨by simpa [lexHead3] using hB, h⟩
  | cons o l ih =>
    intro k listed a hl hk inv hN hB h
    have h0 : ops[k]? = some o := by simpa using (hl 0 (by simp)).symm
    simp only [List.length_cons] at hk
    simp only [List.length_cons, lexHead3, Bool.and_eq_true] at hB
    obtain ⟨⟨hr, hf⟩, hB'⟩ := hB
    have hkn : k < n := by omega
    have hr' : k ∈ Region.ready md ops listed := by simpa using hr
    have hst : ∃ v, yR P ops w o v a ∧ wpR P ops w Lq l (a.put o.dst v) := by
      unfold wpR at h
      by_cases hw : Region.wanted o (yielded ops a.tmps) = true
      · simp only [hw, if_true] at h
        obtain ⟨v, h1, h2⟩ := h
        exact ⟨v, .inl ⟨hw, h1⟩, h2⟩
      · simp only [hw] at h
        exact ⟨undef, .inr ⟨by simpa using hw, rfl⟩, h⟩
    obtain ⟨v, hy, hK⟩ := hst
    refine headR_first (m := n + 3) h0 (Region.noSelect_spec hsel) (by omega) hkn (fun li iv hN' hun j hj => ?_) (fun listed' a' hL j hj => ?_) l.length listed a inv hN (Region.free_spec h0 hf) hr' hy ?_
    · refine (Nat.lt_or_ge j n).elim id fun hge => ?_
      obtain ⟨hju, oj, hoj, _⟩ := mem_ready.1 hj
      have hjs : j < ops.size := (Array.getElem?_eq_some_iff.1 hoj).1
      rcases (show j = n ∨ j = n + 1 ∨ j = n + 2 ∨ j = n + 3 ∨ j = n + 4 by omega) with rfl | rfl | rfl | rfl | rfl
      · exact absurd hj (sinkT_waits' hs0 (by omega) iv _ k rfl hkn hun)
      · exact absurd hj (sinkT_waits' hs1 (by omega) iv _ k rfl hkn hun)
      · rw [hN'] at hju; cases hju
      · exact absurd hj (sinkT_waits' hs (by omega) iv _ k rfl hkn hun)
      · exact absurd hj (sinkT_waits' hs' (by omega) iv _ k rfl hkn hun)
    · have h1 := hL.1
      simp only [endX, Bool.and_eq_true] at h1
      simpa using List.all_eq_true.1 h1.1.1.1.1.1.1 j hj
    · exact ih (k + 1) _ _ (fun j hj => by have := hl (j + 1) (by simp; omega); simpa [Nat.add_assoc, Nat.add_comm 1 j] using this) (by omega) (inv.set hr' (by omega)) (by rw [getD_set_ne true (by omega)]; exact hN) hB' hK

theorem any_of_end {n : Nat} {listed : Array Bool} {a : Act} {w : World} {Q' : Exit → Act → World → Prop} {o1 o2 : Oper} (h1 : ops[n + 3]? = some o1) (h2 : ops[n + 4]? = some o2) (hB : endB md ops n listed = true)
    (hA : wpList P ops Q' [o1, o2] a w) : wpAny P md ops Q' 2 listed a w := by
  simp only [endB, Bool.and_eq_true, decide_eq_true_eq, List.isEmpty_iff] at hB
  obtain ⟨⟨b1, b2⟩, b3⟩ := hB
  refine ⟨fun h0 => absurd h0 (by rw [b1]; simp), fun i hi => ?_⟩
  rw [b1] at hi
  obtain rfl : i = n + 3 := by simpa using hi
  have hw : wpOp P ops Q' (n + 3) (wpList P ops Q' [o2]) a w := by unfold wpOp; simp only [h1]; exact hA
  refine wpOp_mono (fun a' w' h' => ⟨fun h0 => absurd h0 (by rw [b2]; simp), fun x hx => ?_⟩) hw
  rw [b2] at hx
  obtain rfl : x = n + 4 := by simpa using hx
  have hw' : wpOp P ops Q' (n + 4) (wpList P ops Q' []) a' w' := by unfold wpOp; simp only [h2]; exact h'
  exact wpOp_mono (fun a'' w'' h'' => ⟨b3, h''⟩) hw'

/-- What is asked behind the head: whichever block the variable is. -/
def LastR (P : Program) (md : Region.Mode) (ops : Array Oper) (w : World) (n : Nat) (ox oy : Oper) (dst : Option Tmp) (obj : Obj) (Q' : Exit → Act → World → Prop) (o1 o2 : Oper) (listed : Array Bool) (a : Act) : Prop :=
  endX md ops n listed = true ∧ ∃ v, Yields P ops ox v a ∧ ∃ u, Yields P ops oy u (a.put ox.dst v) ∧ ∀ β w', Below w.heap.size w w' → w.heap.size ≤ β → w'.heap[β]? = some obj → wpList P ops Q' [o1, o2] (((a.put ox.dst v).put oy.dst u).put dst (.pointer (some ⟨β, 0, none⟩))) w'

section
variable {w : World} {n : Nat} {ox oy oa o1 o2 : Oper} {obj : Obj} {Q' : Exit → Act → World → Prop}

theorem apartB_spec (hoa : ops[n + 2]? = some oa) (hap : apartB ops n = true) {i : Nat} {oi : Oper} (hi : i ≤ n + 1) (hoi : ops[i]? = some oi) : oa.apart ops oi = true ∧ oi.apart ops oa = true := by
  have := List.all_eq_true.1 hap i (List.mem_range.2 (by omega))
  simpa only [hoa, hoi, Bool.and_eq_true] using this

theorem allocB (hox : ops[n]? = some ox) (hoy : ops[n + 1]? = some oy) (hoa : ops[n + 2]? = some oa) (hap : apartB ops n = true) (hsel : Region.noSelect ops = true) (h1 : ops[n + 3]? = some o1) (h2 : ops[n + 4]? = some o2) (hQ : ∀ c a w, ¬ Q' (.panic c) a w) (f : Nat) :
    ∀ (listed : Array Bool) (a : Act) (w1 : World) (β : Nat), Rel w w1 → w.heap.size ≤ β → w1.heap[β]? = some obj →
      headR P md ops w n (LastR P md ops w n ox oy oa.dst obj Q' o1 o2) f listed a → wpAny P md ops Q' (f + 4) listed (a.put oa.dst (.pointer (some ⟨β, 0, none⟩))) w1 := by
  have S := Region.noSelect_spec hsel
  induction f with
  | zero =>
    intro listed a w1 β hr hβ hb h
    obtain ⟨hX, v, hy, u, hu, hw⟩ := h
    simp only [endX, Bool.and_eq_true] at hX
    obtain ⟨⟨⟨⟨⟨⟨_, hrd⟩, hfr⟩, hrd2⟩, hfr2⟩, _⟩, hB⟩ := hX
    obtain ⟨p1, p2, p3⟩ := Oper.apart_spec (apartB_spec hoa hap (by omega) hox).1
    obtain ⟨q1, q2, q3⟩ := Oper.apart_spec (apartB_spec hoa hap (Nat.le_refl _) hoy).1
    refine wpAny_first (v := v) hox S (fun c a w h => absurd h (hQ _ _ _)) 3 listed _ w1 (Region.free_spec hox hfr) (by simpa using hrd) (hy.of_same (execOp_put ox (fun cs b => S n ox cs b hox) a oa.dst _ p1) (wanted_put ox a oa.dst _ p1)) ?_
    rw [Act.put_comm a _ v p2]
    refine wpAny_first (v := u) hoy S (fun c a w h => absurd h (hQ _ _ _)) 2 _ _ w1 (Region.free_spec hoy hfr2) (by simpa using hrd2) (hu.of_same (execOp_put oy (fun cs b => S (n + 1) oy cs b hoy) _ oa.dst _ q1) (wanted_put oy _ oa.dst _ q1)) ?_
    rw [Act.put_comm _ _ u q2]
    exact any_of_end h1 h2 hB (hw β w1 (below_of hr) hβ hb)
  | succ f ih =>
    intro listed a w1 β hr hβ hb h
    rw [show f + 1 + 4 = (f + 4) + 1 by omega]
    refine ⟨fun h0 => absurd h0 h.1, fun i hi => ?_⟩
    obtain ⟨hin, hq⟩ := h.2 i hi
    obtain ⟨_, oi, hoi, _⟩ := mem_ready.1 hi
    refine wpOp_of_qR (by rw [hoi]; rfl) hr (fun a' w' hr' ha' => ?_) (qR_at_put (oi := oa) (v := .pointer (some ⟨β, 0, none⟩)) hoi (apartB_spec hoa hap (by omega) hoi).1 (fun cs b => S i oi cs b hoi) hq)
    obtain ⟨a0, rfl, hK⟩ := ha'
    refine ih _ _ _ _ (rel_trans hr hr') hβ ?_ hK
    have hlt : β < w1.heap.size := (Array.getElem?_eq_some_iff.1 hb).1
    rw [(below_of hr').block β hlt]; exact hb

theorem alloc_step (hoa : ops[n + 2]? = some oa) (hwant : ∀ a : Act, Region.wanted oa (yielded ops a.tmps) = true) (hrun : ∀ (a : Act) (w1 : World), (execOp a.eval oa).run P w1 = .ok (.value (.pointer (some ⟨w1.heap.size, 0, none⟩))) (w1.alloc obj))
    {K : Act → World → Prop} {a : Act} {w1 : World} (h : K (a.put oa.dst (.pointer (some ⟨w1.heap.size, 0, none⟩))) (w1.alloc obj)) : wpOp P ops Q' (n + 2) K a w1 := by
  unfold wpOp
  simp only [hoa, hwant, if_true]
  refine .inl ?_
  unfold Oper.wp
  rw [hrun]
  exact h
theorem rel_alloc {w w1 : World} (hr : Rel w w1) (o : Obj) : Rel w (w1.alloc o) := rel_trans hr (regrown_of_below ((Below.refl _ _).alloc (Nat.le_refl _) _))
theorem at_alloc (w1 : World) (o : Obj) : (w1.alloc o).heap[w1.heap.size]? = some o := by show (w1.heap.push o)[w1.heap.size]? = some o; simp

/-- A pure operation that may be taken first, the allocation still to come. -/
theorem pure_first {x : Nat} {ox : Oper} {v : Value} (hox : ops[x]? = some ox) (hoa : ops[n + 2]? = some oa) (hap : apartB ops n = true) (hx : x ≤ n + 1) (hsel : Region.noSelect ops = true) (hlone : loneB md ops n x = true) (hQ : ∀ c a w, ¬ Q' (.panic c) a w)
    (fuel : Nat) {listed : Array Bool} {a : Act} {w1 : World} (hfr : Region.free md ops (listed.setIfInBounds (n + 2) true) x = true) (hrn : x ∈ Region.ready md ops (listed.setIfInBounds (n + 2) true)) (hy : Yields P ops ox v a)
    (h : wpAny P md ops Q' fuel (listed.setIfInBounds x true) (a.put ox.dst v) w1) : wpAny P md ops Q' (fuel + 1) listed a w1 := by
  obtain ⟨hnu, on, hon, hall⟩ := mem_ready.1 hrn
  obtain rfl : on = ox := Option.some.inj (hon.symm.trans hox)
  have hA := apartB_spec hoa hap hx hox
  have hrn' : x ∈ Region.ready md ops listed := by
    refine mem_ready.2 ⟨by rw [getD_set_ne true (by omega)] at hnu; exact hnu, on, hon, fun e he hb => ?_⟩
    by_cases hen : e.on = n + 2
    · exfalso
      simp only [loneB, hon] at hlone
      have h3 := Array.all_eq_true_iff_forall_mem.1 hlone e he
      simp [hb, hen] at h3
    · have := hall e he hb
      rwa [getD_set_ne false (Ne.symm hen)] at this
  refine wpAny_first (v := v) hon (Region.noSelect_spec hsel) (fun c a w h => absurd h (hQ _ _ _)) fuel listed a w1 (fun j oj hj hjn hju hno => ?_) hrn' hy h
  by_cases hja : j = n + 2
  · subst hja
    obtain rfl : oa = oj := Option.some.inj (hoa.symm.trans hj)
    exact hA.2
  · exact Region.free_spec hon hfr j oj hj hjn (by rw [getD_set_ne true (Ne.symm hja)]; exact hju) hno

theorem allocA (hox : ops[n]? = some ox) (hoy : ops[n + 1]? = some oy) (hoa : ops[n + 2]? = some oa) (haf : oa.after = #[]) (hap : apartB ops n = true) (hsel : Region.noSelect ops = true) (h1 : ops[n + 3]? = some o1) (h2 : ops[n + 4]? = some o2) (hwt : Region.waitsFor md ops (n + 3) (n + 2) = true) (hlx : loneB md ops n n = true) (hly : loneB md ops n (n + 1) = true)
    (hwant : ∀ a : Act, Region.wanted oa (yielded ops a.tmps) = true) (hrun : ∀ (a : Act) (w1 : World), (execOp a.eval oa).run P w1 = .ok (.value (.pointer (some ⟨w1.heap.size, 0, none⟩))) (w1.alloc obj)) (hQ : ∀ c a w, ¬ Q' (.panic c) a w) (f : Nat) :
    ∀ (listed : Array Bool) (a : Act) (w1 : World), Rel w w1 → listed.getD (n + 2) true = false →
      headR P md ops w n (LastR P md ops w n ox oy oa.dst obj Q' o1 o2) f (listed.setIfInBounds (n + 2) true) a → wpAny P md ops Q' (f + 5) listed a w1 := by
  have R : ∀ {listed : Array Bool}, listed.getD (n + 2) true = false → n + 2 ∈ Region.ready md ops listed := fun hun => mem_ready.2 ⟨hun, oa, hoa, fun e he => by rw [haf] at he; simp at he⟩
  induction f with
  | zero =>
    intro listed a w1 hr hun h
    obtain ⟨hX, v, hy, u, hu, hw⟩ := h
    simp only [endX, Bool.and_eq_true] at hX
    obtain ⟨⟨⟨⟨⟨⟨_, hrd⟩, hfr⟩, hrd2⟩, hfr2⟩, _⟩, hB⟩ := hX
    have c1 := Array.setIfInBounds_comm (xs := listed) true true (show n + 2 ≠ n by omega)
    have c2 := Array.setIfInBounds_comm (xs := listed.setIfInBounds n true) true true (show n + 2 ≠ n + 1 by omega)
    rw [c1] at hrd2 hfr2 hB
    rw [c2] at hB
    refine pure_first hox hoa hap (by omega) hsel hlx hQ 4 hfr (by simpa using hrd) hy (pure_first hoy hoa hap (by omega) hsel hly hQ 3 hfr2 (by simpa using hrd2) hu ?_)
    have hun' : ((listed.setIfInBounds n true).setIfInBounds (n + 1) true).getD (n + 2) true = false := by rw [getD_set_ne true (by omega), getD_set_ne true (by omega)]; exact hun
    have hmem' := R hun'
    refine ⟨fun h0 => (by rw [h0] at hmem'; cases hmem'), fun i hi => ?_⟩
    by_cases hin : i = n + 2
    · subst hin
      exact alloc_step hoa hwant hrun (any_of_end h1 h2 hB (hw _ _ (below_of (rel_alloc hr _)) (below_of hr).size (at_alloc _ _)))
    · exfalso
      have hi' := ready_mono (i := n + 2) hi hin
      simp only [endB, Bool.and_eq_true, decide_eq_true_eq] at hB
      rw [hB.1.1] at hi'
      obtain rfl : i = n + 3 := by simpa using hi'
      obtain ⟨_, oi, hoi, hall'⟩ := mem_ready.1 hi
      obtain ⟨oj, hoj, e, he, hb, hone⟩ := Region.waitsFor_spec hwt
      obtain rfl : oj = oi := Option.some.inj (hoj.symm.trans hoi)
      have h2 := hall' e he hb
      rw [hone, getD_both hun'] at h2
      cases h2
  | succ f ih =>
    intro listed a w1 hr hun h
    have hmem := R hun
    rw [show f + 1 + 5 = (f + 5) + 1 by omega]
    refine ⟨fun h0 => (by rw [h0] at hmem; cases hmem), fun i hi => ?_⟩
    by_cases hin : i = n + 2
    · subst hin
      exact alloc_step hoa hwant hrun (allocB hox hoy hoa hap hsel h1 h2 hQ (f + 1) _ _ _ _ (rel_alloc hr _) (below_of hr).size (at_alloc _ _) h)
    · have hi' := ready_mono (i := n + 2) hi hin
      obtain ⟨hlt, hq⟩ := h.2 i hi'
      obtain ⟨_, oi, hoi, _⟩ := mem_ready.1 hi
      refine wpOp_of_qR (by rw [hoi]; rfl) hr (fun a' w' hr' hK => ?_) hq
      refine ih _ _ _ (rel_trans hr hr') (by rw [getD_set_ne true hin]; exact hun) ?_
      rw [Array.setIfInBounds_comm _ _ hin]; exact hK
end
theorem getD_set_self {n : Nat} {xs : Array Bool} (h : n < xs.size) : (xs.setIfInBounds n true).getD n true = true := by
  simp [h]

/-- THE LAW. -/
theorem region_alloc {id : Nat} {Q : Exit → Act → World → Prop} {a : Act} {w : World} {l : List Oper} (n : Nat) (ox oy oa o1 o2 : Oper) (obj : Obj) (hm : P.follows .mixedOrders = true) (hB : allocTailB .any l.toArray n = true)
    (hox : l[n]? = some ox) (hoy : l[n + 1]? = some oy) (hoa : l[n + 2]? = some oa) (haf : oa.after = #[]) (hwant : ∀ a : Act, Region.wanted oa (yielded l.toArray a.tmps) = true)
    (hrun : ∀ (a : Act) (w1 : World), (execOp a.eval oa).run P w1 = .ok (.value (.pointer (some ⟨w1.heap.size, 0, none⟩))) (w1.alloc obj)) (h1 : l[n + 3]? = some o1) (h2 : l[n + 4]? = some o2)
    (h : wpR P l.toArray w (fun a' => ∃ v, Yields P l.toArray ox v a' ∧ ∃ u, Yields P l.toArray oy u (a'.put ox.dst v) ∧ ∀ β w', Below w.heap.size w w' → w.heap.size ≤ β → w'.heap[β]? = some obj → wpList P l.toArray (NoPanic Q) [o1, o2] (((a'.put ox.dst v).put oy.dst u).put oa.dst (.pointer (some ⟨β, 0, none⟩))) w') (l.take n) a) : (Code.region id l.toArray true).wp P Q a w := by
  simp only [allocTailB, Bool.and_eq_true, decide_eq_true_eq] at hB
  obtain ⟨⟨⟨⟨⟨⟨⟨⟨⟨⟨hsel, hsz⟩, hs0⟩, hs1⟩, hs⟩, hs'⟩, hwt⟩, hlx⟩, hly⟩, hap⟩, hlex⟩ := hB
  have hln : l.length = n + 5 := by simpa using hsz
  have htl : (l.take n).length = n := by rw [List.length_take]; omega
  have hox' : l.toArray[n]? = some ox := by simpa using hox
  have hoy' : l.toArray[n + 1]? = some oy := by simpa using hoy
  have hoa' : l.toArray[n + 2]? = some oa := by simpa using hoa
  have inv0 : HeadInv .any l.toArray (n + 3) (Array.replicate l.toArray.size false) :=
    ⟨by simp, fun j oj _ hl => (by rw [getD_replicate_false] at hl; cases hl), fun t _ ht => getD_in (by simpa using ht) (getD_replicate_false _ _)⟩
  have hun : (Array.replicate l.toArray.size false).getD (n + 2) true = false := getD_in (by simp [hln]) (getD_replicate_false _ _)
  have hmem : n + 2 ∈ Region.ready .any l.toArray (Array.replicate l.toArray.size false) := mem_ready.2 ⟨hun, oa, hoa', fun e he => by rw [haf] at he; simp at he⟩
  have H := headR_lex (md := .any) (w := w) hsel hsz hs0 hs1 hs hs' (l.take n) 0 _ a (fun j hj => by
    rw [htl] at hj
    simp [hj]) (by simpa using htl) (inv0.set hmem (by omega)) (getD_set_self (by simp [hln])) (by rw [htl]; exact hlex) h
  rw [htl] at H
  refine wp_region_noPanic (wp_region_any hm ?_)
  rw [hsz]
  exact allocA hox' hoy' hoa' haf hap hsel (by simpa using h1) (by simpa using h2) hwt hlx hly hwant hrun (fun _ _ _ h => h) n _ a _ (show Rel w { w with drawn := w.drawn + 1 } from ⟨⟨w.drawn + 1, #[]⟩, by rw [grow_empty]; rfl⟩) (by rw [← hsz]; exact hun) (by rw [← hsz]; exact H)
end
end Go.Proofs.YtkploaapcpjkbaaDoor
