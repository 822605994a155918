/- A list of texts that a call gathers: the laws at the operation; strings.Join over it. -/
import Derived.Test.YtkploaapcpjkbaaGreatDoorY1
import Derived.Test.YtkploaapcpjkbaaGreatDoorO1z
namespace Go.Proofs.YtkploaapcpjkbaaGreatDoor
open Go Go.RowKit Go.Sort
set_option linter.unusedVariables false
set_option linter.unusedSimpArgs false
attribute [local go_sem] cell_gr

theorem info9 : (Tryz.prog.info? 9).map (fun i => (i.zero, i.size, i.bytes)) = some (some (.string ⟨#[]⟩), 1, 16) := by kernel_rfl

/-- A list of texts among the call's own blocks (from B on). -/
def OwnS (w : World) (B : Nat) (v : Value) (xs : List (List UInt8)) : Prop := w.ownsRow B 9 1 v xs.length (xs.map fun l => .string (bs l))
theorem ownS_nil (w : World) (B : Nat) : OwnS w B (.slice none 0 0) [] := World.ownsRow_nil _ _ _ _
theorem OwnS.below {w w1 : World} {B : Nat} {v : Value} {xs : List (List UInt8)} (h : OwnS w B v xs) (hb : Below w.heap.size w w1) : OwnS w1 B v xs :=
  World.ownsRow.kept (row := none) h ⟨hb.os, hb.tape, hb.output, hb.size, fun i hi _ => hb.block i hi⟩ (by cases hv : v.ownBlock <;> simp)
theorem OwnS.alloc {w : World} {B : Nat} {v : Value} {xs : List (List UInt8)} (h : OwnS w B v xs) (o : Obj) : OwnS (w.alloc o) B v xs := World.ownsRow.alloc h o
theorem OwnS.setCell {w : World} {B : Nat} {v : Value} {xs : List (List UInt8)} (h : OwnS w B v xs) {p : Addr} (hp : p.block < B) (x : Value) : OwnS (w.setCell p x) B v xs := by
  refine World.ownsRow.kept (row := some p.block) h ⟨rfl, rfl, rfl, by simp, fun i hi hne => Below.heap_setCell w p x i (by intro e; exact hne (by rw [e]))⟩ ?_
  cases hv : v.ownBlock with
  | none => exact .inl rfl
  | some k => right; have := (World.ownsRow.lt h k hv).1; intro e; injection e; omega
theorem OwnS.grown {w w1 : World} {B : Nat} {v : Value} {xs : List (List UInt8)} (h : OwnS w B v xs) (hB : B ≤ w.heap.size) (hg : w.grownBy w1 v.ownBlock) : Below B w w1 :=
  ⟨hg.os, hg.tape, hg.output, hg.size, fun i hi => hg.block i (by omega) (by intro e; have := (World.ownsRow.lt h i e.symm).1; omega)⟩
/-- It stands whatever another list of the same call grows to, if they are apart. -/
def ApartS (v v' : Value) : Prop := v.ownBlock = none ∨ v.ownBlock ≠ v'.ownBlock
theorem OwnS.beside {w w1 : World} {B : Nat} {v v' : Value} {xs : List (List UInt8)} (h : OwnS w B v xs) (hg : w.grownBy w1 v'.ownBlock) (ha : ApartS v v') : OwnS w1 B v xs := World.ownsRow.kept h hg ha

section
variable {ops : Array Oper} {rest : List Oper} {o : Oper} {a : Act} {Q : Exit → Act → World → Prop} {w : World} {B : Nat} {v : Value} {xs : List (List UInt8)}
theorem appendStr (y : List UInt8) (hgd : o.guard = none) (s x : Operand) (ho : o.op = .call { callee := .builtin .append, args := #[s, x], argTypes := #[48, 48] })
    (hs : a.eval s = v) (hx : a.eval x = .slice (some ⟨w.heap.size, 0, none⟩) 1 1) (hO : OwnS w B v xs) (hB : B ≤ w.heap.size) (hn : xs.length ≤ 100)
    (h : ∀ v' w', OwnS w' B v' (xs ++ [y]) → Below B w w' → w.grownBy w' v.ownBlock → wpList Tryz.prog ops Q rest (a.put o.dst v') w') :
    wpList Tryz.prog ops Q (o :: rest) a (w.alloc (.cells #[.string (bs y)] 9)) := by
  obtain ⟨i0, hi, hz0, hz1, hz2⟩ := info_parts info9
  refine wpList_append_own _ hgd s x 48 ho B 9 i0 (.string ⟨#[]⟩) 1 16 Tryz.underlying48 hi hz0 hz1 hz2 rfl (by decide) v xs.length _ hs (World.ownsRow.alloc hO _) ⟨w.heap.size, 0, none⟩ 1 1 [.string (bs y)] hx rfl ?_ ?_ ?_ ?_ ?_ ?_
  · intro j u hj
    rw [Addr.add_mid, Nat.zero_add, World.cell?_alloc_at _ _ _ _ rfl]
    simpa using hj
  · intro u hu; simp at hu; subst hu; rfl
  · unfold maxLen; omega
  · omega
  · simp; omega
  · intro v' w' h1 h2 _
    have hg : w.grownBy w' v.ownBlock := ⟨h2.os, h2.tape, h2.output, Nat.le_trans (by simp) h2.size, fun i hi hn => (h2.block i (by simp; omega) hn).trans ((World.grownBy_alloc w (.cells #[.string (bs y)] 9) v.ownBlock).block i hi hn)⟩
    refine h v' w' ?_ (hO.grown hB hg) hg
    have e : xs.length + 1 = (xs ++ [y]).length := by simp
    rw [e] at h1
    unfold OwnS
    rw [List.map_append]
    exact h1
end

theorem join_le (xs : List (List UInt8)) (sep : List UInt8) (hn : xs.length ≤ 100) (hx : ∀ x ∈ xs, x.length ≤ 100) (hs : sep.length ≤ 1) : (Lib.join xs sep).length ≤ 140737488355328 := by
  have H : ∀ r : List (List UInt8), (∀ x ∈ r, x.length ≤ 100) → (Lib.joinTail sep r).length ≤ 101 * r.length := by
    intro r
    induction r with
    | nil => intro _; simp [Lib.joinTail]
    | cons x r ih =>
      intro h
      have h1 := h x (by simp)
      have h2 := ih (fun y hy => h y (by simp [hy]))
      simp only [Lib.joinTail, List.map_cons, List.flatten_cons, List.length_append, List.length_cons] at h2 ⊢
      omega
  cases xs with
  | nil => simp [Lib.join_nil]
  | cons x r =>
    rw [Lib.join_cons]
    have h1 := hx x (by simp)
    have h2 := H r (fun y hy => hx y (by simp [hy]))
    simp only [List.length_append, List.length_cons] at hn ⊢
    omega

theorem join_own (xs : List (List UInt8)) (sep : List UInt8) (S : ByteArray) (hS : S = bs sep) (w : World) (B : Nat) (v : Value) (hO : OwnS w B v xs) (hn : xs.length ≤ 100) (hx : ∀ x ∈ xs, x.length ≤ 100) (hs : sep.length ≤ 1) :
    Calls Tryz.prog 19 #[v, .string S] w fun e w' => e = .returned (.string (bs (Lib.join xs sep))) ∧ Below w.heap.size w w' := by
  subst hS
  rcases hO.2 with ⟨rfl, h0⟩ | ⟨g, cap, cur, rfl, _, hg, hcap, _, _, _⟩
  · have e : xs = [] := List.eq_nil_of_length_eq_zero h0
    subst e
    exact (Tryz.strings_Join_none none 0 (bs sep) w).mono fun e w' ⟨he, hw⟩ => ⟨he, by rw [hw]; exact Below.refl _ _⟩
  · have hlt := (World.ownsRow.lt hO g rfl).2
    have H := Tryz.strings_Join g 0 cap (xs.map bs) (bs sep) w (fun j x hj => by
      have := World.ownsRow.cells hO (g := g) rfl j (.string x) (by
        rw [List.getElem?_map] at hj ⊢
        cases hq : xs[j]? with
        | none => rw [hq] at hj; cases hj
        | some l => rw [hq] at hj; simp at hj; subst hj; rfl)
      rwa [Addr.add_mid] at this) hlt (by simp; omega) (by simpa using hcap) (by
        simp only [List.map_map, Function.comp_def, bs_toList, List.map_id']
        exact join_le xs sep hn hx hs)
    simp only [List.length_map, List.map_map, Function.comp_def, bs_toList, List.map_id'] at H
    exact H
end Go.Proofs.YtkploaapcpjkbaaGreatDoor
