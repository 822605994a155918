/- Words for the walks: a region that draws its order and whose callees' contracts end in 'Below', walked once; cells and sizes behind such callees. -/
import Derived.WalkKit
import Derived.WalkSpells
import Derived.WalkLawsBesides
import Derived.Lib.QuietBelow
import Derived.BigQuiet
import Derived.Lib.Hide
import Derived.Deep.RegionHeld3
import Derived.KernelRfl
namespace Go.Proofs.YtkploaapcpjkbaaGreatDoor
open Go.RowKit Go.Sort
set_option linter.unusedVariables false
set_option linter.unusedSimpArgs false

theorem cell_gr (W : World) (d : Nat) (os : Array Obj) (b o : Nat) (h : b < W.heap.size) : (grow (redrawn W d) os).cell? ⟨b, o, none⟩ = W.cell? ⟨b, o, none⟩ :=
  (below_regrown W d os).cell (p := ⟨b, o, none⟩) h

theorem below_of {w w' : World} (h : ∃ p : Regrown, w' = grow (redrawn w p.d) p.os) : Below w.heap.size w w' := by
  obtain ⟨p, rfl⟩ := h
  exact below_regrown w p.d p.os

/-- A callee's contract that ends in 'the world as it was', met in a world of the class. -/
theorem same_of {P : Program} {f : FuncId} {args : Array Value} {w : World} {d : Nat} {os : Array Obj} {v : Value}
    (h : Calls P f args (grow (redrawn w d) os) fun e w' => e = .returned v ∧ w' = grow (redrawn w d) os) : Calls P f args (grow (redrawn w d) os) fun e w'' => e = .returned v ∧ ∃ p : Regrown, w'' = grow (redrawn w p.d) p.os :=
  h.mono fun _ _ ⟨he, hw⟩ => ⟨he, ⟨d, os⟩, hw⟩

/-- What a callee leaves: cells, marks and the size, as rules. -/
theorem rules {W w1 : World} (hb : Below W.heap.size W w1) : (∀ b o, b < W.heap.size → w1.cell? ⟨b, o, none⟩ = W.cell? ⟨b, o, none⟩) ∧ (∀ b o, b < W.heap.size → w1.frozen? ⟨b, o, none⟩ = W.frozen? ⟨b, o, none⟩) :=
  ⟨fun b o h => hb.cell (p := ⟨b, o, none⟩) h, fun b o h => hb.frozen (p := ⟨b, o, none⟩) h⟩

/-- The same below a bound of one's own. -/
theorem rulesB {B : Nat} {W w1 : World} (hb : Below W.heap.size W w1) (hB : B ≤ W.heap.size) : (∀ b o, b < B → w1.cell? ⟨b, o, none⟩ = W.cell? ⟨b, o, none⟩) ∧ (∀ b o, b < B → w1.frozen? ⟨b, o, none⟩ = W.frozen? ⟨b, o, none⟩) :=
  ⟨fun b o h => hb.cell (p := ⟨b, o, none⟩) (Nat.lt_of_lt_of_le h hB), fun b o h => hb.frozen (p := ⟨b, o, none⟩) (Nat.lt_of_lt_of_le h hB)⟩
end Go.Proofs.YtkploaapcpjkbaaGreatDoor
