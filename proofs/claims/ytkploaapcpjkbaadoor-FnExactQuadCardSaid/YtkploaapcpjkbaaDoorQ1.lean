/- Contract: strconv.Itoa at small numbers; the table that it reads. -/
import Derived.Test.YtkploaapcpjkbaaDoorShelfD
import Derived.Test.YtkploaapcpjkbaaDoorW
import Derived.Lib.AppendIntMem
import Derived.Lib.SmallJoins
namespace Go.Proofs.YtkploaapcpjkbaaDoor
open Go Go.RowKit Go.Sort
set_option linter.unusedVariables false
set_option linter.unusedSimpArgs false

/-- The table of the powers of ten is laid, here and in each world with blocks laid behind. -/
def Tab (w : World) : Prop := Lib.TabBelow Tryd.prog w.heap.size w "internal/strconv.uint64pow10" .u64 Lib.pow10Tab
theorem Tab.below {w w1 : World} (h : Tab w) (hb : Below w.heap.size w w1) : Tab w1 := fun w2 h2 => h w2 (hb.trans (h2.mono hb.size))
theorem Tab.of {w : World} (h : Lib.TabIs Tryd.prog w "internal/strconv.uint64pow10" .u64 Lib.pow10Tab) : Tab w := Lib.tabBelow_of_tabIs h

theorem below_drewn (w : World) (k : Nat) (os : Array Obj) : Below w.heap.size w (grow (w.drewN k) os) :=
  ⟨rfl, rfl, rfl, by simp [grow, World.drewN], fun j hj => by simp [grow, World.drewN, Array.getElem?_append, hj]⟩

theorem itoa_any (n : Int) (h0 : 0 ≤ n) (h1 : n < 65536) (w : World) (hT : Tab w) :
    Calls Tryd.prog 22 #[.int .i64 n] w fun e w' => e = .returned (.string ⟨(Lib.itoa n).toArray⟩) ∧ Below w.heap.size w w' :=
  (Tryd.strconv_Itoa n (by omega) (by omega) w hT.here).mono fun e w' ⟨he, k, os, hw⟩ => ⟨he, by rw [hw]; exact below_drewn w k os⟩
end Go.Proofs.YtkploaapcpjkbaaDoor
