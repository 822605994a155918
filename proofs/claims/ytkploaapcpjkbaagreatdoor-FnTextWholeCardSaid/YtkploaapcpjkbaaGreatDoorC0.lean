/- A buffer of bytes that is appended to within its capacity: the laws at the operation. -/
import Derived.Test.YtkploaapcpjkbaaGreatDoorProg
import Derived.Test.YtkploaapcpjkbaaGreatDoorV
import Derived.Room.AppendFits
namespace Go.Proofs.YtkploaapcpjkbaaGreatDoor
open Go Go.RowKit Go.Sort
set_option linter.unusedVariables false
set_option linter.unusedSimpArgs false

theorem info5 : (Tryz.prog.info? 5).map (fun i => (i.zero, i.size, i.bytes)) = some (some (.int .u8 0), 1, 1) := by kernel_rfl

/-- A buffer: the slice at the head of block g, k bytes of at most cap, which are xs. -/
def Buf (w : World) (g cap k : Nat) (xs : List Value) : Prop := w.ownsRow 0 5 1 (.slice (some ⟨g, 0, none⟩) k cap) k xs

/-- What a call leaves that appends ys to the buffer. -/
def Appends (w : World) (g cap k : Nat) (xs ys : List Value) (e : Ending) (w' : World) : Prop :=
  e = .returned (.slice (some ⟨g, 0, none⟩) (k + ys.length) cap) ∧ Buf w' g cap (k + ys.length) (xs ++ ys) ∧ w.grownBy w' (some g)

theorem grown_refl (w : World) (g : Nat) : w.grownBy w (some g) := ⟨rfl, rfl, rfl, Nat.le_refl _, fun _ _ _ => rfl⟩
theorem grown_trans {w w1 w2 : World} {g : Nat} (h : w.grownBy w1 (some g)) (k : w1.grownBy w2 (some g)) : w.grownBy w2 (some g) :=
  ⟨k.os.trans h.os, k.tape.trans h.tape, k.output.trans h.output, Nat.le_trans h.size k.size, fun i hi hn => (k.block i (Nat.lt_of_lt_of_le hi h.size) hn).trans (h.block i hi hn)⟩
theorem grown_alloc {w w1 : World} {g : Nat} (h : w.grownBy w1 (some g)) (o : Obj) : w.grownBy (w1.alloc o) (some g) :=
  grown_trans h (World.grownBy_alloc w1 o _)
theorem grown_below {w w1 w2 : World} {g : Nat} (h : w.grownBy w1 (some g)) (hb : Below w1.heap.size w1 w2) : w.grownBy w2 (some g) :=
  grown_trans h ⟨hb.os, hb.tape, hb.output, hb.size, fun i hi _ => hb.block i hi⟩
theorem below_grown {w w1 : World} {g B : Nat} (h : w.grownBy w1 (some g)) (hB : B ≤ g) (hB2 : B ≤ w.heap.size) : Below B w w1 :=
  ⟨h.os, h.tape, h.output, h.size, fun i hi => h.block i (by omega) (by intro e; injection e; omega)⟩
theorem grown_cell {w w1 : World} {g : Nat} (h : w.grownBy w1 (some g)) {p : Addr} (hp : p.block < w.heap.size) (hne : p.block ≠ g) : w1.cell? p = w.cell? p :=
  World.cell?_of_block (h.block p.block hp (by intro e; injection e; omega))
theorem grown_frozen {w w1 : World} {g : Nat} (h : w.grownBy w1 (some g)) {p : Addr} (hp : p.block < w.heap.size) (hne : p.block ≠ g) : w1.frozen? p = w.frozen? p :=
  World.frozen?_of_block (h.block p.block hp (by intro e; injection e; omega))
theorem below_none {w w1 : World} (h : w.grownBy w1 none) : Below w.heap.size w w1 := ⟨h.os, h.tape, h.output, h.size, fun i hi => h.block i hi (by intro e; cases e)⟩
theorem Buf.cast {w : World} {g cap k k' : Nat} {xs xs' : List Value} (h : Buf w g cap k xs) (hk : k' = k) (hx : xs' = xs) : Buf w g cap k' xs' := by rw [hk, hx]; exact h
theorem ret_len {g cap k k' : Nat} (h : k = k') : Ending.returned (.slice (some ⟨g, 0, none⟩) k cap) = Ending.returned (.slice (some ⟨g, 0, none⟩) k' cap) := by rw [h]
theorem Buf.lt {w : World} {g cap k : Nat} {xs : List Value} (h : Buf w g cap k xs) : g < w.heap.size := (World.ownsRow.lt h g rfl).2
theorem Buf.len {w : World} {g cap k : Nat} {xs : List Value} (h : Buf w g cap k xs) : xs.length = k := by have := h.1; omega
theorem Buf.below {w w1 : World} {g cap k : Nat} {xs : List Value} (h : Buf w g cap k xs) (hb : Below w.heap.size w w1) : Buf w1 g cap k xs :=
  World.ownsRow.kept (row := none) h ⟨hb.os, hb.tape, hb.output, hb.size, fun i hi _ => hb.block i hi⟩ (.inr (by simp [Value.ownBlock]))
theorem Buf.alloc {w : World} {g cap k : Nat} {xs : List Value} (h : Buf w g cap k xs) (o : Obj) : Buf (w.alloc o) g cap k xs := World.ownsRow.alloc h o
theorem Buf.setCell {w : World} {g cap k : Nat} {xs : List Value} (h : Buf w g cap k xs) {a : Addr} (ha : a.block ≠ g) (v : Value) : Buf (w.setCell a v) g cap k xs :=
  World.ownsRow.kept (row := some a.block) h ⟨rfl, rfl, rfl, by simp, fun i hi hne => Below.heap_setCell w a v i (by intro e; exact hne (by rw [e]))⟩ (.inr (by simp only [Value.ownBlock]; intro e; injection e; omega))

/-- Bytes as a string. -/
def str (ns : List Int) : ByteArray := ns.foldl (fun r n => r.push (UInt8.ofNat n.toNat)) ByteArray.empty
theorem Buf.string {w : World} {g cap k : Nat} {ns : List Int} (h : Buf w g cap k (ns.map (Value.int .u8))) :
    (convert 60 9 (.slice (some ⟨g, 0, none⟩) k cap)).run Tryz.prog w = .ok (.string (str ns)) w := by
  rw [run_convert_bytes_string w _ _ 5 _ _ _ Tryz.underlying60 Tryz.underlying5 Tryz.underlying9]
  have hl : k = (ns.map (Value.int .u8)).length := h.len.symm
  have := run_loadCells_list (P := Tryz.prog) w ⟨g, 0, none⟩ (ns.map (Value.int .u8)) (fun j v hv => World.ownsRow.cells h rfl j v hv)
  rw [← hl] at this
  exact run_bytesToString w ⟨g, 0, none⟩ k cap ns this

section
variable {ops : Array Oper} {rest : List Oper} {o : Oper} {a : Act} {Q : Exit → Act → World → Prop} {W0 w : World} {g cap k : Nat} {xs : List Value}

theorem appendN (vs : List Value) (hgd : o.guard = none) (s x : Operand) (ho : o.op = .call { callee := .builtin .append, args := #[s, x], argTypes := #[60, 60] })
    (hs : a.eval s = .slice (some ⟨g, 0, none⟩) k cap) (hx : a.eval x = .slice (some ⟨w.heap.size, 0, none⟩) vs.length vs.length) (hB : Buf w g cap k xs) (hG : W0.grownBy w (some g))
    (hv : ∀ v ∈ vs, v.oneCell' = true) (hr : k + vs.length ≤ cap)
    (h : ∀ w', Buf w' g cap (k + vs.length) (xs ++ vs) → W0.grownBy w' (some g) → wpList Tryz.prog ops Q rest (a.put o.dst (.slice (some ⟨g, 0, none⟩) (k + vs.length) cap)) w') :
    wpList Tryz.prog ops Q (o :: rest) a (w.alloc (.cells vs.toArray 5)) := by
  obtain ⟨i0, hi, hz0, hz1, hz2⟩ := info_parts info5
  refine wpList_append_fits _ hgd s x 60 ho 0 5 i0 1 Tryz.underlying60 hi hz1 g k cap xs hs (World.ownsRow.alloc hB _) ⟨w.heap.size, 0, none⟩ vs.length vs.length vs hx (by omega) ?_ hv hr ?_
  · intro j u hj
    show (w.alloc (.cells vs.toArray 5)).cell? ((⟨w.heap.size, 0, none⟩ : Addr).add j) = some u
    rw [Addr.add_mid, Nat.zero_add, World.cell?_alloc_at _ _ _ _ rfl]
    simpa using hj
  · intro w' h1 h2
    exact h w' h1 (grown_trans (grown_alloc hG _) h2)

theorem append1 {v : Value} (hgd : o.guard = none) (s x : Operand) (ho : o.op = .call { callee := .builtin .append, args := #[s, x], argTypes := #[60, 60] })
    (hs : a.eval s = .slice (some ⟨g, 0, none⟩) k cap) (hx : a.eval x = .slice (some ⟨w.heap.size, 0, none⟩) 1 1) (hB : Buf w g cap k xs) (hG : W0.grownBy w (some g)) (hv : v.oneCell' = true) (hr : k + 1 ≤ cap)
    (h : ∀ w', Buf w' g cap (k + 1) (xs ++ [v]) → W0.grownBy w' (some g) → wpList Tryz.prog ops Q rest (a.put o.dst (.slice (some ⟨g, 0, none⟩) (k + 1) cap)) w') :
    wpList Tryz.prog ops Q (o :: rest) a (w.alloc (.cells #[v] 5)) :=
  appendN [v] hgd s x ho hs hx hB hG (by simpa using hv) hr h
theorem append2 {v1 v2 : Value} (hgd : o.guard = none) (s x : Operand) (ho : o.op = .call { callee := .builtin .append, args := #[s, x], argTypes := #[60, 60] })
    (hs : a.eval s = .slice (some ⟨g, 0, none⟩) k cap) (hx : a.eval x = .slice (some ⟨w.heap.size, 0, none⟩) 2 2) (hB : Buf w g cap k xs) (hG : W0.grownBy w (some g)) (hv1 : v1.oneCell' = true) (hv2 : v2.oneCell' = true) (hr : k + 2 ≤ cap)
    (h : ∀ w', Buf w' g cap (k + 2) (xs ++ [v1, v2]) → W0.grownBy w' (some g) → wpList Tryz.prog ops Q rest (a.put o.dst (.slice (some ⟨g, 0, none⟩) (k + 2) cap)) w') :
    wpList Tryz.prog ops Q (o :: rest) a (w.alloc (.cells #[v1, v2] 5)) :=
  appendN [v1, v2] hgd s x ho hs hx hB hG (by simpa using ⟨hv1, hv2⟩) hr h
theorem append4 {v1 v2 v3 v4 : Value} (hgd : o.guard = none) (s x : Operand) (ho : o.op = .call { callee := .builtin .append, args := #[s, x], argTypes := #[60, 60] })
    (hs : a.eval s = .slice (some ⟨g, 0, none⟩) k cap) (hx : a.eval x = .slice (some ⟨w.heap.size, 0, none⟩) 4 4) (hB : Buf w g cap k xs) (hG : W0.grownBy w (some g)) (hv1 : v1.oneCell' = true) (hv2 : v2.oneCell' = true) (hv3 : v3.oneCell' = true) (hv4 : v4.oneCell' = true) (hr : k + 4 ≤ cap)
    (h : ∀ w', Buf w' g cap (k + 4) (xs ++ [v1, v2, v3, v4]) → W0.grownBy w' (some g) → wpList Tryz.prog ops Q rest (a.put o.dst (.slice (some ⟨g, 0, none⟩) (k + 4) cap)) w') :
    wpList Tryz.prog ops Q (o :: rest) a (w.alloc (.cells #[v1, v2, v3, v4] 5)) :=
  appendN [v1, v2, v3, v4] hgd s x ho hs hx hB hG (by simpa using ⟨hv1, hv2, hv3, hv4⟩) hr h
end
end Go.Proofs.YtkploaapcpjkbaaGreatDoor
