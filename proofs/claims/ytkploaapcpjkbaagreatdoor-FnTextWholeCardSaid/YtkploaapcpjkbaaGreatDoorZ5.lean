/- Contracts: appendHexPad, appendTo4In6, String of an address of 16 bytes. -/
import Derived.Test.YtkploaapcpjkbaaGreatDoorZ4
namespace Go.Proofs.YtkploaapcpjkbaaGreatDoor
open Go Go.RowKit Go.Sort
set_option linter.unusedVariables false
set_option linter.unusedSimpArgs false
attribute [local go_sem] cell_gr hx_at

theorem str_bs (l : List UInt8) : str (l.map fun c => (c.toNat : Int)) = bs l := by
  have H : ∀ (l : List UInt8) (r : ByteArray), ((l.map fun c => (c.toNat : Int)).foldl (fun r n => r.push (UInt8.ofNat n.toNat)) r) = ⟨r.data ++ l.toArray⟩ := by
    intro l
    induction l with
    | nil => intro r; apply ByteArray.ext; simp
    | cons c l ih =>
      intro r
      simp only [List.map_cons, List.foldl_cons, Int.toNat_natCast, UInt8.ofNat_toNat]
      rw [ih]
      apply ByteArray.ext
      simp
  unfold str
  rw [H]
  apply ByteArray.ext
  simp [bs]
theorem Buf.stringU {w : World} {g cap k : Nat} {l : List UInt8} (h : Buf w g cap k (vals l)) :
    (convert 60 9 (.slice (some ⟨g, 0, none⟩) k cap)).run Tryz.prog w = .ok (.string (bs l)) w := by
  have e : vals l = (l.map fun c => (c.toNat : Int)).map (Value.int .u8) := by simp [vals]
  rw [e] at h
  rw [h.string, str_bs]

theorem appendS {ops : Array Oper} {rest : List Oper} {o : Oper} {a : Act} {Q : Exit → Act → World → Prop} {W0 w : World} {g cap k : Nat} {xs : List Value} (l : List UInt8) (s : ByteArray) (hsl : s = bs l) (hgd : o.guard = none) (sl x : Operand) (ho : o.op = .call { callee := .builtin .append, args := #[sl, x], argTypes := #[60, 9] })
    (hs : a.eval sl = .slice (some ⟨g, 0, none⟩) k cap) (hx : a.eval x = .string s) (hB : Buf w g cap k xs) (hG : W0.grownBy w (some g)) (h1 : 0 < cap) (hr : k + l.length ≤ cap)
    (h : ∀ w', Buf w' g cap (k + l.length) (xs ++ vals l) → W0.grownBy w' (some g) → wpList Tryz.prog ops Q rest (a.put o.dst (.slice (some ⟨g, 0, none⟩) (k + l.length) cap)) w') :
    wpList Tryz.prog ops Q (o :: rest) a w := by
  subst hsl
  obtain ⟨i0, hi, hz0, hz1, hz2⟩ := info_parts info5
  refine Lib.wpList_append_fits_string _ hgd sl x 60 9 ho 0 5 i0 Tryz.underlying60 Tryz.underlying9 hi hz1 (some ⟨g, 0, none⟩) k cap xs hs hB (bs l) hx h1 (by rw [bs_size]; exact hr) ?_
  intro w' h1 h2
  rw [bs_size] at h1 ⊢
  have e : Lib.strCells (bs l) = vals l := by simp [Lib.strCells, bs, vals]
  rw [e] at h1
  exact h w' h1 (grown_trans hG h2)

def mapU (lo : Int) : List UInt8 := [58, 58, 102, 102, 102, 102, 58] ++ quadU lo
set_option maxHeartbeats 3200000 in
theorem appendTo4In6_any (g cap k : Nat) (xs : List Value) (hi lo : Int) (w : World) (hh : 0 ≤ hi) (hh2 : hi < 18446744073709551616) (hl : 0 ≤ lo) (hl2 : lo < 18446744073709551616) (H : Hid (mappedB hi lo = true)) (hb : Buf w g cap k xs) (hr : k + 22 ≤ cap) :
    Calls Tryz.prog 33 #[.agg #[.int .u64 (hi), .int .u64 (lo), .bool true, .bool true, .string ⟨#[]⟩], .slice (some ⟨g, 0, none⟩) k cap] w (Appends w g cap k xs (vals (mapU lo))) := by
  have hne : w.heap.size ≠ g := by have := hb.lt; omega
  have hB0 := hb.alloc (.cells #[.int .u64 hi, .int .u64 lo, .bool true, .bool true, .string ⟨#[]⟩] 36)
  have hG0 := grown_refl (w.alloc (.cells #[.int .u64 hi, .int .u64 lo, .bool true, .bool true, .string ⟨#[]⟩] 36)) g
  have HG := Lib.hid (grown_alloc (grown_refl w g) (.cells #[.int .u64 hi, .int .u64 lo, .bool true, .bool true, .string ⟨#[]⟩] 36))
  have hr2 : k + 7 + (quad lo).length ≤ cap := by have := quad_len lo; omega
  have hr1 : k + [(58 : UInt8), 58, 102, 102, 102, 102, 58].length ≤ cap := by simp only [List.length_cons, List.length_nil]; omega
  clear hb
  go_enter Tryz.func33, Tryz.ntmps33
  go_wp2_with (at_builtin; refine appendS [58, 58, 102, 102, 102, 102, 58] _ rfl rfl _ _ rfl rfl rfl hB0 hG0 (by omega) hr1 ?_; intro w1 hB1 hG1; have hc1 := fun b o (h : b < _) (hn : b ≠ g) => grown_cell hG1 (p := ⟨b, o, none⟩) h hn; have hf1 := fun b o (h : b < _) (hn : b ≠ g) => grown_frozen hG1 (p := ⟨b, o, none⟩) h hn; have hs1 := hG1.size)
  simp only [List.length_cons, List.length_nil, Nat.reduceAdd] at hB1 ⊢
  go_wp2_with fail
  refine (unmap_yes hi lo _ hh hl hl2 H).mono ?_
  rintro e w2 ⟨rfl, hb2⟩
  have hG2 := grown_below hG1 hb2
  have hB2 := hB1.below hb2
  clear hb2
  have hc2 := fun b o (h : b < _) (hn : b ≠ g) => grown_cell hG2 (p := ⟨b, o, none⟩) h hn
  have hf2 := fun b o (h : b < _) (hn : b ≠ g) => grown_frozen hG2 (p := ⟨b, o, none⟩) h hn
  have hs2 := hG2.size
  clear hc1 hf1
  go_wp2_with fail
  refine (appendTo4_any false g cap _ _ hi lo _ hl hl2 hB2 hr2).mono ?_
  rintro e w3 ⟨rfl, hB3, hg3⟩
  have hG3 := grown_trans hG2 hg3
  clear hg3
  have hc3 := fun b o (h : b < _) (hn : b ≠ g) => grown_cell hG3 (p := ⟨b, o, none⟩) h hn
  have hf3 := fun b o (h : b < _) (hn : b ≠ g) => grown_frozen hG3 (p := ⟨b, o, none⟩) h hn
  have hs3 := hG3.size
  clear hc2 hf2
  have hz : w.heap.size < w3.heap.size := by simp only [World.size_alloc] at hs3; omega
  have qq3_0 : w3.cell? ⟨w.heap.size, 0, none⟩ = some (.int .u64 hi) := by rw [hc3 _ _ (by first | omega | (simp only [World.size_alloc, World.size_setCell, World.size_drew]; omega)) (by assumption)]; first | with_reducible assumption | (simp [go_sem]; done) | (simp [go_sem, *]; done)
  have qq3_1 : w3.cell? ⟨w.heap.size, 1, none⟩ = some (.int .u64 lo) := by rw [hc3 _ _ (by first | omega | (simp only [World.size_alloc, World.size_setCell, World.size_drew]; omega)) (by assumption)]; first | with_reducible assumption | (simp [go_sem]; done) | (simp [go_sem, *]; done)
  have qq3_2 : w3.cell? ⟨w.heap.size, 2, none⟩ = some (.bool true) := by rw [hc3 _ _ (by first | omega | (simp only [World.size_alloc, World.size_setCell, World.size_drew]; omega)) (by assumption)]; first | with_reducible assumption | (simp [go_sem]; done) | (simp [go_sem, *]; done)
  have qq3_3 : w3.cell? ⟨w.heap.size, 3, none⟩ = some (.bool true) := by rw [hc3 _ _ (by first | omega | (simp only [World.size_alloc, World.size_setCell, World.size_drew]; omega)) (by assumption)]; first | with_reducible assumption | (simp [go_sem]; done) | (simp [go_sem, *]; done)
  have qq3_4 : w3.cell? ⟨w.heap.size, 4, none⟩ = some (.string ⟨#[]⟩) := by rw [hc3 _ _ (by first | omega | (simp only [World.size_alloc, World.size_setCell, World.size_drew]; omega)) (by assumption)]; first | with_reducible assumption | (simp [go_sem]; done) | (simp [go_sem, *]; done)
  go_wp2
  refine wp_region_quiet_below (by kernel_rfl) (by kernel_rfl) ?_
  repeat quiet_step (fail)
  quiet_step (with_reducible exact Calls.regrown_of (z6noz_any _))
  repeat quiet_step (fail)
  refine wpQuiet_nil ?_
  intro w4 hb4
  replace hb4 := below_of hb4
  obtain ⟨hc4, hf4⟩ := rules hb4
  have hs4 := hb4.size
  try simp only [World.size_alloc, World.size_setCell, World.size_drew] at hs4
  go_wp2
  go_ret
  refine ⟨?_, ?_, grown_trans HG.out (grown_below hG3 hb4)⟩
  · exact ret_len (by rw [vals_length, quad_vals, vals_length, mapU]; simp only [List.length_append, List.length_cons, List.length_nil]; omega)
  · exact (hB3.below hb4).cast (by rw [vals_length, quad_vals, vals_length, mapU]; simp only [List.length_append, List.length_cons, List.length_nil]; omega) (by rw [mapU, vals_append, quad_vals]; simp only [List.append_assoc])
end Go.Proofs.YtkploaapcpjkbaaGreatDoor
