/- Contracts: strconv.FormatUint at base 16, below 65536; strconv.Itoa; the tables that they read. -/
import Derived.Test.YtkploaapcpjkbaaGreatDoorY0
import Derived.Test.YtkploaapcpjkbaaGreatDoorC0
import Derived.Test.YtkploaapcpjkbaaGreatDoorZ5
import Derived.Test.YtkploaapcpjkbaaGreatDoorShelfZ
import Derived.Lib.AppendIntMem
import Derived.Lib.SmallJoins
namespace Go.Proofs.YtkploaapcpjkbaaGreatDoor
open Go Go.RowKit Go.Sort
set_option linter.unusedVariables false
set_option linter.unusedSimpArgs false
attribute [local go_sem] cell_gr

theorem conv_at (W : World) (b off k cap : Nat) (l : List UInt8) (hk : k = l.length) (hc : ∀ j v, (vals l)[j]? = some v → W.cell? ⟨b, off + j, none⟩ = some v) :
    (convert 60 9 (.slice (some ⟨b, off, none⟩) k cap)).run Tryz.prog W = .ok (.string (bs l)) W := by
  subst hk
  rw [run_convert_bytes_string W _ _ 5 _ _ _ Tryz.underlying60 Tryz.underlying5 Tryz.underlying9]
  have e : vals l = (l.map fun c => (c.toNat : Int)).map (Value.int .u8) := by simp [vals]
  have h := run_loadCells_list (P := Tryz.prog) W ⟨b, off, none⟩ (vals l) (fun j v hv => by rw [Addr.add_mid]; exact hc j v hv)
  rw [e] at h
  have hl : ((l.map fun c => (c.toNat : Int)).map (Value.int .u8)).length = l.length := by simp
  rw [hl] at h
  rw [run_bytesToString W ⟨b, off, none⟩ l.length cap (l.map fun c => (c.toNat : Int)) h]
  exact congrArg (fun s => Result.ok (Value.string s) W) (str_bs l)

/-- The tables, as they are laid. -/
def Tab (w : World) : Prop := Lib.TabBelow Tryz.prog w.heap.size w "internal/strconv.uint64pow10" .u64 Lib.pow10Tab
theorem Tab.below {w w1 : World} (h : Tab w) (hb : Below w.heap.size w w1) : Tab w1 := fun w2 h2 => h w2 (hb.trans (h2.mono hb.size))
theorem Tab.of {w : World} (h : Lib.TabIs Tryz.prog w "internal/strconv.uint64pow10" .u64 Lib.pow10Tab) : Tab w := Lib.tabBelow_of_tabIs h
def Tab16 (w : World) : Prop := w.cell? ⟨6, 15, none⟩ = some (.int .u8 4)
theorem Tab16.below {w w1 : World} (h : Tab16 w) (hb : Below w.heap.size w w1) : Tab16 w1 := (hb.cell (p := ⟨6, 15, none⟩) (block_lt_of_cell h)).trans h
structure Laid (w : World) : Prop where
  t10 : Tab w
  t16 : Tab16 w
theorem Laid.below {w w1 : World} (h : Laid w) (hb : Below w.heap.size w w1) : Laid w1 := ⟨h.t10.below hb, h.t16.below hb⟩

theorem below_drewn (w : World) (k : Nat) (os : Array Obj) : Below w.heap.size w (grow (w.drewN k) os) :=
  ⟨rfl, rfl, rfl, by simp [grow, World.drewN], fun j hj => by simp [grow, World.drewN, Array.getElem?_append, hj]⟩
theorem itoa_any (n : Int) (h0 : 0 ≤ n) (h1 : n < 65536) (w : World) (hT : Laid w) :
    Calls Tryz.prog 40 #[.int .i64 n] w fun e w' => e = .returned (.string (bs (Lib.itoa n))) ∧ Below w.heap.size w w' :=
  (Tryz.strconv_Itoa n (by omega) (by omega) w hT.t10.here).mono fun e w' ⟨he, k, os, hw⟩ => ⟨he, by rw [hw]; exact below_drewn w k os⟩

def hx36 (d : Int) : Int := (((#[48, 49, 50, 51, 52, 53, 54, 55, 56, 57, 97, 98, 99, 100, 101, 102, 103, 104, 105, 106, 107, 108, 109, 110, 111, 112, 113, 114, 115, 116, 117, 118, 119, 120, 121, 122] : Array UInt8).getD d.toNat 0).toNat : Int)
theorem hx36_at (d : Int) (h : d.toNat < (⟨#[48, 49, 50, 51, 52, 53, 54, 55, 56, 57, 97, 98, 99, 100, 101, 102, 103, 104, 105, 106, 107, 108, 109, 110, 111, 112, 113, 114, 115, 116, 117, 118, 119, 120, 121, 122]⟩ : ByteArray).size) : (((⟨#[48, 49, 50, 51, 52, 53, 54, 55, 56, 57, 97, 98, 99, 100, 101, 102, 103, 104, 105, 106, 107, 108, 109, 110, 111, 112, 113, 114, 115, 116, 117, 118, 119, 120, 121, 122]⟩ : ByteArray)[d.toNat]'h).toNat : Int) = hx36 d := by
  unfold hx36
  rw [Array.getD_eq_getD_getElem?, Array.getElem?_eq_getElem h]; rfl
theorem hx36_eq (d : Int) (h0 : 0 ≤ d) (h1 : d < 16) : hx36 d = ((hxU d).toNat : Int) := by
  obtain ⟨n, rfl⟩ := Int.eq_ofNat_of_zero_le h0
  have hn : n < 16 := by omega
  have H : ∀ n, n < 16 → hx36 ((n : Nat) : Int) = ((hxU ((n : Nat) : Int)).toNat : Int) := by decide +kernel
  exact H n hn
attribute [local go_sem] hx36_at

theorem pow2_16 (w : World) : Calls Tryz.prog 91 #[.int .i64 16] w fun e w' => e = .returned (.bool true) ∧ w' = w := by
  have e1 : bits .and .i64 16 15 = 0 := by decide +kernel
  go_enter Tryz.func91, Tryz.ntmps91
  go_wp2
  go_ret
  exact ⟨rfl, rfl⟩
set_option maxHeartbeats 800000 in
theorem tz64_16 (w : World) (hT : Tab16 w) : Calls Tryz.prog 97 #[.int .u64 16] w fun e w' => e = .returned (.int .i64 4) ∧ w' = w := by
  have h15 : w.cell? ⟨6, 15, none⟩ = some (.int .u8 4) := hT
  have key : IntKind.u64.wrap (bits BinOp.and IntKind.u64 16 (IntKind.u64.wrap (-16)) * 285870213051353865) / 288230376151711744 = 15 := by decide +kernel
  go_enter Tryz.func97, Tryz.ntmps97
  go_wp2_with (simp only [key])
  go_ret
  exact ⟨rfl, rfl⟩
theorem tz16 (w : World) (hT : Tab16 w) : Calls Tryz.prog 92 #[.int .u64 16] w fun e w' => e = .returned (.int .i64 4) ∧ w' = w := by
  go_enter Tryz.func92, Tryz.ntmps92
  go_wp2_with fail
  refine (tz64_16 w hT).mono ?_
  rintro e w1 ⟨rfl, hw1⟩
  subst hw1
  go_wp2
  go_ret
  exact ⟨rfl, rfl⟩

theorem z65 : Tryz.zeroCells122.size = 65 := by kernel_rfl

set_option maxRecDepth 100000 in
set_option maxHeartbeats 1600000 in
theorem formatBits_1 (x : Int) (w : World) (hT : Tab16 w) (h0 : 0 ≤ x) (h1 : x < 16) :
    Calls Tryz.prog 77 #[.slice none 0 0, .int .u64 x, .int .i64 16, .bool false, .bool false] w fun e w' => e = .returned (.tuple #[.slice none 0 0, .string (bs [hxU x])]) ∧ Below w.heap.size w w' := by
  have e1 : hx36 x = ((hxU x).toNat : Int) := hx36_eq x h0 h1
  have HT := Lib.hid hT
  clear hT
  go_enter Tryz.func77, Tryz.ntmps77
  go_wp2_with fail
  refine (pow2_16 _).mono ?_
  rintro e w1 ⟨rfl, hw1⟩
  subst hw1
  go_wp2_with fail
  refine (tz16 _ (HT.out.below ((Below.refl _ _).alloc (Nat.le_refl _) _))).mono ?_
  rintro e w1 ⟨rfl, hw1⟩
  subst hw1
  go_wp2
  refine wp_loop_rounds 1 ?_
  rw [rounds_succ]
  go_wp2
  rw [conv_at _ w.heap.size 64 1 1 [hxU x] rfl (by
    intro j v hv
    rw [World.cell?_alloc_at _ _ _ _ rfl]
    match j, hv with
    | 0, hv => simp [vals] at hv; subst hv; simp [Array.getElem?_setIfInBounds, z65]
    | m + 1, hv => simp [vals] at hv)]
  go_wp2
  go_ret2
  exact ⟨rfl, (Below.refl _ _).alloc (Nat.le_refl _) _⟩

set_option maxRecDepth 100000 in
set_option maxHeartbeats 1600000 in
theorem formatBits_2 (x : Int) (w : World) (hT : Tab16 w) (h0 : 16 ≤ x) (h1 : x < 256) :
    Calls Tryz.prog 77 #[.slice none 0 0, .int .u64 x, .int .i64 16, .bool false, .bool false] w fun e w' => e = .returned (.tuple #[.slice none 0 0, .string (bs [hxU (x / 16), hxU (x % 16)])]) ∧ Below w.heap.size w w' := by
  have fa1 : bits .and .u64 (x) 15 = (x) % 16 := u64_low 4 (by decide) _ _ (by omega) (by omega) (by decide)
  have fb1 : 0 ≤ (x) % 16 := by omega
  have fc1 : (x) % 16 < 16 := by omega
  have fe2 : hx36 (x % 16) = ((hxU (x % 16)).toNat : Int) := hx36_eq _ (by omega) (by omega)
  have fe3 : hx36 (x / 16) = ((hxU (x / 16)).toNat : Int) := hx36_eq _ (by omega) (by omega)
  have HT := Lib.hid hT
  clear hT
  go_enter Tryz.func77, Tryz.ntmps77
  go_wp2_with fail
  refine (pow2_16 _).mono ?_
  rintro e w1 ⟨rfl, hw1⟩
  subst hw1
  go_wp2_with fail
  refine (tz16 _ (HT.out.below ((Below.refl _ _).alloc (Nat.le_refl _) _))).mono ?_
  rintro e w1 ⟨rfl, hw1⟩
  subst hw1
  go_wp2
  refine wp_loop_rounds 2 ?_
  rw [rounds_succ]
  go_wp2
  rw [rounds_succ]
  go_wp2
  rw [conv_at _ w.heap.size 63 2 2 [hxU (x / 16), hxU (x % 16)] rfl (by
    intro j v hv
    rw [World.cell?_alloc_at _ _ _ _ rfl]
    match j, hv with
    | 0, hv => simp [vals] at hv; subst hv; simp [Array.getElem?_setIfInBounds, z65]
    | 1, hv => simp [vals] at hv; subst hv; simp [Array.getElem?_setIfInBounds, z65]
    | m + 2, hv => simp [vals] at hv)]
  go_wp2
  go_ret2
  exact ⟨rfl, (Below.refl _ _).alloc (Nat.le_refl _) _⟩

set_option maxRecDepth 100000 in
set_option maxHeartbeats 1600000 in
theorem formatBits_3 (x : Int) (w : World) (hT : Tab16 w) (h0 : 256 ≤ x) (h1 : x < 4096) :
    Calls Tryz.prog 77 #[.slice none 0 0, .int .u64 x, .int .i64 16, .bool false, .bool false] w fun e w' => e = .returned (.tuple #[.slice none 0 0, .string (bs [hxU (x / 16 / 16), hxU (x / 16 % 16), hxU (x % 16)])]) ∧ Below w.heap.size w w' := by
  have fa4 : bits .and .u64 (x) 15 = (x) % 16 := u64_low 4 (by decide) _ _ (by omega) (by omega) (by decide)
  have fb4 : 0 ≤ (x) % 16 := by omega
  have fc4 : (x) % 16 < 16 := by omega
  have fa5 : bits .and .u64 (x / 16) 15 = (x / 16) % 16 := u64_low 4 (by decide) _ _ (by omega) (by omega) (by decide)
  have fb5 : 0 ≤ (x / 16) % 16 := by omega
  have fc5 : (x / 16) % 16 < 16 := by omega
  have fe6 : hx36 (x % 16) = ((hxU (x % 16)).toNat : Int) := hx36_eq _ (by omega) (by omega)
  have fe7 : hx36 (x / 16 % 16) = ((hxU (x / 16 % 16)).toNat : Int) := hx36_eq _ (by omega) (by omega)
  have fe8 : hx36 (x / 16 / 16) = ((hxU (x / 16 / 16)).toNat : Int) := hx36_eq _ (by omega) (by omega)
  have HT := Lib.hid hT
  clear hT
  go_enter Tryz.func77, Tryz.ntmps77
  go_wp2_with fail
  refine (pow2_16 _).mono ?_
  rintro e w1 ⟨rfl, hw1⟩
  subst hw1
  go_wp2_with fail
  refine (tz16 _ (HT.out.below ((Below.refl _ _).alloc (Nat.le_refl _) _))).mono ?_
  rintro e w1 ⟨rfl, hw1⟩
  subst hw1
  go_wp2
  refine wp_loop_rounds 3 ?_
  rw [rounds_succ]
  go_wp2
  rw [rounds_succ]
  go_wp2
  rw [rounds_succ]
  go_wp2
  rw [conv_at _ w.heap.size 62 3 3 [hxU (x / 16 / 16), hxU (x / 16 % 16), hxU (x % 16)] rfl (by
    intro j v hv
    rw [World.cell?_alloc_at _ _ _ _ rfl]
    match j, hv with
    | 0, hv => simp [vals] at hv; subst hv; simp [Array.getElem?_setIfInBounds, z65]
    | 1, hv => simp [vals] at hv; subst hv; simp [Array.getElem?_setIfInBounds, z65]
    | 2, hv => simp [vals] at hv; subst hv; simp [Array.getElem?_setIfInBounds, z65]
    | m + 3, hv => simp [vals] at hv)]
  go_wp2
  go_ret2
  exact ⟨rfl, (Below.refl _ _).alloc (Nat.le_refl _) _⟩

set_option maxRecDepth 100000 in
set_option maxHeartbeats 1600000 in
theorem formatBits_4 (x : Int) (w : World) (hT : Tab16 w) (h0 : 4096 ≤ x) (h1 : x < 65536) :
    Calls Tryz.prog 77 #[.slice none 0 0, .int .u64 x, .int .i64 16, .bool false, .bool false] w fun e w' => e = .returned (.tuple #[.slice none 0 0, .string (bs [hxU (x / 16 / 16 / 16), hxU (x / 16 / 16 % 16), hxU (x / 16 % 16), hxU (x % 16)])]) ∧ Below w.heap.size w w' := by
  have fa9 : bits .and .u64 (x) 15 = (x) % 16 := u64_low 4 (by decide) _ _ (by omega) (by omega) (by decide)
  have fb9 : 0 ≤ (x) % 16 := by omega
  have fc9 : (x) % 16 < 16 := by omega
  have fa10 : bits .and .u64 (x / 16) 15 = (x / 16) % 16 := u64_low 4 (by decide) _ _ (by omega) (by omega) (by decide)
  have fb10 : 0 ≤ (x / 16) % 16 := by omega
  have fc10 : (x / 16) % 16 < 16 := by omega
  have fa11 : bits .and .u64 (x / 16 / 16) 15 = (x / 16 / 16) % 16 := u64_low 4 (by decide) _ _ (by omega) (by omega) (by decide)
  have fb11 : 0 ≤ (x / 16 / 16) % 16 := by omega
  have fc11 : (x / 16 / 16) % 16 < 16 := by omega
  have fe12 : hx36 (x % 16) = ((hxU (x % 16)).toNat : Int) := hx36_eq _ (by omega) (by omega)
  have fe13 : hx36 (x / 16 % 16) = ((hxU (x / 16 % 16)).toNat : Int) := hx36_eq _ (by omega) (by omega)
  have fe14 : hx36 (x / 16 / 16 % 16) = ((hxU (x / 16 / 16 % 16)).toNat : Int) := hx36_eq _ (by omega) (by omega)
  have fe15 : hx36 (x / 16 / 16 / 16) = ((hxU (x / 16 / 16 / 16)).toNat : Int) := hx36_eq _ (by omega) (by omega)
  have HT := Lib.hid hT
  clear hT
  go_enter Tryz.func77, Tryz.ntmps77
  go_wp2_with fail
  refine (pow2_16 _).mono ?_
  rintro e w1 ⟨rfl, hw1⟩
  subst hw1
  go_wp2_with fail
  refine (tz16 _ (HT.out.below ((Below.refl _ _).alloc (Nat.le_refl _) _))).mono ?_
  rintro e w1 ⟨rfl, hw1⟩
  subst hw1
  go_wp2
  refine wp_loop_rounds 4 ?_
  rw [rounds_succ]
  go_wp2
  rw [rounds_succ]
  go_wp2
  rw [rounds_succ]
  go_wp2
  rw [rounds_succ]
  go_wp2
  rw [conv_at _ w.heap.size 61 4 4 [hxU (x / 16 / 16 / 16), hxU (x / 16 / 16 % 16), hxU (x / 16 % 16), hxU (x % 16)] rfl (by
    intro j v hv
    rw [World.cell?_alloc_at _ _ _ _ rfl]
    match j, hv with
    | 0, hv => simp [vals] at hv; subst hv; simp [Array.getElem?_setIfInBounds, z65]
    | 1, hv => simp [vals] at hv; subst hv; simp [Array.getElem?_setIfInBounds, z65]
    | 2, hv => simp [vals] at hv; subst hv; simp [Array.getElem?_setIfInBounds, z65]
    | 3, hv => simp [vals] at hv; subst hv; simp [Array.getElem?_setIfInBounds, z65]
    | m + 4, hv => simp [vals] at hv)]
  go_wp2
  go_ret2
  exact ⟨rfl, (Below.refl _ _).alloc (Nat.le_refl _) _⟩


theorem formatBits_any (x : Int) (w : World) (hT : Tab16 w) (h0 : 0 ≤ x) (h1 : x < 65536) :
    Calls Tryz.prog 77 #[.slice none 0 0, .int .u64 x, .int .i64 16, .bool false, .bool false] w fun e w' => e = .returned (.tuple #[.slice none 0 0, .string (bs (hexU x))]) ∧ Below w.heap.size w w' := by
  unfold hexU
  by_cases c1 : 4096 ≤ x
  · rw [if_pos c1]
    have := formatBits_4 x w hT c1 h1
    rwa [show x / 16 / 16 / 16 = x / 4096 by omega, show x / 16 / 16 % 16 = x / 256 % 16 by omega] at this
  · by_cases c2 : 256 ≤ x
    · rw [if_neg c1, if_pos c2]
      have := formatBits_3 x w hT c2 (by omega)
      rwa [show x / 16 / 16 = x / 256 % 16 by omega] at this
    · by_cases c3 : 16 ≤ x
      · rw [if_neg c1, if_neg c2, if_pos c3]
        have := formatBits_2 x w hT c3 (by omega)
        rwa [show x / 16 = x / 16 % 16 by omega] at this
      · rw [if_neg c1, if_neg c2, if_neg c3]
        have := formatBits_1 x w hT h0 (by omega)
        rwa [show hxU x = hxU (x % 16) by rw [show x % 16 = x by omega]] at this

theorem formatUint_in (x : Int) (w : World) (hT : Tab16 w) (h0 : 0 ≤ x) (h1 : x < 65536) :
    Calls Tryz.prog 63 #[.int .u64 x, .int .i64 16] w fun e w' => e = .returned (.string (bs (hexU x))) ∧ Below w.heap.size w w' := by
  have HF := Lib.hid (formatBits_any x w hT h0 h1)
  go_enter Tryz.func63, Tryz.ntmps63
  go_wp2_with fail
  refine HF.out.mono ?_
  rintro e w1 ⟨rfl, hb1⟩
  go_wp2
  go_ret
  exact ⟨rfl, hb1⟩
theorem formatUint_any (x : Int) (w : World) (hT : Laid w) (h0 : 0 ≤ x) (h1 : x < 65536) :
    Calls Tryz.prog 41 #[.int .u64 x, .int .i64 16] w fun e w' => e = .returned (.string (bs (hexU x))) ∧ Below w.heap.size w w' := by
  have HF := Lib.hid (formatUint_in x w hT.t16 h0 h1)
  go_enter Tryz.func41, Tryz.ntmps41
  go_wp2_with fail
  refine HF.out.mono ?_
  rintro e w1 ⟨rfl, hb1⟩
  go_wp2
  go_ret
  exact ⟨rfl, hb1⟩
end Go.Proofs.YtkploaapcpjkbaaGreatDoor
