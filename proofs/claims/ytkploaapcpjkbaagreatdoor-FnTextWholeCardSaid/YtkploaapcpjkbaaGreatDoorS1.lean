/- Contracts: Add64, Sub64; the steps of a number of 128 bits; the bytes of an address, and the number that bytes are. -/
import Derived.Test.YtkploaapcpjkbaaGreatDoorB1
import Derived.Shelf.Spec.BitsCarry
namespace Go.Proofs.YtkploaapcpjkbaaGreatDoor
open Go Go.RowKit Go.Sort
set_option linter.unusedVariables false
set_option linter.unusedSimpArgs false
attribute [local go_sem] cell_gr

set_option maxHeartbeats 400000 in
theorem number_any (f : Nat → Int) (hB : Bytes f) (b off n cap : Nat) (w : World) (hn : n ≤ 8) (hcap : n ≤ cap) (hc : ∀ i, i < n → w.cell? ⟨b, off + i, none⟩ = some (.int .u8 (f i))) :
    Calls Tryz.prog 39 #[.slice (some ⟨b, off, none⟩) n cap] w fun e w' => e = .returned (.int .u64 (num f n)) ∧ w' = w := by
  have HN : Hid (num f 0 = 0) := Lib.hid rfl
  have HC := Lib.hid hc
  clear hc
  go_enter Tryz.func39, Tryz.ntmps39
  go_wp2
  go_loop [3, 8] (fun v i => ∃ k : Nat, k ≤ n ∧ i = .int .i64 k ∧ v = .int .u64 (num f k)) (fun _ i => n - (intOf i).toNat)
  case atStart => exact ⟨0, by omega, rfl, by rw [HN.out]⟩
  case round =>
    obtain ⟨k, hk, rfl, rfl⟩ := hrel
    by_cases hlt : k < n
    · have hck := HC.out k hlt
      have hn := num_bd f hB k
      have hp := pow256_le k (by omega)
      have hn2 : num f k < 72057594037927936 := by omega
      have hn1 := hn.1
      have hfk := hB k
      have HR : Hid (bits .or .u64 (num f k * 256) (f k) = num f (k + 1)) := Lib.hid (or_round _ _ hn1 hn2 hfk)
      clear hn hp HC HN
      go_wp2
      go_round
      case rel => exact ⟨k + 1, by omega, by go_num, by rw [← HR.out]⟩
      case measure => simp [intOf]; omega
    · obtain rfl : k = n := by omega
      go_wp2
      go_ret
      exact ⟨rfl, rfl⟩
end Go.Proofs.YtkploaapcpjkbaaGreatDoor
