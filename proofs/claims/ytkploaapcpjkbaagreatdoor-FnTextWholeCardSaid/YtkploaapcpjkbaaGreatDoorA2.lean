/- Contracts: put, beUint64, AddrFrom16, given. -/
import Derived.Test.YtkploaapcpjkbaaGreatDoorA1
import Derived.Test.YtkploaapcpjkbaaGreatDoorP
namespace Go.Proofs.YtkploaapcpjkbaaGreatDoor
open Go Go.RowKit Go.Sort
set_option linter.unusedVariables false
set_option linter.unusedSimpArgs false
attribute [local go_sem] cell_gr

set_option maxHeartbeats 400000 in
theorem beUint64_any (f : Nat → Int) (hB : Bytes f) (b off cap : Nat) (w : World) (hcap : 8 ≤ cap) (ho : off ≤ 8) (hc : ∀ i, i < 8 → w.cell? ⟨b, off + i, none⟩ = some (.int .u8 (f i))) :
    Calls Tryz.prog 50 #[.slice (some ⟨b, off, none⟩) 8 cap] w fun e w' => e = .returned (.int .u64 (num f 8)) ∧ w' = w := by
  have h7 := hc 7 (by omega)
  have HN : Hid (num f 0 = 0) := Lib.hid rfl
  go_enter Tryz.func50, Tryz.ntmps50
  go_wp2
  go_loop [3, 4] (fun v i => ∃ k : Nat, k ≤ 8 ∧ i = .int .i64 k ∧ v = .int .u64 (num f k)) (fun _ i => 8 - (intOf i).toNat)
  case atStart => exact ⟨0, by omega, rfl, by rw [HN.out]⟩
  case round =>
    obtain ⟨k, hk, rfl, rfl⟩ := hrel
    by_cases hlt : k < 8
    · have hck := hc k hlt
      have hn := num_bd f hB k
      have hp := pow256_le k (by omega)
      have hn2 : num f k < 72057594037927936 := by omega
      have hn1 := hn.1
      have hfk := hB k
      have HR : Hid (bits .or .u64 (num f k * 256) (f k) = num f (k + 1)) := Lib.hid (or_round _ _ hn1 hn2 hfk)
      clear hn hp hc HN
      go_wp2
      go_round
      case rel => exact ⟨k + 1, by omega, by go_num, by rw [← HR.out]⟩
      case measure => simp [intOf]; omega
    · obtain rfl : k = 8 := by omega
      go_wp2
      go_ret
      exact ⟨rfl, rfl⟩
theorem row16 (f : Nat → Int) (i : Nat) (hi : i < 16) : (#[.int .u8 (f 0), .int .u8 (f 1), .int .u8 (f 2), .int .u8 (f 3), .int .u8 (f 4), .int .u8 (f 5), .int .u8 (f 6), .int .u8 (f 7), .int .u8 (f 8), .int .u8 (f 9), .int .u8 (f 10), .int .u8 (f 11), .int .u8 (f 12), .int .u8 (f 13), .int .u8 (f 14), .int .u8 (f 15)] : Array Value)[i]? = some (.int .u8 (f i)) :=
  match i, hi with | 0, _ => rfl | 1, _ => rfl | 2, _ => rfl | 3, _ => rfl | 4, _ => rfl | 5, _ => rfl | 6, _ => rfl | 7, _ => rfl | 8, _ => rfl | 9, _ => rfl | 10, _ => rfl | 11, _ => rfl | 12, _ => rfl | 13, _ => rfl | 14, _ => rfl | 15, _ => rfl | n + 16, h => absurd h (by omega)

set_option maxHeartbeats 800000 in
theorem addrFrom16_any (f : Nat → Int) (hB : Bytes f) (w : World) :
    Calls Tryz.prog 28 #[.agg #[.int .u8 (f 0), .int .u8 (f 1), .int .u8 (f 2), .int .u8 (f 3), .int .u8 (f 4), .int .u8 (f 5), .int .u8 (f 6), .int .u8 (f 7), .int .u8 (f 8), .int .u8 (f 9), .int .u8 (f 10), .int .u8 (f 11), .int .u8 (f 12), .int .u8 (f 13), .int .u8 (f 14), .int .u8 (f 15)]] w fun e w' => e = .returned (.agg #[.int .u64 (num f 8), .int .u64 (num (fun i => f (8 + i)) 8), .bool true, .bool true, .string ⟨#[]⟩]) ∧ Below w.heap.size w w' := by
  go_enter Tryz.func28, Tryz.ntmps28
  go_wp2
  have HR := Lib.hid (fun (X : Obj) d os i (hi : i < 16) => (cell_gr ((w.alloc (.cells #[.int .u8 (f 0), .int .u8 (f 1), .int .u8 (f 2), .int .u8 (f 3), .int .u8 (f 4), .int .u8 (f 5), .int .u8 (f 6), .int .u8 (f 7), .int .u8 (f 8), .int .u8 (f 9), .int .u8 (f 10), .int .u8 (f 11), .int .u8 (f 12), .int .u8 (f 13), .int .u8 (f 14), .int .u8 (f 15)] 62)).alloc X) d os w.heap.size i (by simp only [World.size_alloc]; omega)).trans (by simpa [go_sem] using row16 f i hi))
  have HB8 : Bytes (fun i => f (8 + i)) := fun i => hB (8 + i)
  refine region_tail 7 (by kernel_rfl) (by kernel_rfl) ?_
  simp only [List.take_succ_cons, List.take_zero, List.drop_succ_cons, List.drop_zero]
  repeat quiet_step (fail)
  quiet_step ((with_reducible refine same_of (beUint64_any f hB _ 0 _ _ (by omega) (by omega) ?_); intro i hi; rw [Nat.zero_add]; exact HR.out _ _ _ i (by omega)))
  repeat quiet_step (fail)
  quiet_step ((with_reducible refine same_of (beUint64_any (fun i => f (8 + i)) HB8 _ 8 _ _ (by omega) (by omega) ?_); intro i hi; exact HR.out _ _ _ (8 + i) (by omega)))
  repeat quiet_step (fail)
  quiet_step (with_reducible exact Calls.regrown_of (z6noz_any _))
  repeat quiet_step (fail)
  refine wpQuiet_nil ?_
  intro w1 hb1
  obtain ⟨hc1, hf1⟩ := rules hb1
  have hs1 := hb1.size
  try simp only [World.size_alloc, World.size_setCell, World.size_drew] at hs1
  go_wp2
  refine bodyPost_ret (v := .agg #[.int .u64 (num f 8), .int .u64 (num (fun i => f (8 + i)) 8), .bool true, .bool true, .string ⟨#[]⟩]) ?_ rfl ⟨rfl, ?_⟩
  · simp [results, Tryz.results28, go_sem, hc1]
  repeat (first | with_reducible exact Below.refl _ _ | with_reducible refine Below.setCell ?_ (by first | omega | (simp only [World.size_alloc, World.size_setCell, World.size_drew]; omega)) _ | with_reducible refine Below.alloc ?_ (by first | omega | (simp only [World.size_alloc, World.size_setCell, World.size_drew]; omega)) _ | with_reducible refine Below.drew ?_ | with_reducible refine Below.trans ?_ (hb1.mono (by first | omega | (simp only [World.size_alloc, World.size_setCell, World.size_drew]; omega))))
end Go.Proofs.YtkploaapcpjkbaaGreatDoor
