/- Contract: Prefix.Masked. -/
import Derived.Test.YtkploaapcpjkbaaDoorO7
import Derived.Test.YtkploaapcpjkbaaDoorV3
namespace Go.Proofs.YtkploaapcpjkbaaDoor
open Go Go.RowKit Go.Sort
set_option linter.unusedVariables false
set_option linter.unusedSimpArgs false
attribute [local go_sem] cell_gr quietR NoPanic

theorem Calls.rel_of {P : Program} {f : FuncId} {args : Array Value} {W : World} {v : Value} (h : Calls P f args W fun e w' => e = .returned v ∧ Below W.heap.size W w') :
    Calls P f args W fun e w'' => e = .returned v ∧ ∃ q : Regrown, w'' = grow (redrawn W q.d) q.os := h.mono fun _ _ h => ⟨h.1, regrown_of_below h.2⟩
theorem cell_at {w : World} {b : Nat} {cs : Array Value} {t : TypeId} (h : w.heap[b]? = some (.cells cs t)) (i : Nat) (v : Value) (hv : cs[i]? = some v) : w.cell? ⟨b, i, none⟩ = some v := by
  simp [World.cell?, h, hv]
theorem frozen_at {w : World} {b : Nat} {cs : Array Value} {t : TypeId} (h : w.heap[b]? = some (.cells cs t)) (i : Nat) : w.frozen? ⟨b, i, none⟩ = false := by
  simp [World.frozen?, h]

set_option maxHeartbeats 1600000 in
theorem masked_of (z : Bool) (hi lo n hx lx : Int) (HB : Ret 35 #[.agg #[.int .u64 (hi), .int .u64 (lo), .bool true, .bool z, .string ⟨#[]⟩, .int .u8 (n + 1)]] (.int .i64 n)) (HP : Ret 49 #[.agg #[.int .u64 (hi), .int .u64 (lo), .bool true, .bool z, .string ⟨#[]⟩], .int .i64 n] (.tuple #[.agg #[.int .u64 (hx), .int .u64 (lx), .bool true, .bool z, .string ⟨#[]⟩, .int .u8 (n + 1)], .nilIface])) :
    Ret 32 #[.agg #[.int .u64 (hi), .int .u64 (lo), .bool true, .bool z, .string ⟨#[]⟩, .int .u8 (n + 1)]] (.agg #[.int .u64 (hx), .int .u64 (lx), .bool true, .bool z, .string ⟨#[]⟩, .int .u8 (n + 1)]) := by
  intro w
  go_enter Tryd.func32, Tryd.ntmps32
  go_wp2
  refine region_alloc 6 _ _ _ _ _ (.cells #[.int .u64 0, .int .u64 0, .bool false, .bool false, .string ⟨#[]⟩, .int .u8 0] 50) (by kernel_rfl) (by kernel_rfl) rfl rfl rfl rfl (fun _ => rfl) (fun _ _ => by simp [go_sem]) rfl rfl ?_
  simp only [List.take_succ_cons, List.take_zero]
  repeat
    (refine wpR_step (fun K hK => ?_)
     go_simp
     first
       | (refine hK _ ?_; clear hK K)
       | (apply Exists.intro
          refine ⟨fun _ => ?_, hK _ ?_⟩
          (fail)
          clear hK K))
  (refine wpR_step (fun K hK => ?_)
   go_simp
   first
     | (refine hK _ ?_; clear hK K)
     | (apply Exists.intro
        refine ⟨fun _ => ?_, hK _ ?_⟩
        (with_reducible exact Calls.rel_of (HB.at _))
        clear hK K))
  repeat
    (refine wpR_step (fun K hK => ?_)
     go_simp
     first
       | (refine hK _ ?_; clear hK K)
       | (apply Exists.intro
          refine ⟨fun _ => ?_, hK _ ?_⟩
          (fail)
          clear hK K))
  (refine wpR_step (fun K hK => ?_)
   go_simp
   first
     | (refine hK _ ?_; clear hK K)
     | (apply Exists.intro
        refine ⟨fun _ => ?_, hK _ ?_⟩
        (with_reducible exact Calls.rel_of (HP.at _))
        clear hK K))
  repeat
    (refine wpR_step (fun K hK => ?_)
     go_simp
     first
       | (refine hK _ ?_; clear hK K)
       | (apply Exists.intro
          refine ⟨fun _ => ?_, hK _ ?_⟩
          (fail)
          clear hK K))
  refine wpR_nil ⟨.agg #[.int .u64 (hx), .int .u64 (lx), .bool true, .bool z, .string ⟨#[]⟩, .int .u8 (n + 1)], .inl ⟨by kernel_rfl, fun _ => by kernel_rfl⟩, .nilIface, .inl ⟨by kernel_rfl, fun _ => by kernel_rfl⟩, ?_⟩
  intro b1 w1 hb1 hβ1 hob1
  obtain ⟨hc1, hf1⟩ := rules hb1
  have hs1 := hb1.size
  simp only [World.size_alloc, World.size_setCell, World.size_drew] at hs1 hβ1
  simp only [Act.put, List.setIfInBounds_toArray, List.set_cons_zero, List.set_cons_succ]
  have p0 := cell_at hob1 0 _ rfl
  have p1 := cell_at hob1 1 _ rfl
  have p2 := cell_at hob1 2 _ rfl
  have p3 := cell_at hob1 3 _ rfl
  have p4 := cell_at hob1 4 _ rfl
  have p5 := cell_at hob1 5 _ rfl
  have f0 := frozen_at hob1 0
  have f1 := frozen_at hob1 1
  have f2 := frozen_at hob1 2
  have f3 := frozen_at hob1 3
  have f4 := frozen_at hob1 4
  have f5 := frozen_at hob1 5
  have qr1_0 : w1.cell? ⟨w.heap.size + 1, 0, none⟩ = some (.int .u64 0) := by rw [hc1 _ _ (by first | omega | (simp only [World.size_alloc, World.size_setCell, World.size_drew]; omega))]; first | with_reducible assumption | (simp [go_sem]; done) | (simp [go_sem, *]; done)
  have qr1_1 : w1.cell? ⟨w.heap.size + 1, 1, none⟩ = some (.int .u64 0) := by rw [hc1 _ _ (by first | omega | (simp only [World.size_alloc, World.size_setCell, World.size_drew]; omega))]; first | with_reducible assumption | (simp [go_sem]; done) | (simp [go_sem, *]; done)
  have qr1_2 : w1.cell? ⟨w.heap.size + 1, 2, none⟩ = some (.bool false) := by rw [hc1 _ _ (by first | omega | (simp only [World.size_alloc, World.size_setCell, World.size_drew]; omega))]; first | with_reducible assumption | (simp [go_sem]; done) | (simp [go_sem, *]; done)
  have qr1_3 : w1.cell? ⟨w.heap.size + 1, 3, none⟩ = some (.bool false) := by rw [hc1 _ _ (by first | omega | (simp only [World.size_alloc, World.size_setCell, World.size_drew]; omega))]; first | with_reducible assumption | (simp [go_sem]; done) | (simp [go_sem, *]; done)
  have qr1_4 : w1.cell? ⟨w.heap.size + 1, 4, none⟩ = some (.string ⟨#[]⟩) := by rw [hc1 _ _ (by first | omega | (simp only [World.size_alloc, World.size_setCell, World.size_drew]; omega))]; first | with_reducible assumption | (simp [go_sem]; done) | (simp [go_sem, *]; done)
  have qr1_5 : w1.cell? ⟨w.heap.size + 1, 5, none⟩ = some (.int .u8 0) := by rw [hc1 _ _ (by first | omega | (simp only [World.size_alloc, World.size_setCell, World.size_drew]; omega))]; first | with_reducible assumption | (simp [go_sem]; done) | (simp [go_sem, *]; done)
  have n1 : w.heap.size ≠ b1 := by omega
  have n2 : w.heap.size + 1 ≠ b1 := by omega
  have n3 : b1 ≠ w.heap.size := by omega
  have n4 : b1 ≠ w.heap.size + 1 := by omega
  have n5 : w.heap.size ≤ b1 := by omega
  clear hob1
  go_wp2
  refine NoPanic.normal ?_
  go_wp2
  refine bodyPost_ret (v := .agg #[.int .u64 (hx), .int .u64 (lx), .bool true, .bool z, .string ⟨#[]⟩, .int .u8 (n + 1)]) ?_ rfl ⟨rfl, ?_⟩
  · simp [results, Tryd.results32, go_sem, qr1_0, qr1_1, qr1_2, qr1_3, qr1_4, qr1_5]
  repeat (first | with_reducible exact Below.refl _ _ | with_reducible refine Below.setCell ?_ (by first | omega | (simp only [World.size_alloc, World.size_setCell, World.size_drew]; omega)) _ | with_reducible refine Below.alloc ?_ (by first | omega | (simp only [World.size_alloc, World.size_setCell, World.size_drew]; omega)) _ | with_reducible refine Below.drew ?_ | with_reducible refine Below.trans ?_ (hb1.mono (by first | omega | (simp only [World.size_alloc, World.size_setCell, World.size_drew]; omega))))
end Go.Proofs.YtkploaapcpjkbaaDoor
