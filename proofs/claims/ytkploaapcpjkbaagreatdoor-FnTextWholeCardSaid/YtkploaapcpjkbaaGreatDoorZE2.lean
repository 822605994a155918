/- Contract: parseIPv6 at a text that begins with two colons. -/
import Derived.Test.YtkploaapcpjkbaaGreatDoorZF
namespace Go.Proofs.YtkploaapcpjkbaaGreatDoor
open Go Go.RowKit Go.Sort
set_option linter.unusedVariables false
set_option linter.unusedSimpArgs false
attribute [local go_sem] cell_gr

set_option maxRecDepth 100000 in
set_option maxHeartbeats 16000000 in
theorem parse6_b (L : List UInt8) (S : ByteArray) (HS : Hid (S = bs L)) (hS : S.size ≤ 1000) (HN : Hid (∀ i (h : i < L.length), L[i].toNat ≠ 37)) (r0 : Rest) (hL : Hid (L = 58 :: 58 :: r0.text)) (h0 : Hid (r0.Ok true 0)) (F : List Int) (E : Option Nat) (hF : Hid (F = r0.bytes)) (hE : Hid (E = some 0)) (h16 : F.length ≤ 16) (hend : if F.length < 16 then ∃ p, E = some p ∧ p ≤ F.length else E = none) (HBY : Bytes (spread F E)) (w : World) :
    Calls Tryz.prog 36 #[.string S] w fun e w' => e = .returned (.tuple #[.agg #[.int .u64 (num (spread F E) 8), .int .u64 (num (fun i => spread F E (8 + i)) 8), .bool true, .bool true, .string ⟨#[]⟩], .nilIface]) ∧ Below w.heap.size w w' := by
  obtain ⟨c0, t0, ht0, hx0⟩ := Rest.text_head h0.out
  have h2 : 2 ≤ S.size := by rw [HS.out, bs_size, hL.out, ht0]; simp only [List.length_cons]; omega
  have hc0 : ∀ h, ((S[0]'h).toNat : Int) = 58 := fun h => by
    have e := HS.out
    subst e
    rw [bs_at L 0 h (by rw [hL.out]; simp)]
    have : L[0]'(by rw [hL.out]; simp) = 58 := by simp only [hL.out]; rfl
    rw [this]; rfl
  have hc1 : ∀ h, ((S[1]'h).toNat : Int) = 58 := fun h => by
    have e := HS.out
    subst e
    rw [bs_at L 1 h (by rw [hL.out]; simp)]
    have : L[1]'(by rw [hL.out]; simp) = 58 := by simp only [hL.out]; rfl
    rw [this]; rfl
  obtain ⟨n0, hn0⟩ : ∃ n0 : Nat, n0 = t0.length + 1 := ⟨_, rfl⟩
  have hrs : (bs r0.text).size = n0 := by rw [bs_size, ht0, hn0]; rfl
  have hn00 : ((n0 : Int) == 0) = false := by rw [beq_eq_false_iff_ne]; omega
  have sl0 : ∀ W, (Instr.sliceAt 9 (.string S) (some (.int .i64 2)) none none).run Tryz.prog W = .ok (.string (bs r0.text)) W := fun W => by
    have h := strFrom [58, 58] r0.text 2 rfl (by have := hS; rw [HS.out, bs_size, hL.out] at this; simp at this ⊢; omega) W
    rw [HS.out, hL.out]; exact h
  have h2i : decide ((2 : Int) ≤ (S.size : Int)) = true := decide_eq_true (by omega)
  clear ht0 hx0 hn0
  go_enter Tryz.func36, Tryz.ntmps36
  go_wp2_with fail
  refine (indexByte_no L S HS hS HN _).mono ?_
  rintro e w1 ⟨rfl, hw1⟩
  subst hw1
  go_upto_block 0 with fail
  clear sl0 hrs hc1 hc0 hn00
  generalize hWW : (w.alloc (.cells #[.int .u64 0, .int .u64 0, .bool false, .bool false, .string ⟨#[]⟩] 36)).alloc (.cells #[.int .u8 0, .int .u8 0, .int .u8 0, .int .u8 0, .int .u8 0, .int .u8 0, .int .u8 0, .int .u8 0, .int .u8 0, .int .u8 0, .int .u8 0, .int .u8 0, .int .u8 0, .int .u8 0, .int .u8 0, .int .u8 0] 62) = W0
  replace hWW := hWW.symm
  have hW0 : ∀ j, j < 16 → W0.cell? ⟨w.heap.size + 1, j, none⟩ = some (.int .u8 0) := fun j hj => by
    rw [hWW]
    match j, hj with
    | 0, _ | 1, _ | 2, _ | 3, _ | 4, _ | 5, _ | 6, _ | 7, _ | 8, _ | 9, _ | 10, _ | 11, _ | 12, _ | 13, _ | 14, _ | 15, _ => first | (simp [go_sem]; done) | (simp [go_sem]; rfl)
    | n + 16, h => exact absurd h (by omega)
  have hWf : ∀ j, W0.frozen? ⟨w.heap.size + 1, j, none⟩ = false := fun j => by rw [hWW]; simp [go_sem]
  have hb0 : W0.cell? ⟨w.heap.size, 0, none⟩ = some (.int .u64 0) := by rw [hWW]; first | (simp [go_sem]; done) | (simp [go_sem]; rfl)
  have hb1 : W0.cell? ⟨w.heap.size, 1, none⟩ = some (.int .u64 0) := by rw [hWW]; first | (simp [go_sem]; done) | (simp [go_sem]; rfl)
  have hb2 : W0.cell? ⟨w.heap.size, 2, none⟩ = some (.bool false) := by rw [hWW]; first | (simp [go_sem]; done) | (simp [go_sem]; rfl)
  have hb3 : W0.cell? ⟨w.heap.size, 3, none⟩ = some (.bool false) := by rw [hWW]; first | (simp [go_sem]; done) | (simp [go_sem]; rfl)
  have hb4 : W0.cell? ⟨w.heap.size, 4, none⟩ = some (.string ⟨#[]⟩) := by rw [hWW]; first | (simp [go_sem]; done) | (simp [go_sem]; rfl)
  have hWb : Below w.heap.size w W0 := by rw [hWW]; exact ((Below.refl _ _).alloc (Nat.le_refl _) _).alloc (by simp) _
  have hWs : W0.heap.size = w.heap.size + 1 + 1 := by rw [hWW]; simp
  have HW0 := Lib.hid hW0
  have HWF := Lib.hid hWf
  have HWB := Lib.hid hWb
  have HFR : Hid (∀ o, W0.frozen? ⟨w.heap.size, o, none⟩ = false) := Lib.hid (fun o => by rw [hWW]; simp [go_sem])
  have HB5 := Lib.hid (And.intro hb0 (And.intro hb1 (And.intro hb2 (And.intro hb3 hb4))))
  clear hWW hW0 hWf hWb hb0 hb1 hb2 hb3 hb4
  go_cut [4, 6, 8, 9, 10, 11, 12, 13] from 55 to 232 (fun s4 s6 s8 _ _ _ _ _ wx => s4 = .string (bs []) ∧ s6 = .int .i64 F.length ∧ s8 = .int .i64 (ev E) ∧ Q6 (w.heap.size + 1) W0 F wx)
  case first =>
    go_wp2_with fail
    go_loopw [4, 6, 8] (fun s4 s6 s8 wr => ∃ (r : Rest) (i : Nat) (e : Option Nat) (fs : List Int), P6 L (w.heap.size + 1) W0 F E r i e fs wr ∧ s4 = .string (bs r.text) ∧ s6 = .int .i64 i ∧ s8 = .int .i64 (ev e)) (fun _ s6 _ _ => 16 - (intOf s6).toNat)
    case atStart => exact ⟨r0, 0, some 0, [], ⟨h0.out, rfl, by rw [hF.out]; rfl, h16, hE.out, ⟨[58, 58], by rw [hL.out]; rfl⟩, fun p hp => (by cases hp; exact Nat.le_refl _), fun j hj => HW0.out j hj, fun _ => rfl, Below.refl _ _⟩, rfl, rfl, rfl⟩
    case round =>
      obtain ⟨r, i, e, fs, P, rfl, rfl, rfl⟩ := hrel
      have HP := Lib.hid P
      have hi2 : i + 2 ≤ 16 := by
        have h1 := Rest.bytes_two P.ok
        have h2 := P.most
        have h3 := P.all
        have h4 := P.len
        rw [h3, List.length_append] at h2; omega
      obtain ⟨x, y, hxy, hitem, hcase⟩ := Rest.split2 P.ok
      have HI := Lib.hid hitem
      have HXY := Lib.hid hxy
      have HCASE := Lib.hid hcase
      have hx1 := hitem.l1
      have hx4 := hitem.l4
      have hsz : (bs r.text).size = x.length + y.length := by rw [bs_size, hxy, List.length_append]
      have hszs : (bs r.text).size ≤ 1000 := by
        obtain ⟨pr, hpr⟩ := P.suf
        have := HS.out
        rw [this, bs_size, hpr, List.length_append] at hS
        rw [bs_size]; omega
      have d0 : decide ((i : Int) < 16) = true := decide_eq_true (by omega)
      clear P hitem hxy hcase
      go_wp2_with fail
      go_loop [9, 10] (fun off acc => ∃ j : Nat, j ≤ x.length ∧ off = .int .i64 j ∧ acc = .int .u32 (hv (x.take j))) (fun off _ => x.length - (intOf off).toNat)
      case atStart => exact ⟨0, by omega, rfl, rfl⟩
      case round =>
        obtain ⟨j, hj, rfl, rfl⟩ := hrel
        by_cases hjx : j < x.length
        · have hj3 : j ≤ 3 := by omega
          have hjs : j < (bs r.text).size := by omega
          obtain ⟨c, hc⟩ : ∃ c : Int, c = (x[j].toNat : Int) := ⟨_, rfl⟩
          have hcj : ∀ h, (((bs r.text)[j]'h).toNat : Int) = c := fun h => by
            have hl : j < r.text.length := by rw [← bs_size]; exact h
            rw [bs_at r.text j h hl, hc]
            have : r.text[j]'hl = x[j] := by simp only [HXY.out]; exact List.getElem_append_left hjx
            rw [this]
          have hm := hv_take_lt HI.out j hj3
          have HT := Lib.hid (hv_take x j hjx)
          have hxj := HI.out.hx x[j] (List.getElem_mem hjx)
          have hlt2 : hv (x.take (j + 1)) < 65536 := by
            have h1 := hv_lt (x.take (j + 1)) (fun c hc => HI.out.hx c (List.mem_of_mem_take hc))
            have h3 : (x.take (j + 1)).length ≤ 4 := by rw [List.length_take]; omega
            have h2 : 16 ^ (x.take (j + 1)).length ≤ 16 ^ 4 := Nat.pow_le_pow_right (by decide) h3
            omega
          obtain ⟨m, hmm⟩ : ∃ m : Nat, m = hv (x.take j) := ⟨_, rfl⟩
          rw [← hmm] at hm HT ⊢
          have HMM := Lib.hid hmm
          rw [HT.out] at hlt2
          rcases hxj with hr | hr | hr
          · as_aux_lemma =>
            have hdv : (dv x[j] : Int) = c - 48 := by unfold dv; rw [if_pos hr.2, hc]; omega
            have HDV := Lib.hid hdv
            have c1 : 48 ≤ c := by omega
            have c2 : c ≤ 57 := by omega
            have hlt3 : (m : Int) * 16 + (c - 48) < 65536 := by omega
            clear hmm hc hdv hlt2 hr
            go_wp2_with fail
            go_round
            case rel => exact ⟨j + 1, by omega, by go_num, by rw [HT.out]; have := HDV.out; congr 1; push_cast; omega⟩
            case measure => simp [intOf]; omega
          · as_aux_lemma =>
            have hdv : (dv x[j] : Int) = c - 97 + 10 := by unfold dv; rw [if_neg (by omega), if_pos hr.1, hc]; omega
            have HDV := Lib.hid hdv
            have c1 : 97 ≤ c := by omega
            have c2 : c ≤ 102 := by omega
            have hlt3 : (m : Int) * 16 + (c - 97 + 10) < 65536 := by omega
            clear hmm hc hdv hlt2 hr
            go_wp2_with fail
            go_round
            case rel => exact ⟨j + 1, by omega, by go_num, by rw [HT.out]; have := HDV.out; congr 1; push_cast; omega⟩
            case measure => simp [intOf]; omega
          · as_aux_lemma =>
            have hdv : (dv x[j] : Int) = c - 65 + 10 := by unfold dv; rw [if_neg (by omega), if_neg (by omega), hc]; omega
            have HDV := Lib.hid hdv
            have c1 : 65 ≤ c := by omega
            have c2 : c ≤ 70 := by omega
            have hlt3 : (m : Int) * 16 + (c - 65 + 10) < 65536 := by omega
            clear hmm hc hdv hlt2 hr
            go_wp2_with fail
            go_round
            case rel => exact ⟨j + 1, by omega, by go_num, by rw [HT.out]; have := HDV.out; congr 1; push_cast; omega⟩
            case measure => simp [intOf]; omega
        · obtain rfl : j = x.length := by omega
          have HTK : Hid (hv (x.take x.length) = hv x) := Lib.hid (by rw [List.take_length])
          rw [HTK.out]
          have hvx := hv_bd HI.out
          have hcl := hi2
          have hci := HP.out.cells i (by omega)
          have hci1 := HP.out.cells (i + 1) (by omega)
          have hfi := (HP.out.free i).trans (HWF.out i)
          have hfi1 := (HP.out.free (i + 1)).trans (HWF.out (i + 1))
          have w1 : IntKind.u8.wrap ((hv x : Int) / 256) = (hv x : Int) / 256 := by rw [IntKind.wrap_u8]; omega
          have w2 : IntKind.u8.wrap (hv x : Int) = (hv x : Int) % 256 := IntKind.wrap_u8 _
          have hsl : ∀ W, (Instr.sliceAt 9 (.string (bs r.text)) (some (.int .i64 (x.length : Int))) none none).run Tryz.prog W = .ok (.string (bs y)) W := fun W => by
            rw [HXY.out]; exact strFrom x y _ rfl (by omega) W
          rcases HCASE.out with ⟨hy, hr⟩ | ⟨hy, hr⟩ | ⟨r', hy, hr⟩ | ⟨r', hy, hr⟩ | ⟨t, hy, hr⟩
          · as_aux_lemma =>
            -- the last group
            have HR := Lib.hid hr
            have HY := Lib.hid hy
            have hy0 : (bs y).size = 0 := by rw [hy]; rfl
            have hys : y.length = 0 := by rw [hy]; rfl
            clear hy hr
            go_wp2_with fail
            go_meet
            obtain ⟨q1, q2, q3⟩ := P6.one (by rw [← HR.out]; exact HP.out) hcl
            refine ⟨by rw [HY.out], by rw [q1]; push_cast; rfl, by rw [q2], q3⟩
          · as_aux_lemma =>
            have HR := Lib.hid hr
            have HY := Lib.hid hy
            have hx58 : ∀ h, (((bs r.text)[x.length]'h).toNat : Int) = 58 := fun h => by
              have hl : x.length < r.text.length := by rw [← bs_size]; exact h
              rw [bs_at r.text x.length h hl]
              have : r.text[x.length]'hl = 58 := by simp only [HXY.out, HY.out]; rw [List.getElem_append_right (Nat.le_refl _)]; simp
              rw [this]; rfl
            obtain ⟨z, hz⟩ : ∃ z : List UInt8, z = [58] := ⟨_, rfl⟩
            have hyz : y = 58 :: z := by rw [hy, hz]
            have hys : (bs y).size = z.length + 1 := by rw [bs_size, hyz]; rfl
            have hyl : y.length = z.length + 1 := by rw [hyz]; rfl
            have hy0 : ∀ h, (((bs y)[0]'h).toNat : Int) = 58 := fun h => by
              have hl : 0 < y.length := by omega
              rw [bs_at y 0 h hl]
              have : y[0]'hl = 58 := by simp only [hyz]; rfl
              rw [this]; rfl
            have sl1 : ∀ W, (Instr.sliceAt 9 (.string (bs y)) (some (.int .i64 1)) none none).run Tryz.prog W = .ok (.string (bs z)) W := fun W => by
              rw [hyz]; exact strFrom [58] z 1 rfl (by simp; omega) W
            have hzl : z.length = 1 := by rw [hz]; rfl
            have hzs : (bs z).size = 1 := by rw [bs_size, hzl]
            have hz0 : ∀ h, (((bs z)[0]'h).toNat : Int) = 58 := fun h => by
              have hl : 0 < z.length := by omega
              rw [bs_at z 0 h hl]
              have : z[0]'hl = 58 := by simp only [hz]; rfl
              rw [this]; rfl
            have sl2 : ∀ W, (Instr.sliceAt 9 (.string (bs z)) (some (.int .i64 1)) none none).run Tryz.prog W = .ok (.string (bs [])) W := fun W => by
              rw [hz]; exact strFrom [58] [] 1 rfl (by simp) W
            have h00 : (bs []).size = 0 := rfl
            have HQ := Lib.hid (P6.oneE (by rw [← HR.out]; exact HP.out) hcl)
            have hev : ev e = -1 := by rw [HQ.out.1]; rfl
            rw [hev]
            clear hy hr hz hyz hev
            go_wp2_with fail
            go_meet
            obtain ⟨q0, q1, q2, q3⟩ := HQ.out
            exact ⟨rfl, by rw [q1]; push_cast; rfl, by rw [q2]; simp [ev], q3⟩
          · as_aux_lemma =>
            have HR := Lib.hid hr
            have HY := Lib.hid hy
            have hx58 : ∀ h, (((bs r.text)[x.length]'h).toNat : Int) = 58 := fun h => by
              have hl : x.length < r.text.length := by rw [← bs_size]; exact h
              rw [bs_at r.text x.length h hl]
              have : r.text[x.length]'hl = 58 := by simp only [HXY.out, HY.out]; rw [List.getElem_append_right (Nat.le_refl _)]; simp
              rw [this]; rfl
            obtain ⟨z, hz⟩ : ∃ z : List UInt8, z = r'.text := ⟨_, rfl⟩
            have hyz : y = 58 :: z := by rw [hy, hz]
            have hys : (bs y).size = z.length + 1 := by rw [bs_size, hyz]; rfl
            have hyl : y.length = z.length + 1 := by rw [hyz]; rfl
            have hy0 : ∀ h, (((bs y)[0]'h).toNat : Int) = 58 := fun h => by
              have hl : 0 < y.length := by omega
              rw [bs_at y 0 h hl]
              have : y[0]'hl = 58 := by simp only [hyz]; rfl
              rw [this]; rfl
            have sl1 : ∀ W, (Instr.sliceAt 9 (.string (bs y)) (some (.int .i64 1)) none none).run Tryz.prog W = .ok (.string (bs z)) W := fun W => by
              rw [hyz]; exact strFrom [58] z 1 rfl (by simp; omega) W
            have HQ := Lib.hid (P6.next (by rw [← HR.out]; exact HP.out) hcl)
            obtain ⟨c0, t0, ht0, hx0⟩ := Rest.text_head HQ.out.ok
            have hzl : z.length = t0.length + 1 := by rw [hz, ht0]; rfl
            have hzs : (bs z).size = t0.length + 1 := by rw [bs_size, hzl]
            have hz0 : ∀ h, (((bs z)[0]'h).toNat : Int) = (c0.toNat : Int) := fun h => by
              have hl : 0 < z.length := by omega
              rw [bs_at z 0 h hl]
              have : z[0]'hl = c0 := by simp only [hz, ht0]; rfl
              rw [this]
            have hc58 : ((c0.toNat : Int) == 58) = false := by rw [beq_eq_false_iff_ne]; rcases hx0 with h | h | h <;> omega
            have HZ := Lib.hid hz
            clear hy hr hz hyz ht0 hx0
            go_wp2_with fail
            go_roundw
            case rel => exact ⟨r', i + 2, e, _, HQ.out, by rw [HZ.out], by go_num, rfl⟩
            case measure => simp [intOf]; omega
          · as_aux_lemma =>
            have HR := Lib.hid hr
            have HY := Lib.hid hy
            have hx58 : ∀ h, (((bs r.text)[x.length]'h).toNat : Int) = 58 := fun h => by
              have hl : x.length < r.text.length := by rw [← bs_size]; exact h
              rw [bs_at r.text x.length h hl]
              have : r.text[x.length]'hl = 58 := by simp only [HXY.out, HY.out]; rw [List.getElem_append_right (Nat.le_refl _)]; simp
              rw [this]; rfl
            obtain ⟨z, hz⟩ : ∃ z : List UInt8, z = 58 :: r'.text := ⟨_, rfl⟩
            have hyz : y = 58 :: z := by rw [hy, hz]
            have hys : (bs y).size = z.length + 1 := by rw [bs_size, hyz]; rfl
            have hyl : y.length = z.length + 1 := by rw [hyz]; rfl
            have hy0 : ∀ h, (((bs y)[0]'h).toNat : Int) = 58 := fun h => by
              have hl : 0 < y.length := by omega
              rw [bs_at y 0 h hl]
              have : y[0]'hl = 58 := by simp only [hyz]; rfl
              rw [this]; rfl
            have sl1 : ∀ W, (Instr.sliceAt 9 (.string (bs y)) (some (.int .i64 1)) none none).run Tryz.prog W = .ok (.string (bs z)) W := fun W => by
              rw [hyz]; exact strFrom [58] z 1 rfl (by simp; omega) W
            have HQ := Lib.hid (P6.gap (by rw [← HR.out]; exact HP.out) hcl)
            obtain ⟨c0, t0, ht0, hx0⟩ := Rest.text_head HQ.out.2.ok
            have hzl : z.length = t0.length + 1 + 1 := by rw [hz, ht0]; rfl
            have hzs : (bs z).size = t0.length + 1 + 1 := by rw [bs_size, hzl]
            have hz0 : ∀ h, (((bs z)[0]'h).toNat : Int) = 58 := fun h => by
              have hl : 0 < z.length := by omega
              rw [bs_at z 0 h hl]
              have : z[0]'hl = 58 := by simp only [hz]; rfl
              rw [this]; rfl
            have sl2 : ∀ W, (Instr.sliceAt 9 (.string (bs z)) (some (.int .i64 1)) none none).run Tryz.prog W = .ok (.string (bs r'.text)) W := fun W => by
              rw [hz]; exact strFrom [58] r'.text 1 rfl (by rw [ht0]; simp; omega) W
            have hrs : (bs r'.text).size = t0.length + 1 := by rw [bs_size, ht0]; rfl
            have hev : ev e = -1 := by rw [HQ.out.1]; rfl
            rw [hev]
            clear hy hr hz hyz ht0 hx0 hev
            go_wp2_with fail
            go_roundw
            case rel => exact ⟨r', i + 2, some (i + 2), _, HQ.out.2, rfl, by go_num, by simp [ev]⟩
            case measure => simp [intOf]; omega
          · as_aux_lemma =>
            have HR := Lib.hid hr
            have HY := Lib.hid hy
            have hx46 : ∀ h, (((bs r.text)[x.length]'h).toNat : Int) = 46 := fun h => by
              have hl : x.length < r.text.length := by rw [← bs_size]; exact h
              rw [bs_at r.text x.length h hl]
              have : r.text[x.length]'hl = 46 := by simp only [HXY.out, HY.out]; rw [List.getElem_append_right (Nat.le_refl _)]; simp
              rw [this]; rfl
            have hyl : 0 < y.length := by rw [hy]; simp
            have HQ := Lib.hid (P6.quad (by rw [← HR.out]; exact HP.out))
            have hi4 := HQ.out.1
            obtain ⟨pr, hpr⟩ := HP.out.suf
            have hS1 : S = bs (pr ++ r.text) := by rw [HS.out, hpr]
            have hSs : S.size = pr.length + (bs r.text).size := by rw [hS1, bs_size, bs_size, List.length_append]
            have hsA : ∀ W, (Instr.sliceAt 9 (.string S) (some (.int .i64 ((S.size : Int) - ((x.length : Int) + (y.length : Int))))) (some (.int .i64 (S.size : Int))) none).run Tryz.prog W = .ok (.string (bs r.text)) W := fun W => by
              have h1 := strSlice pr r.text ((S.size : Int) - ((x.length : Int) + (y.length : Int))) S.size (by omega) (by rw [bs_size] at hSs; omega) (by rw [bs_size] at hSs; omega) W
              rwa [← hS1] at h1
            have hsB := sl16 (w.heap.size + 1) i hi4
            have hsZ : (⟨#[]⟩ : ByteArray).size = 0 := rfl
            have HS1 := Lib.hid hS1
            have HPR := Lib.hid hpr
            have hthere : Hid (∀ k, k < 4 → ∃ v, wr.cell? ⟨w.heap.size + 1, i + k, none⟩ = some v) := Lib.hid fun k hk => ⟨_, HP.out.cells (i + k) (by omega)⟩
            have hfree : Hid (∀ k, k < 4 → wr.frozen? ⟨w.heap.size + 1, i + k, none⟩ = false) := Lib.hid fun k hk => (HP.out.free _).trans (HWF.out _)
            have hcap4 : 4 ≤ 16 - i := by omega
            have HSA := Lib.hid hsA
            have HSS := Lib.hid hSs
            clear hy hr hS1 hpr hsA w1 w2 hsl hSs
            rcases Option.eq_none_or_eq_some e with hse | ⟨p, hse⟩
            case inr => as_aux_lemma =>
              subst hse
              have hev : ev (some p) = (p : Int) := rfl
              rw [hev]
              have hp0 : decide ((p : Int) < 0) = false := decide_eq_false (by omega)
              clear hev
              go_wp2_with fail
              refine (fields_any r.text (bs r.text) (Lib.hid rfl) (w.heap.size + 1) i (16 - i) S _ _ wr hszs hcap4 HSA.out hthere.out hfree.out).mono ?_
              rintro e4 w4 he4
              rw [HXY.out, HY.out] at he4
              obtain ⟨rfl, HQ6⟩ := HQ.out.2.2 _ _ he4
              have HQH := Lib.hid HQ6
              clear HQ6 he4
              go_wp2_with fail
              go_meet
              obtain ⟨q1, q2, q3⟩ := HQH.out
              exact ⟨rfl, by rw [q1]; push_cast; rfl, by rw [q2]; rfl, q3⟩
            case inl => as_aux_lemma =>
              subst hse
              have hi12 : i = 12 := by rcases HQ.out.2.1 with h | h; · cases h
                                       · exact h
              subst hi12
              have h12 : (((12 : Nat) : Int) == 12) = true := by decide
              have hev : ev none = -1 := rfl
              rw [hev]
              clear hev
              go_wp2_with fail
              refine (fields_any r.text (bs r.text) (Lib.hid rfl) (w.heap.size + 1) 12 (16 - 12) S _ _ wr hszs hcap4 HSA.out hthere.out hfree.out).mono ?_
              rintro e4 w4 he4
              rw [HXY.out, HY.out] at he4
              obtain ⟨rfl, HQ6⟩ := HQ.out.2.2 _ _ he4
              have HQH := Lib.hid HQ6
              clear HQ6 he4
              go_wp2_with fail
              go_meet
              obtain ⟨q1, q2, q3⟩ := HQH.out
              exact ⟨rfl, by rw [q1]; push_cast; rfl, by rw [q2]; rfl, q3⟩
  case rest =>
    obtain ⟨rfl, rfl, rfl, hq⟩ := hcut
    have HQ := Lib.hid hq
    have h00 : (bs []).size = 0 := rfl
    have hwc : wc.heap.size = wc.heap.size := rfl
    clear hq
    by_cases hlt : F.length < 16
    · rw [if_pos hlt] at hend
      obtain ⟨p, rfl, hp⟩ := hend
      have hev : ev (some p) = (p : Int) := rfl
      rw [hev]
      have hli : decide ((F.length : Int) < 16) = true := decide_eq_true (by omega)
      have hp0 : decide ((p : Int) < 0) = false := decide_eq_false (by omega)
      obtain ⟨n, hn⟩ : ∃ n, n = 16 - F.length := ⟨_, rfl⟩
      have hn1 : (16 : Int) - (F.length : Int) = n := by omega
      have hn0 : 0 < n := by omega
      have hnF : n + F.length = 16 := by omega
      have HM0 := Lib.hid (M6.start HQ.out)
      rw [← hn] at HM0
      clear hn hev
      go_wp2_with fail
      go_loopw [15] (fun j wr => ∃ k : Nat, p ≤ k ∧ k ≤ F.length ∧ j = .int .i64 ((k : Int) - 1) ∧ M6 (w.heap.size + 1) W0 F n k wr) (fun j _ => (intOf j + 1).toNat)
      case atStart => exact ⟨F.length, hp, Nat.le_refl _, rfl, HM0.out⟩
      case round =>
        obtain ⟨k, hk1, hk2, rfl, hm⟩ := hrel
        have HM := Lib.hid hm
        clear hm
        by_cases hkp : p < k
        · obtain ⟨k', rfl⟩ : ∃ k', k = k' + 1 := ⟨k - 1, by omega⟩
          have ek : (((k' + 1 : Nat) : Int)) - 1 = (k' : Int) := by omega
          rw [ek]
          have d1 : decide ((p : Int) ≤ (k' : Int)) = true := decide_eq_true (by omega)
          have hcA := HM.out.cells k' (by omega)
          rw [if_neg (by omega)] at hcA
          have hcB := HM.out.cells (k' + n) (by omega)
          have hfB := (HM.out.free (k' + n)).trans (HWF.out _)
          have hk16 : k' + n < 16 := by omega
          go_wp2_with fail
          go_roundw
          case rel => exact ⟨k', by omega, by omega, by first | rfl | go_num, HM.out.step (by omega)⟩
          case measure => first | (simp [intOf]; done) | (simp [intOf]; omega)
        · obtain rfl : k = p := by omega
          have d1 : decide ((k : Int) ≤ (k : Int) - 1) = false := decide_eq_false (by omega)
          have hsl := slPN (w.heap.size + 1) k n (by omega) hn0
          have hcl : ∀ ty, (Builtin.clear_ #[60] ty #[.slice (some ⟨w.heap.size + 1, k, none⟩) n (16 - k)]).run Tryz.prog wr = .ok (.tuple #[]) (wr.setCells (w.heap.size + 1) k (List.replicate n (.int .u8 0))) := fun ty =>
            Lib.run_clear_slice wr 60 5 ty (.int .u8 0) Tryz.underlying60 zero5 rfl rfl (w.heap.size + 1) k n (16 - k) hn0 (fun j hj => by rw [HM.out.cells (k + j) (by omega)]; rfl) (fun j hj => (HM.out.free _).trans (HWF.out _))
          have HCL : Hid ((∀ j, j < 16 → (wr.setCells (w.heap.size + 1) k (List.replicate n (.int .u8 0))).cell? ⟨w.heap.size + 1, j, none⟩ = some (.int .u8 (spread F (some k) j))) ∧ Below (w.heap.size + 1) W0 (wr.setCells (w.heap.size + 1) k (List.replicate n (.int .u8 0)))) := Lib.hid (by
            have e : n = 16 - F.length := by omega
            subst e
            exact HM.out.clear hk2 h16)
          go_upto_region 76 with (simp only [hcl])
          generalize wr.setCells (w.heap.size + 1) k (List.replicate n (.int .u8 0)) = W1 at HCL ⊢
          have HC1 := Lib.hid HCL.out.1
          have HBL := Lib.hid HCL.out.2
          obtain ⟨f, hf⟩ : ∃ f, f = spread F (some k) := ⟨_, rfl⟩
          rw [← hf] at HC1 HBY
          have HFE := Lib.hid hf
          clear hf
          clear HCL hcl hsl
          have hq16 := HC1.out
          have u0 := hq16 0 (by omega)
          have u1 := hq16 1 (by omega)
          have u2 := hq16 2 (by omega)
          have u3 := hq16 3 (by omega)
          have u4 := hq16 4 (by omega)
          have u5 := hq16 5 (by omega)
          have u6 := hq16 6 (by omega)
          have u7 := hq16 7 (by omega)
          have u8 := hq16 8 (by omega)
          have u9 := hq16 9 (by omega)
          have u10 := hq16 10 (by omega)
          have u11 := hq16 11 (by omega)
          have u12 := hq16 12 (by omega)
          have u13 := hq16 13 (by omega)
          have u14 := hq16 14 (by omega)
          have u15 := hq16 15 (by omega)
          have b0 : W1.cell? ⟨w.heap.size, 0, none⟩ = some (.int .u64 0) := (HBL.out.cell (p := ⟨w.heap.size, 0, none⟩) (by simp)).trans HB5.out.1
          have b1 : W1.cell? ⟨w.heap.size, 1, none⟩ = some (.int .u64 0) := (HBL.out.cell (p := ⟨w.heap.size, 1, none⟩) (by simp)).trans HB5.out.2.1
          have b2 : W1.cell? ⟨w.heap.size, 2, none⟩ = some (.bool false) := (HBL.out.cell (p := ⟨w.heap.size, 2, none⟩) (by simp)).trans HB5.out.2.2.1
          have b3 : W1.cell? ⟨w.heap.size, 3, none⟩ = some (.bool false) := (HBL.out.cell (p := ⟨w.heap.size, 3, none⟩) (by simp)).trans HB5.out.2.2.2.1
          have b4 : W1.cell? ⟨w.heap.size, 4, none⟩ = some (.string ⟨#[]⟩) := (HBL.out.cell (p := ⟨w.heap.size, 4, none⟩) (by simp)).trans HB5.out.2.2.2.2
          have hfb : ∀ o, W1.frozen? ⟨w.heap.size, o, none⟩ = false := fun o => (HBL.out.frozen (p := ⟨w.heap.size, o, none⟩) (by simp)).trans (HFR.out o)
          have hW1s : w.heap.size + 1 + 1 ≤ W1.heap.size := by have := HBL.out.size; omega
          clear hq16
          go_wp2_with fail
          refine (addrFrom16_any f HBY _).mono ?_
          rintro e w5 ⟨rfl, hb5⟩
          obtain ⟨hc5, hf5⟩ := rules hb5
          have hs5 := hb5.size
          go_wp2_with fail
          refine ((withZone_any _ _).at _).mono ?_
          rintro e w6 ⟨rfl, hb6⟩
          obtain ⟨hc6, hf6⟩ := rulesB (B := W1.heap.size) hb6 (by omega)
          have hs6 := hb6.size
          have hz6 : w.heap.size < w6.heap.size := by omega
          have e0 : w6.cell? ⟨w.heap.size, 0, none⟩ = some (.int .u64 0) := by rw [hc6 _ _ (by omega), hc5 _ _ (by omega)]; exact b0
          have e1 : w6.cell? ⟨w.heap.size, 1, none⟩ = some (.int .u64 0) := by rw [hc6 _ _ (by omega), hc5 _ _ (by omega)]; exact b1
          have e2 : w6.cell? ⟨w.heap.size, 2, none⟩ = some (.bool false) := by rw [hc6 _ _ (by omega), hc5 _ _ (by omega)]; exact b2
          have e3 : w6.cell? ⟨w.heap.size, 3, none⟩ = some (.bool false) := by rw [hc6 _ _ (by omega), hc5 _ _ (by omega)]; exact b3
          have e4 : w6.cell? ⟨w.heap.size, 4, none⟩ = some (.string ⟨#[]⟩) := by rw [hc6 _ _ (by omega), hc5 _ _ (by omega)]; exact b4
          have hfz : ∀ o, w6.frozen? ⟨w.heap.size, o, none⟩ = false := fun o => by rw [hf6 _ _ (by omega), hf5 _ _ (by omega)]; exact hfb o
          clear hf5 hf6 hfb hc5 hc6
          go_wp2
          refine bodyPost_ret (v := .tuple #[.agg #[.int .u64 (num f 8), .int .u64 (num (fun i => f (8 + i)) 8), .bool true, .bool true, .string ⟨#[]⟩], .nilIface]) ?_ rfl ⟨by rw [HFE.out], ?_⟩
          · simp [results, Tryz.results36, go_sem, e0, e1, e2, e3, e4, hz6]
          refine Below.setCell ?_ (by simp) _
          have hA : Below (w.heap.size + 1) W1 w6 := (hb5.trans (hb6.mono hs5)).mono (by omega)
          have hB : Below w.heap.size W0 w6 := (HBL.out.trans hA).mono (by omega)
          have hC := HWB.out.trans hB
          repeat (first | with_reducible exact hC | with_reducible refine Below.setCell ?_ (by simp) _)
    · rw [if_neg hlt] at hend
      subst hend
      have hev : ev none = -1 := rfl
      rw [hev]
      have hl16 : F.length = 16 := by omega
      have e16 : (F.length : Int) = 16 := by omega
      rw [e16]
      have HC1 : Hid (∀ j, j < 16 → wc.cell? ⟨w.heap.size + 1, j, none⟩ = some (.int .u8 (spread F none j))) := Lib.hid HQ.out.cells
      have HBL := Lib.hid HQ.out.below
      clear hev
      obtain ⟨f, hf⟩ : ∃ f, f = spread F none := ⟨_, rfl⟩
      rw [← hf] at HC1 HBY
      have HFE := Lib.hid hf
      clear hf
      go_upto_region 76 with fail
      generalize wc = W1 at HC1 HBL HQ ⊢
      have hq16 := HC1.out
      have u0 := hq16 0 (by omega)
      have u1 := hq16 1 (by omega)
      have u2 := hq16 2 (by omega)
      have u3 := hq16 3 (by omega)
      have u4 := hq16 4 (by omega)
      have u5 := hq16 5 (by omega)
      have u6 := hq16 6 (by omega)
      have u7 := hq16 7 (by omega)
      have u8 := hq16 8 (by omega)
      have u9 := hq16 9 (by omega)
      have u10 := hq16 10 (by omega)
      have u11 := hq16 11 (by omega)
      have u12 := hq16 12 (by omega)
      have u13 := hq16 13 (by omega)
      have u14 := hq16 14 (by omega)
      have u15 := hq16 15 (by omega)
      have b0 : W1.cell? ⟨w.heap.size, 0, none⟩ = some (.int .u64 0) := (HBL.out.cell (p := ⟨w.heap.size, 0, none⟩) (by simp)).trans HB5.out.1
      have b1 : W1.cell? ⟨w.heap.size, 1, none⟩ = some (.int .u64 0) := (HBL.out.cell (p := ⟨w.heap.size, 1, none⟩) (by simp)).trans HB5.out.2.1
      have b2 : W1.cell? ⟨w.heap.size, 2, none⟩ = some (.bool false) := (HBL.out.cell (p := ⟨w.heap.size, 2, none⟩) (by simp)).trans HB5.out.2.2.1
      have b3 : W1.cell? ⟨w.heap.size, 3, none⟩ = some (.bool false) := (HBL.out.cell (p := ⟨w.heap.size, 3, none⟩) (by simp)).trans HB5.out.2.2.2.1
      have b4 : W1.cell? ⟨w.heap.size, 4, none⟩ = some (.string ⟨#[]⟩) := (HBL.out.cell (p := ⟨w.heap.size, 4, none⟩) (by simp)).trans HB5.out.2.2.2.2
      have hfb : ∀ o, W1.frozen? ⟨w.heap.size, o, none⟩ = false := fun o => (HBL.out.frozen (p := ⟨w.heap.size, o, none⟩) (by simp)).trans (HFR.out o)
      have hW1s : w.heap.size + 1 + 1 ≤ W1.heap.size := by have := HBL.out.size; omega
      clear hq16
      go_wp2_with fail
      refine (addrFrom16_any f HBY _).mono ?_
      rintro e w5 ⟨rfl, hb5⟩
      obtain ⟨hc5, hf5⟩ := rules hb5
      have hs5 := hb5.size
      go_wp2_with fail
      refine ((withZone_any _ _).at _).mono ?_
      rintro e w6 ⟨rfl, hb6⟩
      obtain ⟨hc6, hf6⟩ := rulesB (B := W1.heap.size) hb6 (by omega)
      have hs6 := hb6.size
      have hz6 : w.heap.size < w6.heap.size := by omega
      have e0 : w6.cell? ⟨w.heap.size, 0, none⟩ = some (.int .u64 0) := by rw [hc6 _ _ (by omega), hc5 _ _ (by omega)]; exact b0
      have e1 : w6.cell? ⟨w.heap.size, 1, none⟩ = some (.int .u64 0) := by rw [hc6 _ _ (by omega), hc5 _ _ (by omega)]; exact b1
      have e2 : w6.cell? ⟨w.heap.size, 2, none⟩ = some (.bool false) := by rw [hc6 _ _ (by omega), hc5 _ _ (by omega)]; exact b2
      have e3 : w6.cell? ⟨w.heap.size, 3, none⟩ = some (.bool false) := by rw [hc6 _ _ (by omega), hc5 _ _ (by omega)]; exact b3
      have e4 : w6.cell? ⟨w.heap.size, 4, none⟩ = some (.string ⟨#[]⟩) := by rw [hc6 _ _ (by omega), hc5 _ _ (by omega)]; exact b4
      have hfz : ∀ o, w6.frozen? ⟨w.heap.size, o, none⟩ = false := fun o => by rw [hf6 _ _ (by omega), hf5 _ _ (by omega)]; exact hfb o
      clear hf5 hf6 hfb hc5 hc6
      go_wp2
      refine bodyPost_ret (v := .tuple #[.agg #[.int .u64 (num f 8), .int .u64 (num (fun i => f (8 + i)) 8), .bool true, .bool true, .string ⟨#[]⟩], .nilIface]) ?_ rfl ⟨by rw [HFE.out], ?_⟩
      · simp [results, Tryz.results36, go_sem, e0, e1, e2, e3, e4, hz6]
      refine Below.setCell ?_ (by simp) _
      have hA : Below (w.heap.size + 1) W1 w6 := (hb5.trans (hb6.mono hs5)).mono (by omega)
      have hB : Below w.heap.size W0 w6 := (HBL.out.trans hA).mono (by omega)
      have hC := HWB.out.trans hB
      repeat (first | with_reducible exact hC | with_reducible refine Below.setCell ?_ (by simp) _)
end Go.Proofs.YtkploaapcpjkbaaGreatDoor
