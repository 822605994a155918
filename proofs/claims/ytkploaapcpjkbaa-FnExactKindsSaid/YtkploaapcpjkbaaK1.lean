/- The plain law of the kinds: what the package tells of an address is what the reference tells. -/
import Derived.Test.YtkploaapcpjkbaaB6
namespace Go.Proofs.Ytkploaapcpjkbaa
open Go Go.RowKit
set_option linter.unusedVariables false
set_option linter.unusedSimpArgs false

theorem kinds4_eq (lo : Int) (h0 : 0 ≤ lo) (h1 : lo < 4294967296) (i : Nat) (hi : i < 6) : kinds4 (281470681743360 + lo) i = skinds4 lo i := by
  have e3 : byteAt (281470681743360 + lo) 3 = lo / 16777216 := by simp only [byteAt, Int.reducePow]; omega
  have e2 : byteAt (281470681743360 + lo) 2 = lo / 65536 % 256 := by simp only [byteAt, Int.reducePow]; omega
  match i, hi with
  | 0, _ => show loop4 _ = _; rw [loop4, e3]; rfl
  | 1, _ =>
    show priv4 _ = _
    rw [priv4, e3, e2, u8_high 4 (by decide) _ 240 (by omega) (by omega) (by decide)]
    show _ = (lo / 16777216 == 10 || (lo / 1048576 == 2753 || lo / 65536 == 49320))
    rw [Bool.eq_iff_iff]
    simp only [Bool.or_eq_true, Bool.and_eq_true, beq_iff_eq, Int.reducePow]
    omega
  | 2, _ =>
    show link4 _ = _
    rw [link4, e3, e2]
    show _ = (lo / 65536 == 43518)
    rw [Bool.eq_iff_iff]
    simp only [Bool.and_eq_true, beq_iff_eq]
    omega
  | 3, _ =>
    show multi4 _ = _
    rw [multi4, e3, u8_high 4 (by decide) _ 240 (by omega) (by omega) (by decide)]
    show _ = (lo / 268435456 == 14)
    rw [Bool.eq_iff_iff]
    simp only [beq_iff_eq, Int.reducePow]
    omega
  | 4, _ =>
    show unspec4 _ = (lo == 0)
    rw [unspec4, Bool.eq_iff_iff]
    simp only [beq_iff_eq]
    omega
  | 5, _ => rfl

theorem kinds6_eq (hi lo : Int) (h0 : 0 ≤ hi) (h1 : hi < 18446744073709551616) (i : Nat) (h : i < 6) : kinds6 hi lo i = skinds6 hi lo i := by
  match i, h with
  | 0, _ => rfl
  | 1, _ =>
    show priv6 _ = (hi / 144115188075855872 == 126)
    rw [priv6, u8_high 1 (by decide) _ 254 (by omega) (by omega) (by decide), Bool.eq_iff_iff]
    simp only [beq_iff_eq, Int.reducePow]
    omega
  | 2, _ =>
    show link6 _ _ = (hi / 18014398509481984 == 1018)
    rw [link6, u16_high 6 (by decide) _ 65472 (grp_bd hi lo 0).1 (grp_bd hi lo 0).2 (by decide), Bool.eq_iff_iff]
    simp only [beq_iff_eq, grp, Nat.reduceLT, if_true, Nat.sub_zero, Int.reducePow, show (0 : Nat) < 4 from by decide]
    omega
  | 3, _ => rfl
  | 4, _ => rfl
  | 5, _ => rfl
end Go.Proofs.Ytkploaapcpjkbaa
