/-
  The plain law: Uvarint reads back what the varint of x spells, whatever lies behind it.
-/
import Derived.Lib.VarintMem
import Derived.Lib.VarintDec
namespace Go.Proofs.Ybulkdfkc

theorem from_uvarint (i : Nat) : ∀ (acc x : Nat) (rest : List UInt8), i ≤ 9 → x < 2 ^ (64 - 7 * i) →
    Lib.uvarintFrom i acc (Lib.uvarint x ++ rest) = (acc + x * 2 ^ (7 * i), ((i + (Lib.uvarint x).length : Nat) : Int)) := by
  induction h : 9 - i generalizing i with
  | zero =>
    intro acc x rest hi hx
    have e : i = 9 := by omega
    subst e
    have hx2 : x < 2 := by simpa using hx
    rw [Lib.uvarint_small (by omega)]
    have hb : (x.toUInt8).toNat = x := Lib.toUInt8_toNat (by omega)
    simp only [List.cons_append, List.nil_append, Lib.uvarintFrom, hb]
    rw [if_neg (by omega), if_pos (by omega), if_neg (by omega)]
    simp
  | succ d ih =>
    intro acc x rest hi hx
    by_cases h128 : 128 ≤ x
    · rw [Lib.uvarint_big h128]
      have hb : ((x % 128 + 128).toUInt8).toNat = x % 128 + 128 := Lib.toUInt8_toNat (by omega)
      simp only [List.cons_append, Lib.uvarintFrom, hb]
      rw [if_neg (by omega), if_neg (by omega)]
      have hm : (x % 128 + 128) % 128 = x % 128 := by omega
      have hp : (2 : Nat) ^ (64 - 7 * i) = 128 * 2 ^ (64 - 7 * (i + 1)) := by
        have : 64 - 7 * i = 7 + (64 - 7 * (i + 1)) := by omega
        rw [this, Nat.pow_add]
      have hq : (2 : Nat) ^ (7 * (i + 1)) = 128 * 2 ^ (7 * i) := by
        have : 7 * (i + 1) = 7 + 7 * i := by omega
        rw [this, Nat.pow_add]
      rw [ih (i + 1) (by omega) _ (x / 128) rest (by omega) (by rw [hp] at hx; exact Nat.div_lt_of_lt_mul hx), hm, hq, List.length_cons]
      refine Prod.ext ?_ ?_
      · have hd : x = 128 * (x / 128) + x % 128 := (Nat.div_add_mod x 128).symm
        show acc + x % 128 * 2 ^ (7 * i) + x / 128 * (128 * 2 ^ (7 * i)) = acc + x * 2 ^ (7 * i)
        conv => rhs; rw [hd]
        rw [Nat.add_mul, ← Nat.mul_assoc, Nat.mul_comm (x / 128) 128]
        omega
      · show ((i + 1 + (Lib.uvarint (x / 128)).length : Nat) : Int) = ((i + ((Lib.uvarint (x / 128)).length + 1) : Nat) : Int)
        omega
    · rw [Lib.uvarint_small (by omega)]
      have hb : (x.toUInt8).toNat = x := Lib.toUInt8_toNat (by omega)
      simp only [List.cons_append, List.nil_append, Lib.uvarintFrom, hb]
      rw [if_neg (by omega), if_pos (by omega), if_neg (by omega)]
      simp

theorem dec_uvarint (x : Nat) (rest : List UInt8) (hx : x < 18446744073709551616) : Lib.uvarintDec (Lib.uvarint x ++ rest) = (x, (((Lib.uvarint x).length : Nat) : Int)) := by
  have h := from_uvarint 0 0 x rest (by omega) (by simpa using hx)
  simpa [Lib.uvarintDec] using h
end Go.Proofs.Ybulkdfkc
