/-
  Bits of small numbers: the model's 'bits' as Nat's own and, or. No program in sight.
-/
import Derived.WalkKit
import Derived.Laws.Bits64b
namespace Go.Proofs.Qxb6001091a.Bits
open Go.RowKit
theorem and_u8_nat (a b : Nat) (ha : a < 256) (hb : b < 256) : bits .and .u8 (a : Int) (b : Int) = ((a &&& b : Nat) : Int) := by
  have hx : a &&& b < 2 ^ 8 := Nat.and_lt_two_pow _ (by omega)
  have h1 : (BitVec.ofInt 8 (a : Int)).toNat = a := by
    rw [BitVec.ofInt_natCast, BitVec.toNat_ofNat]; exact Nat.mod_eq_of_lt (by omega)
  have h2 : (BitVec.ofInt 8 (b : Int)).toNat = b := by
    rw [BitVec.ofInt_natCast, BitVec.toNat_ofNat]; exact Nat.mod_eq_of_lt (by omega)
  show IntKind.u8.wrap ((BitVec.ofInt 8 (a : Int) &&& BitVec.ofInt 8 (b : Int)).toNat : Int) = _
  rw [BitVec.toNat_and, h1, h2, IntKind.wrap_u8]
  omega
theorem or_u8_nat (a b : Nat) (ha : a < 256) (hb : b < 256) : bits .or .u8 (a : Int) (b : Int) = ((a ||| b : Nat) : Int) := by
  have hx : a ||| b < 2 ^ 8 := Nat.or_lt_two_pow (by omega) (by omega)
  have h1 : (BitVec.ofInt 8 (a : Int)).toNat = a := by
    rw [BitVec.ofInt_natCast, BitVec.toNat_ofNat]; exact Nat.mod_eq_of_lt (by omega)
  have h2 : (BitVec.ofInt 8 (b : Int)).toNat = b := by
    rw [BitVec.ofInt_natCast, BitVec.toNat_ofNat]; exact Nat.mod_eq_of_lt (by omega)
  show IntKind.u8.wrap ((BitVec.ofInt 8 (a : Int) ||| BitVec.ofInt 8 (b : Int)).toNat : Int) = _
  rw [BitVec.toNat_or, h1, h2, IntKind.wrap_u8]
  omega
theorem and_u32_nat (a b : Nat) (ha : a < 4294967296) (hb : b < 4294967296) : bits .and .u32 (a : Int) (b : Int) = ((a &&& b : Nat) : Int) := by
  have hx : a &&& b < 2 ^ 32 := Nat.and_lt_two_pow _ (by omega)
  have h1 : (BitVec.ofInt 32 (a : Int)).toNat = a := by
    rw [BitVec.ofInt_natCast, BitVec.toNat_ofNat]; exact Nat.mod_eq_of_lt (by omega)
  have h2 : (BitVec.ofInt 32 (b : Int)).toNat = b := by
    rw [BitVec.ofInt_natCast, BitVec.toNat_ofNat]; exact Nat.mod_eq_of_lt (by omega)
  show IntKind.u32.wrap ((BitVec.ofInt 32 (a : Int) &&& BitVec.ofInt 32 (b : Int)).toNat : Int) = _
  rw [BitVec.toNat_and, h1, h2, IntKind.wrap_u32]
  omega
theorem and_i64_nat (a b : Nat) (ha : a < 9223372036854775808) (hb : b < 9223372036854775808) : bits .and .i64 (a : Int) (b : Int) = ((a &&& b : Nat) : Int) := by
  have hx : a &&& b < 2 ^ 63 := Nat.and_lt_two_pow _ (by omega)
  have h1 : (BitVec.ofInt 64 (a : Int)).toNat = a := by
    rw [BitVec.ofInt_natCast, BitVec.toNat_ofNat]; exact Nat.mod_eq_of_lt (by omega)
  have h2 : (BitVec.ofInt 64 (b : Int)).toNat = b := by
    rw [BitVec.ofInt_natCast, BitVec.toNat_ofNat]; exact Nat.mod_eq_of_lt (by omega)
  show IntKind.i64.wrap ((BitVec.ofInt 64 (a : Int) &&& BitVec.ofInt 64 (b : Int)).toNat : Int) = _
  rw [BitVec.toNat_and, h1, h2, IntKind.wrap_i64]
  omega
theorem or_i64_nat (a b : Nat) (ha : a < 9223372036854775808) (hb : b < 9223372036854775808) : bits .or .i64 (a : Int) (b : Int) = ((a ||| b : Nat) : Int) := by
  have hx : a ||| b < 2 ^ 63 := Nat.or_lt_two_pow (by omega) (by omega)
  have h1 : (BitVec.ofInt 64 (a : Int)).toNat = a := by
    rw [BitVec.ofInt_natCast, BitVec.toNat_ofNat]; exact Nat.mod_eq_of_lt (by omega)
  have h2 : (BitVec.ofInt 64 (b : Int)).toNat = b := by
    rw [BitVec.ofInt_natCast, BitVec.toNat_ofNat]; exact Nat.mod_eq_of_lt (by omega)
  show IntKind.i64.wrap ((BitVec.ofInt 64 (a : Int) ||| BitVec.ofInt 64 (b : Int)).toNat : Int) = _
  rw [BitVec.toNat_or, h1, h2, IntKind.wrap_i64]
  omega

/-- the low bit -/
theorem and1_u8 (a : Nat) (ha : a < 256) : bits .and .u8 (a : Int) 1 = ((a % 2 : Nat) : Int) := by
  have := and_u8_nat a 1 ha (by omega)
  rw [Nat.and_one_is_mod] at this
  exact this
theorem and1_u32 (a : Nat) (ha : a < 4294967296) : bits .and .u32 (a : Int) 1 = ((a % 2 : Nat) : Int) := by
  have := and_u32_nat a 1 ha (by omega)
  rw [Nat.and_one_is_mod] at this
  exact this
theorem and1_i64 (a : Nat) (ha : a < 9223372036854775808) : bits .and .i64 (a : Int) 1 = ((a % 2 : Nat) : Int) := by
  have := and_i64_nat a 1 ha (by omega)
  rw [Nat.and_one_is_mod] at this
  exact this
/-- an even number with a bit laid in -/
theorem or_bit (v b : Nat) (hb : b < 2) : 2 * v ||| b = 2 * v + b := by
  have h := Nat.two_pow_add_eq_or_of_lt (i := 1) (b := b) (by simpa using hb) v
  simp only [Nat.pow_one] at h
  exact h.symm
/-- Go's 'v<<1 | int(bit)', as the walk writes it -/
theorem step_val (v d s : Nat) (hv : v < 4294967296) (hd : d < 256) :
    bits .or .i64 (wrap64 ((v : Int) * 2)) (wrap64 (bits .and .u8 ((d : Int) / 2 ^ s) 1)) = ((2 * v + d / 2 ^ s % 2 : Nat) : Int) := by
  have e1 : ((d : Int) / 2 ^ s) = ((d / 2 ^ s : Nat) : Int) := by simp
  have hds : d / 2 ^ s < 256 := Nat.lt_of_le_of_lt (Nat.div_le_self _ _) hd
  have hb : d / 2 ^ s % 2 < 2 := Nat.mod_lt _ (by omega)
  rw [e1, and1_u8 _ hds]
  have e2 : wrap64 ((v : Int) * 2) = ((2 * v : Nat) : Int) := by rw [IntWalk.wrap64_in _ ⟨by omega, by omega⟩]; omega
  have e3 : wrap64 ((d / 2 ^ s % 2 : Nat) : Int) = ((d / 2 ^ s % 2 : Nat) : Int) := by rw [IntWalk.wrap64_in _ ⟨by omega, by omega⟩]
  rw [e2, e3, or_i64_nat _ _ (by omega) (by omega), or_bit _ _ hb]
end Go.Proofs.Qxb6001091a.Bits
