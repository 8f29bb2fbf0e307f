/- Plain arithmetic on the model's bit operations, and on lists of bytes read as numbers. No program in sight. -/
import Derived.Test.YtkglmacaecmhdaaDoorBase
import Derived.Laws.BitsAllLaws
namespace Go.Proofs.YtkglmacaecmhdaaDoor
open Go.RowKit

theorem ofInt_i64 (a : Nat) (ha : a < 9223372036854775808) : (BitVec.ofInt 64 (a : Int)).toNat = a := by
  rw [BitVec.ofInt_natCast, BitVec.toNat_ofNat]; exact Nat.mod_eq_of_lt (by omega)
theorem i64_or_nat (a b : Nat) (ha : a < 9223372036854775808) (hb : b < 9223372036854775808) : bits .or .i64 (a : Int) (b : Int) = ((a ||| b : Nat) : Int) := by
  have hx : a ||| b < 2 ^ 63 := Nat.or_lt_two_pow (by omega) (by omega)
  show IntKind.i64.wrap ((BitVec.ofInt 64 (a : Int) ||| BitVec.ofInt 64 (b : Int)).toNat : Int) = _
  rw [BitVec.toNat_or, ofInt_i64 a ha, ofInt_i64 b hb, IntKind.wrap_i64]
  omega
theorem i64_and_nat (a b : Nat) (ha : a < 9223372036854775808) (hb : b < 9223372036854775808) : bits .and .i64 (a : Int) (b : Int) = ((a &&& b : Nat) : Int) := by
  have hx : a &&& b < 2 ^ 63 := Nat.and_lt_two_pow _ (by omega)
  show IntKind.i64.wrap ((BitVec.ofInt 64 (a : Int) &&& BitVec.ofInt 64 (b : Int)).toNat : Int) = _
  rw [BitVec.toNat_and, ofInt_i64 a ha, ofInt_i64 b hb, IntKind.wrap_i64]
  omega
theorem wrap64_nat (a : Nat) (ha : a < 9223372036854775808) : wrap64 (a : Int) = (a : Int) := IntWalk.wrap64_in _ (by omega)

/-- The number of some bytes, the highest one first. -/
def numOf (l : List UInt8) : Nat := l.foldl (fun n x => n * 256 + x.toNat) 0
theorem numOf_snoc (l : List UInt8) (x : UInt8) : numOf (l ++ [x]) = numOf l * 256 + x.toNat := by simp [numOf]
theorem foldl_lt (l : List UInt8) : ∀ n, l.foldl (fun n x => n * 256 + x.toNat) n < (n + 1) * 256 ^ l.length := by
  induction l with
  | nil => intro n; simp
  | cons x l ih =>
    intro n
    have hx := x.toNat_lt
    have := ih (n * 256 + x.toNat)
    rw [List.foldl_cons, List.length_cons, Nat.pow_succ]
    refine Nat.lt_of_lt_of_le this ?_
    rw [show 256 ^ l.length * 256 = 256 * 256 ^ l.length from Nat.mul_comm _ _, ← Nat.mul_assoc]
    exact Nat.mul_le_mul_right _ (by omega)
theorem numOf_lt (l : List UInt8) : numOf l < 256 ^ l.length := by have := foldl_lt l 0; simpa [numOf] using this
theorem numOf_lt3 (l : List UInt8) (h : l.length ≤ 3) : numOf l < 16777216 :=
  Nat.lt_of_lt_of_le (numOf_lt l) (by have : 256 ^ l.length ≤ 256 ^ 3 := Nat.pow_le_pow_right (by omega) h; simpa using this)
theorem numOf_lt4 (l : List UInt8) (h : l.length ≤ 4) : numOf l < 4294967296 :=
  Nat.lt_of_lt_of_le (numOf_lt l) (by have : 256 ^ l.length ≤ 256 ^ 4 := Nat.pow_le_pow_right (by omega) h; simpa using this)

theorem numOf_lt1 (l : List UInt8) : numOf (l.take 1) < 256 := by
  cases l with
  | nil => simp [numOf]
  | cons x l => have := x.toNat_lt; simpa [numOf] using this
theorem numOf_lt2 (l : List UInt8) : numOf (l.take 2) < 65536 :=
  Nat.lt_of_lt_of_le (numOf_lt _) (by have h : (l.take 2).length ≤ 2 := by rw [List.length_take]; omega
                                      have : 256 ^ (l.take 2).length ≤ 256 ^ 2 := Nat.pow_le_pow_right (by omega) h
                                      simpa using this)
/-- 'n << 8 | x' on int. -/
theorem shl8_or (n x : Nat) (hn : n < 4294967296) (hx : x < 256) : bits .or .i64 (wrap64 ((n : Int) * 256)) (x : Int) = ((n * 256 + x : Nat) : Int) := by
  rw [show ((n : Int) * 256) = ((n * 256 : Nat) : Int) by omega, wrap64_nat _ (by omega), i64_or_nat _ _ (by omega) (by omega), nat_join 8 _ _ (by omega) (by omega)]

/-- 'm | (x & 127) << (7 * k)' on int. -/
theorem vbi_or (m k x : Nat) (hm : m < 128 ^ k) (hk : k ≤ 3) (hx : x < 256) : bits .or .i64 (m : Int) (wrap64 (bits .and .i64 (x : Int) 127 * 2 ^ (7 * k))) = ((m + x % 128 * 128 ^ k : Nat) : Int) := by
  have e : bits .and .i64 (x : Int) 127 = ((x % 128 : Nat) : Int) := by
    have := i64_and_nat x 127 (by omega) (by omega)
    rw [nat_mask7] at this
    exact this
  have hp : (2 : Int) ^ (7 * k) = ((128 ^ k : Nat) : Int) := by rw [show (128 : Nat) = 2 ^ 7 from rfl, ← Nat.pow_mul]; simp
  have hpos : 0 < 128 ^ k := Nat.pow_pos (by omega)
  have hle : 128 ^ k ≤ 128 ^ 3 := Nat.pow_le_pow_right (by omega) hk
  have hle' : 128 ^ k ≤ 2097152 := hle
  have hm2 : x % 128 * 128 ^ k ≤ 127 * 2097152 := Nat.mul_le_mul (by omega) hle'
  rw [e, hp, ← Int.natCast_mul, wrap64_nat _ (by omega), i64_or_nat _ _ (by omega) (by omega), Nat.or_comm, nat_join (7 * k) _ _ (by rw [Nat.pow_mul]; exact Nat.mul_mod_left _ _) (by rw [Nat.pow_mul]; exact hm), Nat.add_comm]
/-- 'm | uint32(x & 127) << (7 * k)' on uint32. -/
theorem vbi_or32 (m k x : Nat) (hm : m < 128 ^ k) (hk : k ≤ 3) (hx : x < 256) : bits .or .u32 (m : Int) (bits .and .u8 (x : Int) 127 % 4294967296 * 2 ^ (7 * k) % 4294967296) = ((m + x % 128 * 128 ^ k : Nat) : Int) := by
  have e : bits .and .u8 (x : Int) 127 = ((x % 128 : Nat) : Int) := by
    have := u8_and_nat x 127 (by omega) (by omega)
    rw [nat_mask7] at this
    exact this
  have hp : (2 : Int) ^ (7 * k) = ((128 ^ k : Nat) : Int) := by rw [show (128 : Nat) = 2 ^ 7 from rfl, ← Nat.pow_mul]; simp
  have hle : 128 ^ k ≤ 128 ^ 3 := Nat.pow_le_pow_right (by omega) hk
  have hle' : 128 ^ k ≤ 2097152 := hle
  have hm2 : x % 128 * 128 ^ k ≤ 127 * 2097152 := Nat.mul_le_mul (by omega) hle'
  rw [e, hp, show ((x % 128 : Nat) : Int) % 4294967296 = ((x % 128 : Nat) : Int) by omega, ← Int.natCast_mul, show ((x % 128 * 128 ^ k : Nat) : Int) % 4294967296 = ((x % 128 * 128 ^ k : Nat) : Int) by omega,
    u32_or_nat _ _ (by omega) (by omega), Nat.or_comm, nat_join (7 * k) _ _ (by rw [Nat.pow_mul]; exact Nat.mul_mod_left _ _) (by rw [Nat.pow_mul]; exact hm), Nat.add_comm]
theorem and128_eq (x : Nat) (hx : x < 256) : (bits .and .u8 (x : Int) 128 == 0) = decide (x < 128) := by
  have := u8_and_nat x 128 hx (by omega)
  rw [nat_bit 7 x] at this
  rw [show (128 : Int) = ((128 : Nat) : Int) from rfl, this, Bool.eq_iff_iff]
  simp
  omega
theorem vbi_lt (m k x : Nat) (hm : m < 128 ^ k) : m + x % 128 * 128 ^ k < 128 ^ (k + 1) := by
  have h1 : x % 128 * 128 ^ k ≤ 127 * 128 ^ k := Nat.mul_le_mul_right _ (by omega)
  rw [Nat.pow_succ]
  omega
theorem take_snoc' (l : List UInt8) (k : Nat) (x : UInt8) (h : l[k]? = some x) : l.take (k + 1) = l.take k ++ [x] := by
  rw [List.take_add_one, h]; rfl
theorem ret_bool {a b : Bool} (h : a = b) : Ending.returned (.bool a) = .returned (.bool b) := by rw [h]
theorem ret_int {k : IntKind} {a b : Int} (h : a = b) : Ending.returned (.int k a) = .returned (.int k b) := by rw [h]
end Go.Proofs.YtkglmacaecmhdaaDoor
