import Derived.WalkKit
namespace Go.Proofs.Qxb6616057aFmt
open Go
set_option linter.unusedVariables false

theorem ofInt64 (a : Nat) (ha : a < 9223372036854775808) : (BitVec.ofInt 64 (a : Int)).toNat = a := by
  rw [BitVec.ofInt_natCast, BitVec.toNat_ofNat]; exact Nat.mod_eq_of_lt (by omega)
theorem i64_or_nat (a b : Nat) (ha : a < 9223372036854775808) (hb : b < 9223372036854775808) : bits .or .i64 (a : Int) (b : Int) = ((a ||| b : Nat) : Int) := by
  have hx : a ||| b < 2 ^ 63 := Nat.or_lt_two_pow (by omega) (by omega)
  show IntKind.i64.wrap ((BitVec.ofInt 64 (a : Int) ||| BitVec.ofInt 64 (b : Int)).toNat : Int) = _
  rw [BitVec.toNat_or, ofInt64 a ha, ofInt64 b hb, IntKind.wrap_i64]
  omega
theorem i64_and_nat (a b : Nat) (ha : a < 9223372036854775808) (hb : b < 9223372036854775808) : bits .and .i64 (a : Int) (b : Int) = ((a &&& b : Nat) : Int) := by
  have hx : a &&& b < 2 ^ 63 := Nat.and_lt_two_pow _ (by omega)
  show IntKind.i64.wrap ((BitVec.ofInt 64 (a : Int) &&& BitVec.ofInt 64 (b : Int)).toNat : Int) = _
  rw [BitVec.toNat_and, ofInt64 a ha, ofInt64 b hb, IntKind.wrap_i64]
  omega

/-- Disjoint bits: '|' is '+'. -/
theorem i64_join (i : Nat) (x y : Int) (h1 : 0 ≤ x) (h2 : x < 9223372036854775808) (h3 : 0 ≤ y) (h4 : y < 9223372036854775808) (hx : x.toNat % 2 ^ i = 0) (hy : y.toNat < 2 ^ i) : bits .or .i64 x y = x + y := by
  obtain ⟨A, rfl⟩ := Int.eq_ofNat_of_zero_le h1
  obtain ⟨B, rfl⟩ := Int.eq_ofNat_of_zero_le h3
  simp at hx hy
  rw [i64_or_nat A B (by omega) (by omega), nat_join i A B hx hy]
  omega
/-- A mask of i ones: '&' is the remainder. -/
theorem i64_mask (i : Nat) (x m : Int) (h1 : 0 ≤ x) (h2 : x < 9223372036854775808) (hm : m = ((2 ^ i - 1 : Nat) : Int)) (hi : 2 ^ i - 1 < 9223372036854775808) : bits .and .i64 x m = ((x.toNat % 2 ^ i : Nat) : Int) := by
  obtain ⟨A, rfl⟩ := Int.eq_ofNat_of_zero_le h1
  subst hm
  rw [i64_and_nat A _ (by omega) hi, Nat.and_two_pow_sub_one_eq_mod]
  simp

/-- The ID's number. -/
def idOf (sc : Bool) (ts r nd : Int) : Int := if sc then ts * 1048576 + r * 32 + nd else ts * 1048576 + r + nd

theorem id_scaled (ts r nd : Int) (h1 : 0 ≤ ts) (h2 : ts ≤ 8796093022207) (h3 : 0 ≤ r) (h4 : r ≤ 32767) (h5 : 0 ≤ nd) (h6 : nd ≤ 31) :
    bits .or .i64 (bits .or .i64 (ts * 1048576) (r * 32)) nd = idOf true ts r nd := by
  rw [i64_join 20 (ts * 1048576) (r * 32) (by omega) (by omega) (by omega) (by omega) (by omega) (by omega), i64_join 5 _ nd (by omega) (by omega) (by omega) (by omega) (by omega) (by omega)]
  simp [idOf]
theorem id_alone (ts r : Int) (h1 : 0 ≤ ts) (h2 : ts ≤ 8796093022207) (h3 : 0 ≤ r) (h4 : r ≤ 1048575) :
    bits .or .i64 (bits .or .i64 (ts * 1048576) r) 0 = idOf false ts r 0 := by
  rw [i64_join 20 (ts * 1048576) r (by omega) (by omega) (by omega) (by omega) (by omega) (by omega), i64_join 0 _ 0 (by omega) (by omega) (by omega) (by omega) (by omega) (by omega)]
  simp [idOf]

/-- The widest random part. -/
def top (sc : Bool) : Int := if sc then 32768 else 1048576
theorem id_bounds (sc : Bool) (ts r nd : Int) (h1 : 0 ≤ ts) (h2 : ts ≤ 8796093022207) (h3 : 0 ≤ r) (h4 : r < top sc) (h5 : 0 ≤ nd) (h6 : nd ≤ 31) (h7 : nd = 0 ∨ sc = true) :
    ts * 1048576 ≤ idOf sc ts r nd ∧ idOf sc ts r nd < ts * 1048576 + 1048576 := by
  cases sc <;> simp [idOf, top] at * <;> omega
theorem id_ts (sc : Bool) (ts r nd : Int) (h1 : 0 ≤ ts) (h2 : ts ≤ 8796093022207) (h3 : 0 ≤ r) (h4 : r < top sc) (h5 : 0 ≤ nd) (h6 : nd ≤ 31) (h7 : nd = 0 ∨ sc = true) :
    idOf sc ts r nd / 1048576 = ts := by
  have := id_bounds sc ts r nd h1 h2 h3 h4 h5 h6 h7
  omega
theorem id_lt (sc : Bool) (t1 t2 r1 r2 nd : Int) (h1 : 0 ≤ t1) (g1 : 0 ≤ t2) (h3 : 0 ≤ r1) (h4 : r1 < top sc) (g3 : 0 ≤ r2) (g4 : r2 < top sc) :
    (idOf sc t1 r1 nd < idOf sc t2 r2 nd ↔ t1 < t2 ∨ t1 = t2 ∧ r1 < r2) ∧ (idOf sc t1 r1 nd = idOf sc t2 r2 nd ↔ t1 = t2 ∧ r1 = r2) := by
  cases sc <;> simp [idOf, top] at * <;> constructor <;> omega
end Go.Proofs.Qxb6616057aFmt
