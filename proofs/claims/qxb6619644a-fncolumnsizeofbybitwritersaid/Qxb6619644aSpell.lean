/-
  Seat b6619644a: how the walk spells shifts and masks on uint64, and what number each is.
-/
import Derived.Test.Qxb6619644aBits
namespace Go.Proofs.Qxb6619644a

theorem or_join (a n y : Nat) (hn : n ≤ 64) (hy : y < 2 ^ n) : (a * 2 ^ n % 18446744073709551616) ||| y = (a * 2 ^ n + y) % 18446744073709551616 := by
  have e : (18446744073709551616 : Nat) = 2 ^ n * 2 ^ (64 - n) := by rw [pow64, ← Nat.pow_add, show n + (64 - n) = 64 by omega]
  have h1 : a * 2 ^ n % 18446744073709551616 = 2 ^ n * (a % 2 ^ (64 - n)) := by rw [e, Nat.mul_comm a, Nat.mul_mod_mul_left]
  have h2 : a % 2 ^ (64 - n) + 1 ≤ 2 ^ (64 - n) := Nat.mod_lt _ (Nat.pow_pos (by omega))
  have h3 : 2 ^ n * (a % 2 ^ (64 - n) + 1) ≤ 18446744073709551616 := by rw [e]; exact Nat.mul_le_mul_left _ h2
  rw [Nat.mul_add, Nat.mul_one] at h3
  have h4 : (a * 2 ^ n + y) % 18446744073709551616 = a * 2 ^ n % 18446744073709551616 + y := by
    rw [← Nat.mod_add_mod, Nat.mod_eq_of_lt (by rw [h1]; omega)]
  rw [h4]
  exact nat_join n _ y (by rw [h1, Nat.mul_mod_right]) hy

theorem wrap_nat (a : Nat) : IntKind.u64.wrap (a : Int) = ((a % 18446744073709551616 : Nat) : Int) := by
  rw [IntKind.wrap_u64]; omega

theorem cast_pow (n : Nat) : ((2 : Int) ^ n) = ((2 ^ n : Nat) : Int) := by rw [Int.natCast_pow]; rfl

theorem pow_le_64 (n : Nat) (hn : n ≤ 63) : 2 ^ n ≤ 9223372036854775808 := by
  have := Nat.pow_le_pow_right (show 0 < 2 by omega) hn
  omega

theorem mask_spell (n : Nat) (hn : n ≤ 63) : IntKind.u64.wrap (IntKind.u64.wrap ((2 : Int) ^ n) - 1) = ((2 ^ n - 1 : Nat) : Int) := by
  have h := pow_le_64 n hn
  have h0 : 0 < 2 ^ n := Nat.pow_pos (by omega)
  rw [cast_pow, wrap_nat, Nat.mod_eq_of_lt (by omega), show (((2 ^ n : Nat) : Int) - 1) = ((2 ^ n - 1 : Nat) : Int) by omega, wrap_nat, Nat.mod_eq_of_lt (by omega)]

theorem and_mask (v n : Nat) (hn : n ≤ 63) (hv : v < 18446744073709551616) :
    bits .and .u64 (v : Int) (IntKind.u64.wrap (IntKind.u64.wrap ((2 : Int) ^ n) - 1)) = ((v % 2 ^ n : Nat) : Int) := by
  have h := pow_le_64 n hn
  rw [mask_spell n hn, u64_and_nat v _ hv (by omega), Nat.and_two_pow_sub_one_eq_mod]

/-- 'acc<<n | v&(1<<n-1)'. -/
theorem acc_spell (acc v n : Nat) (hn : n ≤ 63) (hv : v < 18446744073709551616) :
    bits .or .u64 (IntKind.u64.wrap ((acc : Int) * (2 : Int) ^ n)) (bits .and .u64 (v : Int) (IntKind.u64.wrap (IntKind.u64.wrap ((2 : Int) ^ n) - 1))) =
      (((acc * 2 ^ n + v % 2 ^ n) % 18446744073709551616 : Nat) : Int) := by
  have h := pow_le_64 n hn
  have hy : v % 2 ^ n < 2 ^ n := Nat.mod_lt _ (Nat.pow_pos (by omega))
  rw [and_mask v n hn hv, cast_pow, ← Int.natCast_mul, wrap_nat, u64_or_nat _ _ (Nat.mod_lt _ (by omega)) (by omega), or_join acc n _ (by omega) hy]

/-- 'cur<<1 | (x>>(k-1))&1'. -/
theorem bit_spell (q x m : Nat) (hx : x < 18446744073709551616) :
    bits .or .u64 (IntKind.u64.wrap ((q : Int) * 2)) (bits .and .u64 ((x : Int) / (2 : Int) ^ m) 1) = (((q * 2 + x / 2 ^ m % 2) % 18446744073709551616 : Nat) : Int) := by
  have hd : x / 2 ^ m ≤ x := Nat.div_le_self _ _
  have hb : x / 2 ^ m % 2 < 2 := Nat.mod_lt _ (by omega)
  have e1 : ((x : Int) / (2 : Int) ^ m) = ((x / 2 ^ m : Nat) : Int) := by rw [cast_pow]; rfl
  have e2 : x / 2 ^ m &&& 1 = x / 2 ^ m % 2 := Nat.and_one_is_mod _
  rw [e1, show (1 : Int) = ((1 : Nat) : Int) from rfl, u64_and_nat _ 1 (by omega) (by omega), e2, show ((q : Int) * 2) = ((q * 2 : Nat) : Int) by omega, wrap_nat,
    u64_or_nat _ _ (Nat.mod_lt _ (by omega)) (by omega)]
  have := or_join q 1 (x / 2 ^ m % 2) (by omega) (by simpa using hb)
  rw [Nat.pow_one] at this
  rw [this]

theorem byte_spell (a r : Nat) : IntKind.u8.wrap ((a : Int) / (2 : Int) ^ r) = ((a / 2 ^ r % 256 : Nat) : Int) := by
  rw [cast_pow, IntKind.wrap_u8]
  rfl
end Go.Proofs.Qxb6619644a
