/-
  Plain facts on bits for the law over Coins: no Go in sight but the model's word 'bits'.
-/
import Derived.WalkKit
namespace Go.Proofs.Ybulkdkry.Coin
open Go.RowKit

theorem pow_le (n : Nat) (m : Nat) (h : n ≤ m) : 2 ^ n ≤ 2 ^ m := Nat.pow_le_pow_right (by omega) h

/-- The outcomes B 0 .. B (n - 1) as a number, B k in bit k. -/
def val (B : Nat → Bool) : Nat → Nat
  | 0 => 0
  | n + 1 => val B n + if B n then 2 ^ n else 0

theorem val_lt (B : Nat → Bool) : ∀ n, val B n < 2 ^ n
  | 0 => by simp [val]
  | n + 1 => by
    have := val_lt B n
    have e : 2 ^ (n + 1) = 2 ^ n * 2 := Nat.pow_succ ..
    unfold val
    split <;> omega

theorem or_top (a n : Nat) (h : a < 2 ^ n) : a ||| 2 ^ n = a + 2 ^ n := by
  have := Nat.two_pow_add_eq_or_of_lt h 1
  rw [Nat.mul_one] at this
  rw [Nat.or_comm, ← this, Nat.add_comm]

/-- Setting bit n of a number below 2^n adds 2^n. -/
theorem shift_in (v n : Nat) (o : Int) (h1 : n < 64) (hv : v < 2 ^ n) (ho0 : 0 ≤ o) (ho1 : o ≤ 1) :
    bits .or .u64 (v : Int) (IntKind.u64.wrap (IntKind.u64.wrap (bits .and .i64 o 1) * 2 ^ n)) = (v : Int) + o * 2 ^ n := by
  have hp : 2 ^ n ≤ 2 ^ 63 := pow_le n 63 (by omega)
  have hp2 : (2 : Nat) ^ 63 = 9223372036854775808 := by decide
  have hc : ((2 : Int) ^ n) = ((2 ^ n : Nat) : Int) := by simp
  rw [hc]
  generalize hq : 2 ^ n = q at *
  rcases (show o = 0 ∨ o = 1 by omega) with rfl | rfl
  · have e : bits .and .i64 0 1 = 0 := by decide
    rw [e, IntKind.wrap_u64, IntKind.wrap_u64, u64_or _ _ (by omega) (by omega) (by omega) (by omega)]
    simp
  · have e : bits .and .i64 1 1 = 1 := by decide
    have e2 : ((1 : Int) % 18446744073709551616 * (q : Int)) % 18446744073709551616 = (q : Int) := by omega
    rw [e, IntKind.wrap_u64, IntKind.wrap_u64, e2, u64_or _ _ (by omega) (by omega) (by omega) (by omega)]
    simp only [Int.toNat_natCast]
    subst hq
    rw [or_top v n hv]
    omega

/-- Reading bit k. -/
theorem bit_of (v k : Nat) (hv : v < 18446744073709551616) :
    wrap64 (bits .and .u64 ((v : Int) / 2 ^ k) 1) = ((v / 2 ^ k % 2 : Nat) : Int) := by
  have hc : ((v : Int) / 2 ^ k) = ((v / 2 ^ k : Nat) : Int) := by simp
  have hl : v / 2 ^ k ≤ v := Nat.div_le_self _ _
  rw [hc]
  generalize v / 2 ^ k = q at *
  rw [u64_and _ _ (by omega) (by omega) (by omega) (by omega)]
  have e : ((q : Int).toNat &&& (1 : Int).toNat) = q % 2 := by simp [Nat.and_one_is_mod]
  rw [e]
  unfold wrap64
  omega

theorem mod_succ (v k : Nat) : v % 2 ^ (k + 1) = v % 2 ^ k + 2 ^ k * (v / 2 ^ k % 2) := by
  rw [Nat.pow_succ, Nat.mod_mul]

/-- One round of coinByte: bit k goes in below the marker. -/
theorem byte_in (v n k : Nat) (hk : k < n) :
    (2 ^ n + v % 2 ^ k) ||| (v / 2 ^ k % 2 * 2 ^ k) = 2 ^ n + v % 2 ^ (k + 1) := by
  rw [mod_succ]
  have hr : v % 2 ^ k < 2 ^ k := Nat.mod_lt _ (Nat.pos_of_neZero _)
  have hb : v / 2 ^ k % 2 < 2 := Nat.mod_lt _ (by omega)
  generalize v % 2 ^ k = r at *
  generalize v / 2 ^ k % 2 = b at *
  have e1 : 2 ^ n = 2 ^ k * 2 ^ (n - k) := by rw [← Nat.pow_add]; congr 1; omega
  have e2 : 2 ^ (n - k) = 2 ^ 1 * 2 ^ (n - k - 1) := by rw [← Nat.pow_add]; congr 1; omega
  have e3 : 2 ^ k * 2 ^ (n - k) + r = 2 ^ k * 2 ^ (n - k) ||| r := Nat.two_pow_add_eq_or_of_lt hr _
  have e4 : 2 ^ (n - k) + b = 2 ^ (n - k) ||| b := by rw [e2]; exact Nat.two_pow_add_eq_or_of_lt hb _
  have e5 : 2 ^ k * (2 ^ (n - k) + b) + r = 2 ^ k * (2 ^ (n - k) + b) ||| r := Nat.two_pow_add_eq_or_of_lt hr _
  have e6 : 2 ^ k * 2 ^ (n - k) ||| b * 2 ^ k = 2 ^ k * (2 ^ (n - k) ||| b) := by
    rw [Nat.mul_comm b, Nat.mul_comm (2 ^ k) (2 ^ (n - k)), Nat.mul_comm (2 ^ k) b, Nat.mul_comm (2 ^ k) (2 ^ (n - k) ||| b),
      ← Nat.shiftLeft_eq, ← Nat.shiftLeft_eq, ← Nat.shiftLeft_eq, Nat.shiftLeft_or_distrib]
  rw [e1, e3, Nat.or_assoc, Nat.or_comm r, ← Nat.or_assoc, e6, ← e4, ← e5, Nat.mul_add]
  omega

theorem byte_in_go (v n k : Nat) (hn : n ≤ 7) (hk : k < n) :
    bits .or .u8 ((2 ^ n + v % 2 ^ k : Nat) : Int) (IntKind.u8.wrap (IntKind.u8.wrap ((v / 2 ^ k % 2 : Nat) : Int) * 2 ^ k)) = ((2 ^ n + v % 2 ^ (k + 1) : Nat) : Int) := by
  have h7 : 2 ^ n ≤ 2 ^ 7 := pow_le n 7 hn
  have hkn : 2 ^ (k + 1) ≤ 2 ^ n := pow_le (k + 1) n hk
  have h7' : (2 : Nat) ^ 7 = 128 := by decide
  have hr : v % 2 ^ k < 2 ^ k := Nat.mod_lt _ (Nat.pos_of_neZero _)
  have hb : v / 2 ^ k % 2 < 2 := Nat.mod_lt _ (by omega)
  have ek : 2 ^ (k + 1) = 2 ^ k * 2 := Nat.pow_succ ..
  have hm : v / 2 ^ k % 2 * 2 ^ k ≤ 1 * 2 ^ k := Nat.mul_le_mul_right _ (by omega)
  have e1 : IntKind.u8.wrap ((v / 2 ^ k % 2 : Nat) : Int) = ((v / 2 ^ k % 2 : Nat) : Int) := by rw [IntKind.wrap_u8']; omega
  have e2 : ((v / 2 ^ k % 2 : Nat) : Int) * 2 ^ k = ((v / 2 ^ k % 2 * 2 ^ k : Nat) : Int) := by simp
  have e3 : IntKind.u8.wrap ((v / 2 ^ k % 2 * 2 ^ k : Nat) : Int) = ((v / 2 ^ k % 2 * 2 ^ k : Nat) : Int) := by rw [IntKind.wrap_u8']; omega
  rw [e1, e2, e3, u8_or _ _ (by omega) (by omega) (by omega) (by omega)]
  simp only [Int.toNat_natCast]
  rw [byte_in v n k hk]
/-- coinByte's byte behind k rounds, and bit k, as integers behind a name (so that the walk does not rewrite them). -/
def bt (n v k : Nat) : Int := ((2 ^ n + v % 2 ^ k : Nat) : Int)
def bv (v k : Nat) : Int := ((v / 2 ^ k % 2 : Nat) : Int)
theorem bv_lo (v k : Nat) : 0 ≤ bv v k := by unfold bv; omega
theorem bv_hi (v k : Nat) : bv v k ≤ 1 := by unfold bv; omega
theorem bt_step (n v k : Nat) (hn : n ≤ 7) (hk : k < n) : bits .or .u8 (bt n v k) (bv v k * 2 ^ k % 256) = bt n v (k + 1) := by
  have h := byte_in_go v n k hn hk
  have e : IntKind.u8.wrap ((v / 2 ^ k % 2 : Nat) : Int) = ((v / 2 ^ k % 2 : Nat) : Int) := by rw [IntKind.wrap_u8']; omega
  rw [e, IntKind.wrap_u8'] at h
  exact h
theorem bt_zero (n v : Nat) (hn : n ≤ 7) : ((2 : Int) ^ n % 256) = bt n v 0 := by
  have := pow_le n 7 hn
  have h7' : (2 : Nat) ^ 7 = 128 := by decide
  have hc : ((2 : Int) ^ n) = ((2 ^ n : Nat) : Int) := by simp
  unfold bt
  rw [hc, Nat.pow_zero, Nat.mod_one]
  generalize 2 ^ n = q at *
  omega
/-- The byte for the outcomes B 0 .. B (n - 1). -/
def byteOf (n v : Nat) : Int := ((2 ^ n + v : Nat) : Int)
theorem bt_all (n v : Nat) (hv : v < 2 ^ n) : bt n v n = byteOf n v := by
  unfold bt byteOf; rw [Nat.mod_eq_of_lt hv]
end Go.Proofs.Ybulkdkry.Coin
