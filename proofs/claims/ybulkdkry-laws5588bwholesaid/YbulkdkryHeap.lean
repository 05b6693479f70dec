/-
  HeapBytes (function 6) as a plain function; shared by the two laws over it.
-/
import Derived.Test.YbulkdkryRows
import Derived.WalkKit
import Derived.WalkSpells
namespace Go.Proofs.Ybulkdkry.Heap
open Go.RowKit

/-- Clearing the low thirteen bits of an int64 is rounding down to a multiple of 8192. -/
theorem andNot13 (x : Int) (h1 : -9223372036854775808 ≤ x) (h2 : x ≤ 9223372036854775807) :
    bits .andNot .i64 x 8191 = x - x % 8192 := by
  show IntKind.i64.wrap ((BitVec.ofInt 64 x &&& ~~~BitVec.ofInt 64 8191).toNat : Int) = _
  rw [BitVec.toNat_and, BitVec.toNat_not, BitVec.toNat_ofInt, BitVec.toNat_ofInt]
  have e : (2 ^ 64 - 1 - (8191 % ((2 : Nat) ^ 64 : Nat) : Int).toNat) = 18446744073709543424 := by decide
  have e2 : ((2 : Nat) ^ 64 : Nat) = 18446744073709551616 := by decide
  rw [e, nat_hi64_13, IntKind.wrap_i64, e2]
  omega

/-- What HeapBytes answers past 32768. -/
def up (n : Int) : Int := if n ≤ 32768 then n else wrap64 (wrap64 (n + 8192) - 1) - wrap64 (wrap64 (n + 8192) - 1) % 8192

theorem wrap64_lo (n : Int) : -9223372036854775808 ≤ wrap64 n := by unfold wrap64; omega
theorem wrap64_hi (n : Int) : wrap64 n ≤ 9223372036854775807 := by unfold wrap64; omega

theorem ret_int {k : IntKind} {a b : Int} (h : a = b) : Ending.returned (.int k a) = .returned (.int k b) := by rw [h]

set_option maxHeartbeats 400000 in
theorem heap (n : Int) (w : World) :
    Calls Yba.prog 6 #[.int .i64 n] w fun e w' => e = .returned (.int .i64 (up n)) ∧ w' = w := by
  by_cases h : n ≤ 32768
  · go_enter Yba.func6, Yba.ntmps6
    go_wp2
    go_ret
    exact ⟨ret_int (by rw [up, if_pos h]), rfl⟩
  · go_enter Yba.func6, Yba.ntmps6
    go_wp2
    go_ret
    exact ⟨ret_int (by rw [up, if_neg (by omega), andNot13 _ (wrap64_lo _) (wrap64_hi _)]), rfl⟩

/-- The law's model (function 7) as a plain function. -/
def model (n : Int) : Int := if n ≤ 32768 then n else if n % 8192 = 0 then n else wrap64 (n + (8192 - n % 8192))

set_option maxHeartbeats 400000 in
theorem modelled (n : Int) (hn : n ≤ 9223372036854775807) (w : World) :
    Calls Yba.prog 7 #[.int .i64 n] w fun e w' => e = .returned (.int .i64 (model n)) ∧ w' = w := by
  by_cases h : n ≤ 32768
  · go_enter Yba.func7, Yba.ntmps7
    go_wp2
    go_ret
    exact ⟨ret_int (by rw [model, if_pos h]), rfl⟩
  · have h' : 32768 < n := by omega
    by_cases h0 : n % 8192 = 0
    · go_enter Yba.func7, Yba.ntmps7
      go_wp2
      go_ret
      exact ⟨ret_int (by rw [model, if_neg (by omega), if_pos h0]), rfl⟩
    · go_enter Yba.func7, Yba.ntmps7
      go_wp2
      go_ret
      exact ⟨ret_int (by rw [model, if_neg (by omega), if_neg h0]), rfl⟩

theorem up_model (n : Int) (h2 : n ≤ 9223372036854775807) : up n = model n := by
  unfold up model wrap64
  split
  · rfl
  · split <;> omega

/-- On sizes that do not wrap, the answer past 32768 is the least multiple of 8192 that is no less than the size. -/
theorem up_window (n : Int) (h : ¬ n ≤ 32768) (h2 : n ≤ 1048575) : n ≤ up n ∧ up n - n < 8192 ∧ up n % 8192 = 0 := by
  unfold up wrap64
  rw [if_neg h]
  omega
theorem up_small (n : Int) (h : n ≤ 32768) : up n = n := by unfold up; rw [if_pos h]
end Go.Proofs.Ybulkdkry.Heap
