/-
  nameOf (function 4), walked once.
-/
import Derived.Test.YbulkdkryDoorRows
import Derived.Test.YbulkdkryDoorShelf
import Derived.Test.YbulkdkryDoorDec
import Derived.WalkKit
import Derived.WalkSpells
import Derived.WalkLawsBesides
namespace Go.Proofs.YbulkdkryDoor.Name
open Go.RowKit


open Go.Sort in
theorem below_grow (w : World) (k : Nat) (os : Array Obj) : Below w.heap.size w (grow (w.drewN k) os) :=
  ⟨rfl, rfl, rfl, by rw [size_grow]; exact Nat.le_add_right _ _, fun j hj => heap_grow_old (w.drewN k) os hj⟩

theorem itoa_below (n : Int) (h0 : -9223372036854775808 ≤ n) (h1 : n ≤ 9223372036854775807) (w : World) (htab : Lib.TabIs Ybad.prog w tabName .u64 Lib.pow10Tab) :
    Calls Ybad.prog 6 #[.int .i64 n] w fun e w' => e = .returned (.string ⟨(Lib.itoa n).toArray⟩) ∧ Below w.heap.size w w' :=
  (itoa_any n h0 h1 w htab).mono fun e w' ⟨he, k, os, hw⟩ => ⟨he, by rw [hw]; exact below_grow w k os⟩

set_option maxHeartbeats 400000 in
theorem name_in (s : ByteArray) (b off len cap : Nat) (i : Nat) (x : ByteArray) (hi : i < len) (w : World) (hc : w.cell? ⟨b, off + i, none⟩ = some (.string x)) :
    Calls Ybad.prog 4 #[.string s, .slice (some ⟨b, off, none⟩) len cap, .int .i64 i] w fun e w' => e = .returned (.string x) ∧ w' = w := by
  have hi' : (i : Int) < (len : Int) := by omega
  have hi0 : (0 : Int) ≤ (i : Int) := by omega
  go_enter Ybad.func4, Ybad.ntmps4
  go_wp2
  go_ret
  exact ⟨rfl, rfl⟩

set_option maxHeartbeats 400000 in
theorem name_out (s : ByteArray) (a : Option Addr) (len cap : Nat) (n : Int) (hs : s.size ≤ 1048576) (h0 : -9223372036854775808 ≤ n) (h1 : n ≤ 9223372036854775807) (hout : ¬ (0 ≤ n ∧ n < (len : Int))) (w : World)
    (htab : Lib.TabIs Ybad.prog w tabName .u64 Lib.pow10Tab) :
    Calls Ybad.prog 4 #[.string s, .slice a len cap, .int .i64 n] w fun e w' => e = .returned (.string (s ++ ⟨#[40]⟩ ++ ⟨(Lib.itoa n).toArray⟩ ++ ⟨#[41]⟩)) ∧ Below w.heap.size w w' := by
  have hil := Lib.itoa_length_le n h0 h1
  by_cases hn : 0 ≤ n
  · have hl : ¬ n < (len : Int) := by omega
    clear hout
    go_enter Ybad.func4, Ybad.ntmps4
    go_wp2_with (go_at_call 6; refine (itoa_below _ h0 h1 _ htab).mono ?_; rintro e w' ⟨rfl, hb⟩)
    go_ret
    exact ⟨rfl, hb⟩
  · clear hout
    go_enter Ybad.func4, Ybad.ntmps4
    go_wp2_with (go_at_call 6; refine (itoa_below _ h0 h1 _ htab).mono ?_; rintro e w' ⟨rfl, hb⟩)
    go_ret
    exact ⟨rfl, hb⟩
end Go.Proofs.YbulkdkryDoor.Name
