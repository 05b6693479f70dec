/-
  slices.Equal at []nonceSlot (function 8), walked where the two read alike.
-/
import Derived.Test.YbulkdksmRows
import Derived.Test.YbulkdksmPlain
import Derived.Test.YbulkdksmMem
import Derived.Test.YbulkdksmInsert
import Derived.Test.YbulkdksmClone
import Derived.WalkKit
import Derived.WalkSpells
import Derived.WalkLawsBesides
import Derived.Deep.QuietTactic
import Derived.BigQuiet
namespace Go.Proofs.Ybulkdksm.Tb
open Go.RowKit

set_option maxHeartbeats 400000 in
theorem equal_nil (w : World) : Calls Yba.prog 8 #[.slice none 0 0, .slice none 0 0] w fun e w' => e = .returned (.bool true) ∧ w' = w := by
  go_enter Yba.func8, Yba.ntmps8
  go_wp2
  go_loop [13] (fun i => i = .int .i64 0) (fun _ => 0)
  case atStart => rfl
  case round =>
    subst hrel
    go_wp2
    go_ret
    exact ⟨rfl, rfl⟩

theorem RdRow.drew {w : World} {b m : Nat} {T : Nat → Slot} (h : RdRow w b m T) (n : Nat) : RdRow (w.drewN n) b m T := h

set_option maxHeartbeats 400000 in
theorem equal_row (g cap bs cap' m : Nat) (T : Nat → Slot) (w : World) (hb : m ≤ 8192) (h1 : RdRow w g m T) (h2 : RdRow w bs m T) :
    Calls Yba.prog 8 #[.slice (some ⟨g, 0, none⟩) m cap, .slice (some ⟨bs, 0, none⟩) m cap'] w fun e w' => e = .returned (.bool true) ∧ ∃ n, w' = w.drewN n := by
  have H1 : Hid (RdRow w g m T) := h1
  have H2 : Hid (RdRow w bs m T) := h2
  clear h1 h2
  go_enter Yba.func8, Yba.ntmps8
  go_wp2
  go_loopw [13] (fun i wr => ∃ j n : Nat, j ≤ m ∧ i = .int .i64 j ∧ wr = w.drewN n) (fun i _ => m - (intOf i).toNat)
  case atStart => exact ⟨0, 0, Nat.zero_le _, rfl, rfl⟩
  case round =>
    obtain ⟨j, n, hj, rfl, hw⟩ := hrel
    have HW : Hid (wr = w.drewN n) := hw
    have r1 : RdRow wr g m T := by rw [hw]; exact H1.out
    have r2 : RdRow wr bs m T := by rw [hw]; exact H2.out
    clear hw
    by_cases hlt : j < m
    · have hlt' : (j : Int) < (m : Int) := by omega
      obtain ⟨a0, a1, a2, a3⟩ := r1 j hlt
      obtain ⟨b0, b1, b2, b3⟩ := r2 j hlt
      clear r1 r2
      go_wp2
      go_quiet (fail)
      go_wp2
      go_roundw
      case rel => exact ⟨j + 1, n + nq, by omega, by go_num, by rw [HW.out]; simp [World.drewN, Nat.add_assoc]⟩
      case measure => simp [intOf]; omega
    · have hlt' : ¬ (j : Int) < (m : Int) := by omega
      go_wp2
      go_ret
      exact ⟨rfl, n, HW.out⟩
end Go.Proofs.Ybulkdksm.Tb
