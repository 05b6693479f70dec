/-
  parseCount (function 4), walked.
-/
import Derived.Test.YbulkdktoRows
import Derived.Test.YbulkdktoPlain
import Derived.WalkKit
import Derived.WalkSpells
import Derived.WalkLawsBesides
namespace Go.Proofs.Ybulkdkto.Ct
open Go.RowKit

theorem ret_pair {a b : Int} {x y : Bool} (h1 : a = b) (h2 : x = y) : Ending.returned (.tuple #[.int .i64 a, .bool x]) = .returned (.tuple #[.int .i64 b, .bool y]) := by rw [h1, h2]

set_option maxHeartbeats 400000 in
theorem parse_any (s : ByteArray) (hs : s.size ≤ 1048576) (w : World) :
    Calls Yba.prog 4 #[.string s] w fun e w' => e = .returned (.tuple #[.int .i64 (num s), .bool (ok s)]) ∧ w' = w := by
  by_cases h0 : s.size = 0
  · have e : s = ⟨#[]⟩ := by
      obtain ⟨⟨l⟩⟩ := s
      have : l = [] := List.eq_nil_of_length_eq_zero (by simpa [ByteArray.size] using h0)
      rw [this]
    subst e
    go_enter Yba.func4, Yba.ntmps4
    go_wp2
    go_ret2
    exact ⟨rfl, rfl⟩
  · have h0' : s.toList.isEmpty = false := by
      rw [ByteArray.toList_eq, List.isEmpty_eq_false_iff]
      intro e
      have : s.data.toList.length = 0 := by rw [e]; rfl
      have e2 : s.data.toList.length = s.size := by simp
      omega
    go_enter Yba.func4, Yba.ntmps4
    go_wp2
    go_loop [4, 10] (fun n i => ∃ k : Nat, k ≤ s.size ∧ i = .int .i64 k ∧ n = .int .i64 (rn s k) ∧ Hid (Upto s k)) (fun _ i => s.size - (intOf i).toNat)
    case atStart => exact ⟨0, Nat.zero_le _, rfl, by rw [rn_zero], fun _ _ h => by omega⟩
    case round =>
      obtain ⟨k, hk, rfl, rfl, hU⟩ := hrel
      have hlo := rn_lo s k
      have hhi := rn_hi hU.out
      by_cases hlt : k < s.size
      · have hlt' : (k : Int) < (s.size : Int) := by omega
        have hcb : (s[k].toNat : Int) ≤ 255 := by have := s[k].toNat_lt; omega
        by_cases h1 : (s[k].toNat : Int) < 48
        · have hb : ok s = false := ok_bad hlt (by unfold good; simp; omega)
          have HB : Hid (ok s = false) := hb
          clear hb
          go_wp2
          go_ret2
          exact ⟨ret_pair (num_bad HB.out).symm HB.out.symm, rfl⟩
        · by_cases h2 : (57 : Int) < (s[k].toNat : Int)
          · have hb : ok s = false := ok_bad hlt (by unfold good; simp; omega)
            have HB : Hid (ok s = false) := hb
            clear hb
            go_wp2
            go_ret2
            exact ⟨ret_pair (num_bad HB.out).symm HB.out.symm, rfl⟩
          · have hg : good s[k] = true := (good_iff _).2 ⟨by omega, by omega⟩
            have HG : Hid (good s[k] = true) := hg
            clear hg
            by_cases h3 : rn s k ≤ 64
            · have HE : Hid (rn s k * 10 + ((s[k].toNat : Int) - 48) = rn s (k + 1)) := rn_small hlt HG.out h3
              go_wp2
              go_round
              case rel => exact ⟨k + 1, by omega, by go_num, by rw [HE.out], hU.out.step hlt HG.out⟩
              case measure => simp [intOf]; omega
            · have HE : Hid (rn s k = rn s (k + 1)) := rn_big hlt h3
              go_wp2
              go_round
              case rel => exact ⟨k + 1, by omega, by go_num, by rw [← HE.out], hU.out.step hlt HG.out⟩
              case measure => simp [intOf]; omega
      · have hlt' : ¬ (k : Int) < (s.size : Int) := by omega
        have hU2 : Upto s s.size := fun j hj _ => hU.out j hj (by omega)
        have HU : Hid (Upto s s.size) := hU2
        have HK : Hid (k = s.size) := by show k = s.size; omega
        clear hU2
        go_wp2
        go_ret2
        exact ⟨ret_pair (by rw [HK.out]; exact num_all (by omega) HU.out) (ok_all (by omega) HU.out).symm, rfl⟩
end Go.Proofs.Ybulkdkto.Ct
