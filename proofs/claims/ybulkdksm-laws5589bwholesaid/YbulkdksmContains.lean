/-
  slices.Contains and slices.Index at []uint64 (functions 4, 9), walked.
-/
import Derived.Test.YbulkdksmRows
import Derived.WalkKit
import Derived.WalkSpells
import Derived.WalkLawsBesides
namespace Go.Proofs.Ybulkdksm.Tb
open Go.RowKit

/-- The slice value v reads as the keys xs. -/
def Reads (w : World) (v : Value) (xs : List Nat) : Prop :=
  (v = .slice none 0 0 ∧ xs = []) ∨ ∃ g cap, v = .slice (some ⟨g, 0, none⟩) xs.length cap ∧ ∀ i, i < xs.length → w.cell? ⟨g, i, none⟩ = some (.int .u64 (xs.getD i 0))

set_option maxHeartbeats 400000 in
theorem index_nil (k : Nat) (w : World) : Calls Yba.prog 9 #[.slice none 0 0, .int .u64 k] w fun e w' => e = .returned (.int .i64 (-1)) ∧ w' = w := by
  go_enter Yba.func9, Yba.ntmps9
  go_wp2
  go_loop [8] (fun i => i = .int .i64 0) (fun _ => 0)
  case atStart => rfl
  case round =>
    subst hrel
    go_wp2
    go_ret
    exact ⟨rfl, rfl⟩

set_option maxHeartbeats 400000 in
theorem index_row (g cap k : Nat) (xs : List Nat) (w : World) (hl : xs.length ≤ 2048) (hc : ∀ i, i < xs.length → w.cell? ⟨g, i, none⟩ = some (.int .u64 (xs.getD i 0))) :
    Calls Yba.prog 9 #[.slice (some ⟨g, 0, none⟩) xs.length cap, .int .u64 k] w fun e w' =>
      (∃ r : Int, e = .returned (.int .i64 r) ∧ ((k ∈ xs ∧ 0 ≤ r) ∨ (k ∉ xs ∧ r = -1))) ∧ w' = w := by
  have HC : Hid (∀ i, i < xs.length → w.cell? ⟨g, i, none⟩ = some (.int .u64 (xs.getD i 0))) := hc
  obtain ⟨len, hlen⟩ : ∃ len, len = xs.length := ⟨_, rfl⟩
  have HL : Hid (len = xs.length) := hlen
  rw [← hlen] at hl ⊢
  clear hc hlen
  go_enter Yba.func9, Yba.ntmps9
  go_wp2
  go_loop [8] (fun i => ∃ j : Nat, j ≤ len ∧ i = .int .i64 j ∧ Hid (∀ j', j' < j → xs.getD j' 0 ≠ k)) (fun i => len - (intOf i).toNat)
  case atStart => exact ⟨0, Nat.zero_le _, rfl, fun j' h => by omega⟩
  case round =>
    obtain ⟨j, hj, rfl, hb⟩ := hrel
    by_cases hlt : j < len
    · have hlt' : (j : Int) < (len : Int) := by omega
      have hcj := HC.out j (by rw [← HL.out]; exact hlt)
      obtain ⟨y, hy⟩ : ∃ y, y = xs.getD j 0 := ⟨_, rfl⟩
      have HY : Hid (y = xs.getD j 0) := hy
      rw [← hy] at hcj
      clear hy
      by_cases e : k = y
      · have e' : ((k : Int) == (y : Int)) = true := by simp; omega
        have E : Hid (k = y) := e
        clear e
        go_wp2
        go_ret
        refine ⟨⟨_, rfl, .inl ⟨?_, by omega⟩⟩, rfl⟩
        rw [E.out, HY.out]
        have h : j < xs.length := by rw [← HL.out]; exact hlt
        simp [h]
      · have e' : ((k : Int) == (y : Int)) = false := by simp; omega
        go_wp2
        go_round
        case rel =>
          refine ⟨j + 1, by omega, by go_num, fun j' hj' => ?_⟩
          by_cases ej : j' = j
          · subst ej; rw [← HY.out]; exact fun h => e h.symm
          · exact hb.out j' (by omega)
        case measure => simp [intOf]; omega
    · have hlt' : ¬ (j : Int) < (len : Int) := by omega
      go_wp2
      go_ret
      refine ⟨⟨_, rfl, .inr ⟨fun hm => ?_, rfl⟩⟩, rfl⟩
      obtain ⟨i, hi, e⟩ := List.mem_iff_getElem.1 hm
      exact hb.out i (by have := HL.out; omega) (by simp [hi, e])

/-- slices.Contains answers whether the key is there; the world is as it was. -/
theorem contains_any (v : Value) (xs : List Nat) (k : Nat) (w : World) (hl : xs.length ≤ 2048) (h : Reads w v xs) :
    Calls Yba.prog 4 #[v, .int .u64 k] w fun e w' => e = .returned (.bool (decide (k ∈ xs))) ∧ w' = w := by
  rcases h with ⟨rfl, rfl⟩ | ⟨g, cap, rfl, hc⟩
  · go_enter Yba.func4, Yba.ntmps4
    go_wp2_with (first
      | (go_at_call 9
         refine (index_nil k _).mono ?_
         rintro e w' ⟨rfl, rfl⟩))
    go_ret
    exact ⟨rfl, rfl⟩
  · have HI := index_row g cap k xs w hl hc
    have H : Hid (Calls Yba.prog 9 #[.slice (some ⟨g, 0, none⟩) xs.length cap, .int .u64 k] w fun e w' =>
      (∃ r : Int, e = .returned (.int .i64 r) ∧ ((k ∈ xs ∧ 0 ≤ r) ∨ (k ∉ xs ∧ r = -1))) ∧ w' = w) := HI
    clear HI hc
    by_cases hm : k ∈ xs
    · have HM : Hid (k ∈ xs) := hm
      have hd : decide (k ∈ xs) = true := decide_eq_true hm
      rw [hd]
      clear hm hd
      go_enter Yba.func4, Yba.ntmps4
      go_wp2_with (first
        | (go_at_call 9
           refine (H.out).mono ?_
           rintro e w' ⟨⟨r, rfl, hr⟩, rfl⟩
           have hr' : 0 ≤ r := hr.elim (fun h => h.2) (fun h => absurd HM.out h.1)
           clear hr))
      go_ret
      exact ⟨rfl, rfl⟩
    · have HM : Hid (k ∉ xs) := hm
      have hd : decide (k ∈ xs) = false := decide_eq_false hm
      rw [hd]
      clear hm hd
      go_enter Yba.func4, Yba.ntmps4
      go_wp2_with (first
        | (go_at_call 9
           refine (H.out).mono ?_
           rintro e w' ⟨⟨r, rfl, hr⟩, rfl⟩
           have hr' : r = -1 := hr.elim (fun h => absurd h.1 HM.out) (fun h => h.2)
           clear hr
           subst hr'))
      go_ret
      exact ⟨rfl, rfl⟩
end Go.Proofs.Ybulkdksm.Tb
