/-
  find (function 7), walked.
-/
import Derived.Test.YbulkdksmRows
import Derived.Test.YbulkdksmPlain
import Derived.Test.YbulkdksmMem
import Derived.Test.YbulkdksmInsert
import Derived.WalkKit
import Derived.WalkSpells
import Derived.WalkLawsBesides
import Derived.Deep.LoopGhost
namespace Go.Proofs.Ybulkdksm.Tb
open Go.RowKit

set_option maxHeartbeats 400000 in
theorem find_none (bt : Nat) (v : Value) (q : Int) (w : World) (hh : Hdr w bt v 0) :
    Calls Yba.prog 7 #[.pointer (some ⟨bt, 0, none⟩), .int .u64 q] w fun e w' => e = .returned (.tuple #[.int .i64 0, .bool false]) ∧ w' = w := by
  obtain ⟨_, c1, _, _⟩ := hh.cells
  clear hh
  go_enter Yba.func7, Yba.ntmps7
  go_wp2
  go_ret2
  exact ⟨rfl, rfl⟩

/-- Where the probe for q ends. -/
structure Stop (m : Nat) (T : Nat → Slot) (q D : Nat) : Prop where
  lt : D < m
  before : ∀ d, d < D → (T ((q + d) % m)).key ≠ 0 ∧ (T ((q + d) % m)).key ≠ q
  at_end : (T ((q + D) % m)).key = 0 ∨ (T ((q + D) % m)).key = q

set_option maxHeartbeats 1000000 in
theorem find_stop (bt bs m n q : Nat) (T : Nat → Slot) (D : Nat) (w : World) (hT : TabOk w bt n m bs T) (hn : 0 < n) (hq : q < 18446744073709551616) (hs : Stop m T q D) :
    Calls Yba.prog 7 #[.pointer (some ⟨bt, 0, none⟩), .int .u64 q] w fun e w' =>
      ((T ((q + D) % m)).key = q → e = .returned (.tuple #[.int .i64 (((q + D) % m : Nat) : Int), .bool true])) ∧ ((T ((q + D) % m)).key ≠ q → e = .returned (.tuple #[.int .i64 0, .bool false])) ∧ w' = w := by
  have hm : 0 < m := by have := hs.lt; omega
  obtain ⟨hm16, hp⟩ := hT.pow.resolve_left (by omega)
  have hhd : Hdr w bt (.slice (some ⟨bs, 0, none⟩) m m) n := by rw [← slv_pos bs hm]; exact hT.hdr
  obtain ⟨c0, c1, _, _⟩ := hhd.cells
  have hbig := hT.big
  have hn0 : ((n : Int) == 0) = false := by simp; omega
  have HR : Hid (Row w bs m T) := hT.row hm
  have HS : Hid (Stop m T q D) := hs
  have HP : Hid (Pow m) := hp
  have HHome : Hid (bits .and .i64 (wrap64 (q : Int)) ((m : Int) - 1) = (((q + 0) % m : Nat) : Int)) := hp.home q hq
  clear hT hs hp hhd
  go_enter Yba.func7, Yba.ntmps7
  go_wp2
  go_loopg [7] D (fun g i wr => ∃ d j : Nat, Hid (d + g = D) ∧ Hid (j = (q + d) % m) ∧ j < m ∧ i = .int .i64 j ∧ wr = w)
  case atStart => exact ⟨0, (q + 0) % m, show 0 + D = D by omega, rfl, Nat.mod_lt _ hm, by rw [HHome.out], rfl⟩
  case round =>
    obtain ⟨d, j, hd, hj, hjm, rfl, rfl⟩ := hrel
    have hjm' : (j : Int) < (m : Int) := by omega
    have hc := (HR.out.cells j hjm).1
    have hd' := hd.out
    by_cases hkq : (T j).key = q
    · have hdD : d = D := by
        rcases Nat.lt_or_ge d D with h | h
        · exact absurd (by rw [← hj.out]; exact hkq) (HS.out.before d h).2
        · omega
      have ej : (q + D) % m = j := by rw [hj.out, hdD]
      have EJ : Hid ((q + D) % m = j) := ej
      have HK : Hid ((T j).key = q) := hkq
      have hkq' : (((T j).key : Int) == (q : Int)) = true := by simp; omega
      clear ej hdD hkq hd'
      go_wp2
      go_ret2
      rw [EJ.out]
      exact ⟨fun _ => rfl, fun h => absurd HK.out h, rfl⟩
    · have hkq' : (((T j).key : Int) == (q : Int)) = false := by simp; omega
      by_cases hz : (T j).key = 0
      · have hdD : d = D := by
          rcases Nat.lt_or_ge d D with h | h
          · exact absurd (by rw [← hj.out]; exact hz) (HS.out.before d h).1
          · omega
        have ej : (q + D) % m = j := by rw [hj.out, hdD]
        have EJ : Hid ((q + D) % m = j) := ej
        have HK : Hid (¬ (T j).key = q) := hkq
        have hz' : (((T j).key : Int) == 0) = true := by simp; omega
        clear ej hdD hkq hd' hz
        go_wp2
        go_ret2
        rw [EJ.out]
        exact ⟨fun h => absurd h HK.out, fun _ => rfl, rfl⟩
      · have hz' : (((T j).key : Int) == 0) = false := by simp; omega
        have hlt : d < D := by
          rcases Nat.lt_or_ge d D with h | h
          · exact h
          · have := HS.out.at_end
            rw [show D = d by omega, ← hj.out] at this
            exact absurd this (fun h => h.elim hz hkq)
        have HN : Hid (bits .and .i64 ((j : Int) + 1) ((m : Int) - 1) = (((j + 1) % m : Nat) : Int)) := HP.out.next j
        go_wp2
        go_roundg (D - (d + 1))
        case measure => omega
        case rel => exact ⟨d + 1, (j + 1) % m, show d + 1 + (D - (d + 1)) = D by omega, show (j + 1) % m = (q + (d + 1)) % m by rw [hj.out, mod_step], Nat.mod_lt _ hm, by rw [HN.out], rfl⟩

/-- What find answers: the first slot of that key, or that there is none. -/
def Answer (m : Nat) (T : Nat → Slot) (q ri : Nat) (rok : Bool) : Prop :=
  (rok = true ∧ ri < m ∧ (T ri).key = q ∧ ∀ j, j < ri → (T j).key ≠ q) ∨ (rok = false ∧ ri = 0 ∧ q ≠ 0 ∧ ¬ Has m T q)

theorem find_any (bt bs m n q : Nat) (T : Nat → Slot) (w : World) (hT : TabOk w bt n m bs T) (hn : 0 < n) (hq : q < 18446744073709551616) :
    Calls Yba.prog 7 #[.pointer (some ⟨bt, 0, none⟩), .int .u64 q] w fun e w' =>
      ∃ (ri : Nat) (rok : Bool), e = .returned (.tuple #[.int .i64 (ri : Int), .bool rok]) ∧ Answer m T q ri rok ∧ w' = w := by
  have hload := hT.load
  have hm : 0 < m := by omega
  by_cases h0 : q = 0
  · subst h0
    obtain ⟨D, hD⟩ := free_of (T := T) (m := m) (by rw [hT.cnt]; omega) 0
    have e0 : ∀ d, d < m → (0 + d) % m = d := fun d hd => by rw [Nat.zero_add]; exact Nat.mod_eq_of_lt hd
    refine (find_stop bt bs m n 0 T D w hT hn hq ⟨hD.lt, fun d hd => ⟨hD.before d hd, hD.before d hd⟩, .inl hD.empty⟩).mono fun e w' ⟨h1, _, h3⟩ => ?_
    refine ⟨_, true, h1 hD.empty, .inl ⟨rfl, Nat.mod_lt _ hm, hD.empty, fun j hj => ?_⟩, h3⟩
    rw [e0 D hD.lt] at hj
    have := hD.before j hj
    rw [e0 j (by have := hD.lt; omega)] at this
    exact this
  · by_cases hin : Has m T q
    · obtain ⟨i, hi, e⟩ := hin
      obtain ⟨D, h1, h2, h3⟩ := hT.wf.hit h0 hi e
      have hend : (T ((q + D) % m)).key = q := by rw [h2]; exact e
      refine (find_stop bt bs m n q T D w hT hn hq ⟨h1, h3, .inr hend⟩).mono fun en w' ⟨g1, _, g3⟩ => ?_
      refine ⟨_, true, g1 hend, .inl ⟨rfl, Nat.mod_lt _ hm, hend, fun j hj hc => ?_⟩, g3⟩
      have hj2 : (q + D) % m < m := Nat.mod_lt _ hm
      have := hT.wf.one j ((q + D) % m) (by omega) hj2 (hc.trans hend.symm) (by rw [hc]; exact h0)
      omega
    · obtain ⟨D, hD⟩ := free_of (T := T) (m := m) (by rw [hT.cnt]; omega) q
      refine (find_stop bt bs m n q T D w hT hn hq ⟨hD.lt, fun d hd => ⟨hD.before d hd, fun e => hin ⟨_, Nat.mod_lt _ hm, e⟩⟩, .inl hD.empty⟩).mono fun e w' ⟨_, h2, h3⟩ => ?_
      exact ⟨0, false, h2 (fun e => hin ⟨_, Nat.mod_lt _ hm, e⟩), .inr ⟨rfl, rfl, h0, hin⟩, h3⟩
end Go.Proofs.Ybulkdksm.Tb
