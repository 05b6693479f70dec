/-
  The small functions: the keys (14), the version's number (24), 'committed' (23, 26).
-/
import Derived.Test.YbulkdkucData
namespace Go.Proofs.Ybulkdkuc.Sc
open Go.RowKit Go.Maps

theorem bt {a b : Nat} (h : a = b) : ((a : Int) == (b : Int)) = true := by subst h; simp
theorem bf {a b : Nat} (h : a ≠ b) : ((a : Int) == (b : Int)) = false := by
  have : (a : Int) ≠ (b : Int) := by omega
  simpa using this

set_option maxHeartbeats 400000 in
theorem keys_walk (w : World) : Calls Yba.prog 14 #[] w fun e w' => e = .returned (.agg #[.string (kn 0), .string (kn 1), .string (kn 2)]) ∧ Below w.heap.size w w' := by
  go_enter Yba.func14, Yba.ntmps14
  go_wp2
  refine bodyPost_ret (v := .agg #[.string (kn 0), .string (kn 1), .string (kn 2)]) (by simp [results, Yba.results14, go_sem]; exact ⟨rfl, rfl, rfl⟩) rfl ⟨rfl, ?_⟩
  exact (Below.refl _ _).alloc (Nat.le_refl _) _

set_option maxHeartbeats 400000 in
theorem ver_walk (A : Option Addr) (C f : Nat) (ws : List Nat) (w : World) (hl : ws.length ≤ 100000) (hI : IntsAt w A ws) :
    Calls Yba.prog 24 #[.slice A ws.length C, .int .i64 (f : Int)] w fun e w' => e = .returned (.int .i64 (ver ws f : Nat)) ∧ w' = w := by
  have HI : Hid (IntsAt w A ws) := hI
  clear hI
  obtain ⟨L, hL⟩ : ∃ L, L = ws.length := ⟨_, rfl⟩
  rw [← hL]
  rw [← hL] at hl
  have HL : Hid (L = ws.length) := hL
  clear hL
  go_enter Yba.func24, Yba.ntmps24
  go_wp2
  go_loop [9] (fun i => ∃ j : Nat, j ≤ L ∧ i = .int .i64 j ∧ Hid (∀ m, m < j → ws.getD m 0 ≠ f)) (fun i => L - (intOf i).toNat)
  case atStart => exact ⟨0, Nat.zero_le _, rfl, fun m hm => absurd hm (Nat.not_lt_zero m)⟩
  case round =>
    obtain ⟨j, hj, rfl, hn⟩ := hrel
    by_cases hlt : j < L
    · obtain ⟨g, rfl, hc⟩ := HI.out j (by rw [← HL.out]; exact hlt)
      obtain ⟨y, hy⟩ : ∃ y, y = ws.getD j 0 := ⟨_, rfl⟩
      rw [← hy] at hc
      have HY : Hid (y = ws.getD j 0) := hy
      clear hy
      have hlt' : (j : Int) < (L : Int) := by omega
      by_cases he : y = f
      · have hb : ((y : Int) == (f : Int)) = true := bt he
        go_wp2
        go_ret
        refine ⟨?_, rfl⟩
        rw [ver_hit (i := j) (by rw [← HL.out]; exact hlt) (by rw [← HY.out]; exact he) hn.out]
        rfl
      · have hb : ((y : Int) == (f : Int)) = false := bf he
        go_wp2
        go_round
        case rel => exact ⟨j + 1, by omega, by go_num, fun m hm => by
          rcases Nat.lt_or_ge m j with h | h
          · exact hn.out m h
          · rw [show m = j by omega, ← HY.out]; exact he⟩
        case measure => simp [intOf]; omega
    · have hlt' : ¬ (j : Int) < (L : Int) := by omega
      go_wp2
      go_ret
      refine ⟨?_, rfl⟩
      rw [ver_miss (fun m hm => hn.out m (by rw [← HL.out] at hm; omega))]
      rfl

set_option maxHeartbeats 400000 in
theorem committed_walk (A : Option Addr) (C be ne t : Nat) (S : Sch) (w : World) (ht : t ≤ 1000) (hg : ∀ t e, S.en t = some e → e < S.n) (hO : OpsAt w A S.n S.O) (hE : IMap w be ne S.en) :
    Calls Yba.prog 23 #[.slice A S.n C, .map (some be), .int .i64 (t : Int)] w fun e w' => e = .returned (.bool (com S t)) ∧ w' = w := by
  have hrun := hE.run_ok ht
  clear hE
  cases he : S.en t with
  | none =>
    have hc : com S t = false := by unfold com; rw [he]
    rw [hc]
    have e1 : gd S.en t = 0 := by unfold gd; rw [he]; rfl
    rw [he, e1] at hrun
    clear hO hg he e1 hc
    simp only [Option.isSome_none] at hrun
    go_enter Yba.func23, Yba.ntmps23
    go_wp2
    go_ret
    exact ⟨rfl, rfl⟩
  | some e =>
    have hlt := hg t e he
    obtain ⟨g, rfl, hcell, _⟩ := hO e hlt
    have e1 : gd S.en t = e := by unfold gd; rw [he]; rfl
    obtain ⟨kd, hkd⟩ : ∃ kd, kd = (S.O e).kind := ⟨_, rfl⟩
    rw [← hkd] at hcell
    have hc : com S t = ((kd : Int) == 3) := by
      unfold com; rw [he]
      show ((S.O e).kind == 3) = _
      rw [← hkd]
      by_cases h : kd = 3
      · subst h; rfl
      · rw [show (kd == 3) = false by simpa using h, show ((kd : Int) == 3) = false by simp; omega]
    rw [hc]
    rw [he, e1] at hrun
    simp only [Option.isSome_some] at hrun
    obtain ⟨N, hN⟩ : ∃ N, N = S.n := ⟨_, rfl⟩
    rw [← hN] at hlt ⊢
    clear hO hg he e1 hc hkd hN
    have hlt' : (e : Int) < (N : Int) := by omega
    go_enter Yba.func23, Yba.ntmps23
    go_wp2
    go_ret
    exact ⟨rfl, rfl⟩

/-- The schedule's own cells. -/
def SAt (w : World) (bS : Nat) (A : Option Addr) (n C bv bs be : Nat) : Prop :=
  w.cell? ⟨bS, 0, none⟩ = some (.slice A n C) ∧ w.cell? ⟨bS, 1, none⟩ = some (.map (some bv)) ∧ w.cell? ⟨bS, 2, none⟩ = some (.map (some bs)) ∧ w.cell? ⟨bS, 3, none⟩ = some (.map (some be))
theorem SAt.below {w w' : World} {bS : Nat} {A : Option Addr} {n C bv bs be : Nat} (h : SAt w bS A n C bv bs be) (hk : Below w.heap.size w w') : SAt w' bS A n C bv bs be :=
  ⟨(hk.cell (lt_of_cell h.1)).trans h.1, (hk.cell (lt_of_cell h.1)).trans h.2.1, (hk.cell (lt_of_cell h.1)).trans h.2.2.1, (hk.cell (lt_of_cell h.1)).trans h.2.2.2⟩

set_option maxHeartbeats 400000 in
theorem Committed_walk (bS : Nat) (A : Option Addr) (C bv bs be ne t : Nat) (S : Sch) (w : World) (ht : t ≤ 1000) (hg : ∀ t e, S.en t = some e → e < S.n) (hS : SAt w bS A S.n C bv bs be) (hO : OpsAt w A S.n S.O) (hE : IMap w be ne S.en) :
    Calls Yba.prog 26 #[.pointer (some ⟨bS, 0, none⟩), .int .i64 (t : Int)] w fun e w' => e = .returned (.bool (com S t)) ∧ w' = w := by
  have hrun := hE.run_ok ht
  clear hE
  obtain ⟨s0, _, _, s3⟩ := hS
  cases he : S.en t with
  | none =>
    have hc : com S t = false := by unfold com; rw [he]
    rw [hc]
    have e1 : gd S.en t = 0 := by unfold gd; rw [he]; rfl
    rw [he, e1] at hrun
    clear hO hg he e1 hc s0
    simp only [Option.isSome_none] at hrun
    go_enter Yba.func26, Yba.ntmps26
    go_wp2
    go_ret
    exact ⟨rfl, rfl⟩
  | some e =>
    have hlt := hg t e he
    obtain ⟨g, rfl, hcell, _⟩ := hO e hlt
    have e1 : gd S.en t = e := by unfold gd; rw [he]; rfl
    obtain ⟨kd, hkd⟩ : ∃ kd, kd = (S.O e).kind := ⟨_, rfl⟩
    rw [← hkd] at hcell
    have hc : com S t = ((kd : Int) == 3) := by
      unfold com; rw [he]
      show ((S.O e).kind == 3) = _
      rw [← hkd]
      by_cases h : kd = 3
      · subst h; rfl
      · rw [show (kd == 3) = false by simpa using h, show ((kd : Int) == 3) = false by simp; omega]
    rw [hc]
    rw [he, e1] at hrun
    simp only [Option.isSome_some] at hrun
    obtain ⟨N, hN⟩ : ∃ N, N = S.n := ⟨_, rfl⟩
    rw [← hN] at hlt s0
    clear hO hg he e1 hc hkd hN
    have hlt' : (e : Int) < (N : Int) := by omega
    go_enter Yba.func26, Yba.ntmps26
    go_wp2
    go_ret
    exact ⟨rfl, rfl⟩
end Go.Proofs.Ybulkdkuc.Sc
