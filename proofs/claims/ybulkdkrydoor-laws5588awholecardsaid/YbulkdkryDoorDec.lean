/-
  zzs5588adec (function 5): the numeral written by hand is the library's own ('Lib.itoa').
-/
import Derived.Test.YbulkdkryDoorRows
import Derived.Test.YbulkdkryDoorShelf
import Derived.Lib.ItoaMem
import Derived.Lib.ItoaLen
import Derived.WalkKit
import Derived.WalkSpells
import Derived.WalkLawsBesides
namespace Go.Proofs.YbulkdkryDoor.Dec
open Go.RowKit

/-- The quotient behind k rounds, behind a name. -/
def q (U k : Nat) : Int := ((U / 10 ^ k : Nat) : Int)
theorem q_lo (U k : Nat) : 0 ≤ q U k := Int.natCast_nonneg _
theorem q_hi (U k : Nat) (h : U < 18446744073709551616) : q U k ≤ 18446744073709551615 := by
  unfold q
  have := Nat.div_le_self U (10 ^ k)
  omega
theorem q_zero (U : Nat) : (U : Int) = q U 0 := by unfold q; simp
theorem q_succ (U k : Nat) : q U k / 10 = q U (k + 1) := by
  unfold q
  rw [Nat.pow_succ, ← Nat.div_div_eq_div_mul]
  omega

/-- What the row of bytes holds behind k rounds: the last k digits, the last one last. -/
structure DigOk (w : World) (U k : Nat) (wr : World) : Prop where
  dig : ∀ j, j < k → wr.cell? ⟨w.heap.size, 23 - j, none⟩ = some (.int .u8 ((Lib.dg U j).toNat : Int))
  row : ∀ i, i < 24 → ∃ z, wr.cell? ⟨w.heap.size, i, none⟩ = some (.int .u8 z)
  free : ∀ i, wr.frozen? ⟨w.heap.size, i, none⟩ = false
  below : Below w.heap.size w wr

theorem dg_val (U k : Nat) : ((Lib.dg U k).toNat : Int) = 48 + q U k % 10 := by
  unfold Lib.dg q
  simp only [UInt8.toNat_ofNat']
  omega

theorem digOk_zero (w : World) (U : Nat) : DigOk w U 0 (w.alloc (.cells Lib.zeros24 28)) where
  dig := fun j h => by omega
  row := fun i h => ⟨0, by rw [World.cell?_alloc_new, Lib.zeros24_at i h]⟩
  free := fun i => World.frozen?_alloc_new _ _ _ _
  below := (Below.refl _ _).alloc (Nat.le_refl _) _

theorem DigOk.step {w wr : World} {U k r : Nat} (h : DigOk w U k wr) (hr : r + k = 23) {z : Int} (hz : z = 48 + q U k % 10) :
    DigOk w U (k + 1) (wr.setCell ⟨w.heap.size, r, none⟩ (.int .u8 z)) where
  dig := fun j hj => by
    by_cases e : j = k
    · subst e
      rw [show 23 - j = r by omega, dg_val, ← hz]
      obtain ⟨z0, h0⟩ := h.row r (by omega)
      exact World.cell?_setCell_same _ _ _ h0
    · rw [World.cell?_setCell_other _ _ _ _ (by simp; try omega)]
      exact h.dig j (by omega)
  row := fun i hi => by
    by_cases e : i = r
    · subst e
      obtain ⟨z0, h0⟩ := h.row i hi
      exact ⟨z, World.cell?_setCell_same _ _ _ h0⟩
    · obtain ⟨z0, h0⟩ := h.row i hi
      exact ⟨z0, by rw [World.cell?_setCell_other _ _ _ _ (by simp; try omega)]; exact h0⟩
  free := fun i => by rw [World.frozen?_setCell]; exact h.free i
  below := h.below.setCell (Nat.le_refl _) _

/-- The round with k digits written is reached: the first one always, a later one where a digit is left. -/
def Reach (U k : Nat) : Prop := k = 0 ∨ 10 ^ k ≤ U
theorem reach_lt {U k : Nat} (hu : U < 18446744073709551616) (h : Reach U k) : k < 20 := by
  rcases Nat.lt_or_ge k 20 with h' | h'
  · exact h'
  · rcases h with h | h
    · omega
    · have := Nat.pow_le_pow_right (n := 10) (by omega) h'
      have e : 10 ^ 20 = 100000000000000000000 := by decide
      omega
theorem q_eq_zero {U k : Nat} (h : q U k = 0) : U < 10 ^ k := by
  unfold q at h
  have h' : U / 10 ^ k = 0 := by omega
  exact (Nat.div_eq_zero_iff_lt (Nat.pos_of_neZero _)).1 h'
theorem reach_more {U k : Nat} (h : ¬ q U k = 0) : Reach U k := by
  right
  rcases Nat.lt_or_ge U (10 ^ k) with h' | h'
  · exact absurd (by unfold q; rw [Nat.div_eq_of_lt h']; rfl) h
  · exact h'
theorem reach_last {U k : Nat} (h : Reach U k) (h0 : q U (k + 1) = 0) : Lib.nDigits U = k + 1 := by
  have hl := q_eq_zero h0
  rcases h with rfl | h
  · exact Lib.nDigits_small (by simpa using hl)
  · exact Lib.nDigits_unique k U h hl

/-- Behind the last round the row from r on reads as the numeral. -/
theorem DigOk.numeral {w wr : World} {U k r : Nat} (h : DigOk w U (k + 1) wr) (hr : r + k = 23) (hd : Lib.nDigits U = k + 1) (j : Nat) (hj : j < (Lib.decDigits U).length) :
    wr.cell? ⟨w.heap.size, r + j, none⟩ = some (.int .u8 ((Lib.decDigits U)[j].toNat : Int)) := by
  have hl : j < k + 1 := by rw [Lib.decDigits_length, hd] at hj; exact hj
  have e : (Lib.decDigits U)[j] = Lib.dg U (k - j) := by
    simp only [Lib.decDigits_eq U, List.getElem_map, List.getElem_range]
    congr 1
    omega
  rw [e, ← h.dig (k - j) (by omega)]
  congr 2
  omega

/-- 'string(buf[r:])' behind the last round. -/
theorem DigOk.text {w wr : World} {U k r : Nat} (h : DigOk w U (k + 1) wr) (hr : r + k = 23) (hd : Lib.nDigits U = k + 1) :
    (convert 29 9 (.slice (some ⟨w.heap.size, r, none⟩) (24 - r) (24 - r))).run Ybad.prog wr = .ok (.string ⟨(Lib.decDigits U).toArray⟩) wr := by
  have h1 := run_convert_bytes_back (P := Ybad.prog) wr 29 9 5 ⟨w.heap.size, r, none⟩ (24 - r) (Lib.decDigits U) Ybad.underlying29 Ybad.underlying5 Ybad.underlying9 (fun j hj => by
    rw [Lib.add_plain]; exact h.numeral hr hd j hj)
  rw [Lib.decDigits_length, hd, show k + 1 = 24 - r by omega] at h1
  exact h1

theorem slice_from (w W : World) (r : Nat) (h : r < 24) :
    (Instr.sliceAt 28 (.pointer (some ⟨w.heap.size, 0, none⟩)) (some (.int .i64 r)) none none).run Ybad.prog W = .ok (.slice (some ⟨w.heap.size, r, none⟩) (24 - r) (24 - r)) W := by
  have hal : Ybad.prog.arrayLen 28 = 24 := by simp [Program.arrayLen, Ybad.underlying28]
  rw [run_sliceAt_array_l W 28 ⟨w.heap.size, 0, none⟩ (by simp [Program.arrayLen, Program.elem, Ybad.underlying28]) .i64 r (by omega) (by rw [hal]; omega)]
  go_simp
  intro e
  omega

set_option maxHeartbeats 1000000 in
theorem dec_pos (u : Nat) (hu : u < 9223372036854775808) (w : World) :
    Calls Ybad.prog 5 #[.int .i64 u] w fun e w' => e = .returned (.string ⟨(Lib.decDigits u).toArray⟩) ∧ Below w.heap.size w w' := by
  have hn : ¬ (u : Int) < 0 := by omega
  go_enter Ybad.func5, Ybad.ntmps5
  go_wp2
  go_loopw [4, 6] (fun u' p wr => ∃ k r : Nat, Hid (Reach u k) ∧ Hid (r + k = 23) ∧ u' = .int .u64 (q u k) ∧ p = .int .i64 ((r : Int) + 1) ∧ DigOk w u k wr) (fun _ p _ => (intOf p).toNat)
  case atStart => exact ⟨0, 23, Or.inl rfl, rfl, by rw [← q_zero], rfl, digOk_zero w u⟩
  case round =>
    obtain ⟨k, r, hR, hrk, rfl, rfl, hD⟩ := hrel
    have hr : r ≤ 23 := by have := hrk.out; omega
    obtain ⟨z, hz⟩ := hD.row r (by omega)
    have hfz := hD.free r
    have hq0 := q_lo u k
    have hq1 := q_hi u k (by omega)
    have hD2 : DigOk w u (k + 1) (wr.setCell ⟨w.heap.size, r, none⟩ (.int .u8 (48 + q u k % 10))) := hD.step hrk.out rfl
    have HS : Hid (q u k / 10 = q u (k + 1)) := q_succ u k
    by_cases h0 : q u k / 10 = 0
    · have hd := reach_last hR.out (HS.out ▸ h0)
      have hsl := fun W => slice_from w W r (by omega)
      have hcv := hD2.text hrk.out hd
      have HD : Hid (Lib.nDigits u = k + 1) := hd
      clear hd
      go_wp2
      go_ret
      exact ⟨rfl, hD2.below⟩
    · have hR2 : Reach u (k + 1) := reach_more (by rw [← HS.out]; exact h0)
      have hk := reach_lt (by omega) hR2
      obtain ⟨r', rfl⟩ : ∃ r', r = r' + 1 := ⟨r - 1, by have := hrk.out; omega⟩
      have h0' : (q u k / 10 == 0) = false := by simpa using h0
      go_wp2
      go_roundw
      case rel => exact ⟨k + 1, r', hR2, by have := hrk.out; show r' + (k + 1) = 23; omega, by rw [HS.out], by go_num, hD2⟩
      case measure => simp [intOf]; omega

/-- 'string(buf[r:])' where the sign stands ahead of the numeral. -/
theorem DigOk.textNeg {w wr : World} {U k r : Nat} (h : DigOk w U (k + 1) wr) (hr : r + 1 + k = 23) (hd : Lib.nDigits U = k + 1) :
    (convert 29 9 (.slice (some ⟨w.heap.size, r, none⟩) (24 - r) (24 - r))).run Ybad.prog (wr.setCell ⟨w.heap.size, r, none⟩ (.int .u8 45)) = .ok (.string ⟨(45 :: Lib.decDigits U).toArray⟩) (wr.setCell ⟨w.heap.size, r, none⟩ (.int .u8 45)) := by
  obtain ⟨z, hz⟩ := h.row r (by omega)
  have h1 := run_convert_bytes_back (P := Ybad.prog) (wr.setCell ⟨w.heap.size, r, none⟩ (.int .u8 45)) 29 9 5 ⟨w.heap.size, r, none⟩ (24 - r) (45 :: Lib.decDigits U) Ybad.underlying29 Ybad.underlying5 Ybad.underlying9 (fun j hj => by
    rw [Lib.add_plain]
    cases j with
    | zero => exact World.cell?_setCell_same _ _ _ hz
    | succ i =>
      have hi : i < (Lib.decDigits U).length := by simpa using hj
      rw [World.cell?_setCell_other _ _ _ _ (by simp), List.getElem_cons_succ, show r + (i + 1) = r + 1 + i by omega]
      exact h.numeral hr hd i hi)
  rw [List.length_cons, Lib.decDigits_length, hd, show k + 1 + 1 = 24 - r by omega] at h1
  exact h1

set_option maxHeartbeats 1000000 in
theorem dec_neg (u : Nat) (h1 : 1 ≤ u) (hu : u ≤ 9223372036854775808) (w : World) :
    Calls Ybad.prog 5 #[.int .i64 (-(u : Int))] w fun e w' => e = .returned (.string ⟨(45 :: Lib.decDigits u).toArray⟩) ∧ Below w.heap.size w w' := by
  have hn : (-(u : Int)) < 0 := by omega
  have hwr : IntKind.u64.wrap (-IntKind.u64.wrap (-(u : Int))) = (u : Int) := by rw [IntKind.wrap_u64, IntKind.wrap_u64]; omega
  go_enter Ybad.func5, Ybad.ntmps5
  go_wp2
  go_loopw [4, 6] (fun u' p wr => ∃ k r : Nat, Hid (Reach u k) ∧ Hid (r + k = 23) ∧ u' = .int .u64 (q u k) ∧ p = .int .i64 ((r : Int) + 1) ∧ DigOk w u k wr) (fun _ p _ => (intOf p).toNat)
  case atStart => exact ⟨0, 23, Or.inl rfl, rfl, by rw [← q_zero], rfl, digOk_zero w u⟩
  case round =>
    obtain ⟨k, r, hR, hrk, rfl, rfl, hD⟩ := hrel
    have hk := reach_lt (by omega) hR.out
    obtain ⟨r', rfl⟩ : ∃ r', r = r' + 1 := ⟨r - 1, by have := hrk.out; omega⟩
    have hr : r' ≤ 22 := by have := hrk.out; omega
    obtain ⟨z, hz⟩ := hD.row (r' + 1) (by omega)
    have hfz := hD.free (r' + 1)
    have hq0 := q_lo u k
    have hq1 := q_hi u k (by omega)
    have hD2 : DigOk w u (k + 1) (wr.setCell ⟨w.heap.size, r' + 1, none⟩ (.int .u8 (48 + q u k % 10))) := hD.step hrk.out rfl
    have HS : Hid (q u k / 10 = q u (k + 1)) := q_succ u k
    by_cases h0 : q u k / 10 = 0
    · have hd := reach_last hR.out (HS.out ▸ h0)
      have hsl := fun W => slice_from w W r' (by omega)
      have hcv := hD2.textNeg (by have := hrk.out; omega) hd
      obtain ⟨z2, hz2⟩ := hD2.row r' (by omega)
      have hfz2 := hD2.free r'
      have HD : Hid (Lib.nDigits u = k + 1) := hd
      clear hd
      go_wp2
      go_ret
      exact ⟨rfl, hD2.below.setCell (Nat.le_refl _) _⟩
    · have hR2 : Reach u (k + 1) := reach_more (by rw [← HS.out]; exact h0)
      have h0' : (q u k / 10 == 0) = false := by simpa using h0
      go_wp2
      go_roundw
      case rel => exact ⟨k + 1, r', hR2, by have := hrk.out; show r' + (k + 1) = 23; omega, by rw [HS.out], by go_num, hD2⟩
      case measure => simp [intOf]; omega

/-- zzs5588adec writes what the library writes. -/
theorem dec_any (n : Int) (h0 : -9223372036854775808 ≤ n) (h1 : n ≤ 9223372036854775807) (w : World) :
    Calls Ybad.prog 5 #[.int .i64 n] w fun e w' => e = .returned (.string ⟨(Lib.itoa n).toArray⟩) ∧ Below w.heap.size w w' := by
  by_cases hn : n < 0
  · obtain ⟨u, rfl⟩ : ∃ u : Nat, n = -(u : Int) := ⟨n.natAbs, by omega⟩
    rw [Lib.itoa_neg u (by omega)]
    exact dec_neg u (by omega) (by omega) w
  · obtain ⟨u, rfl⟩ : ∃ u : Nat, n = u := ⟨n.toNat, by omega⟩
    rw [Lib.itoa_nonneg]
    exact dec_pos u (by omega) w
end Go.Proofs.YbulkdkryDoor.Dec
