/-
  'Rows.LawS5588CWholeSaid' ('example.com/waitless/waitless/check.LawS5588CWhole'): the walk, and the row's step after the guide's own frame for slices (proof-skeleton.mjs), turned to a slice of bools.
-/
import Derived.Test.YbulkdkryRows
import Derived.Test.YbulkdkryCoinsPlain
import Derived.Test.YbulkdkryCoins
import Derived.WalkKit
import Derived.ProofKit
import Derived.OpenShut
import Derived.ChangeOld
import Derived.Below
import Derived.Deep.Grids
import Derived.Deep.RegionHeld
namespace Go.Proofs.Ybulkdkry.lawS5588CWhole
open Go.ChangeShapes Go.WideShapes Go.ChangeAt Go.RowKit
open Coin
set_option linter.unusedVariables false

theorem own : ownKnob Yba.prog.godebug = none := by kernel_rfl
theorem laidOut : laidOutB Yba.prog = true := by kernel_rfl

/-- What the walk is told of a slice of bools that came in. -/
def IsRow (w : World) (a : Option Addr) (len : Nat) (B : Nat → Bool) : Prop :=
  0 < len → ∃ b off, a = some ⟨b, off, none⟩ ∧ ∀ i, i < len → w.cell? ⟨b, off + i, none⟩ = some (.bool (B i))

set_option maxHeartbeats 400000 in
theorem walk_long (a : Option Addr) (len cap : Nat) (w : World) (hl : 64 < len) :
    Calls Yba.prog 5 #[.slice a len cap] w fun e w' => e = .returned (.bool true) ∧ Below w.heap.size w w' := by
  have hl' : (64 : Int) < (len : Int) := by omega
  go_enter Yba.func5, Yba.ntmps5
  go_wp2
  go_ret
  exact ⟨rfl, Below.refl _ _⟩

/-- Both cells of the struct at w's first new block written anew, behind a call that left all below wr as it was. -/
theorem store_pair {w wr wc : World} {u v : Value} (x y : Value) (hc0 : wr.cell? ⟨w.heap.size, 0, none⟩ = some u) (hc1 : wr.cell? ⟨w.heap.size, 1, none⟩ = some v)
    (hf0 : wr.frozen? ⟨w.heap.size, 0, none⟩ = false) (hf1 : wr.frozen? ⟨w.heap.size, 1, none⟩ = false) (hB : Below w.heap.size w wr) (hsz : w.heap.size < wr.heap.size) (hbc : Below wr.heap.size wr wc) :
    ((wc.setCell ⟨w.heap.size, 0, none⟩ x).setCell ⟨w.heap.size, 1, none⟩ y).cell? ⟨w.heap.size, 0, none⟩ = some x ∧
    ((wc.setCell ⟨w.heap.size, 0, none⟩ x).setCell ⟨w.heap.size, 1, none⟩ y).cell? ⟨w.heap.size, 1, none⟩ = some y ∧
    ((wc.setCell ⟨w.heap.size, 0, none⟩ x).setCell ⟨w.heap.size, 1, none⟩ y).frozen? ⟨w.heap.size, 0, none⟩ = false ∧
    ((wc.setCell ⟨w.heap.size, 0, none⟩ x).setCell ⟨w.heap.size, 1, none⟩ y).frozen? ⟨w.heap.size, 1, none⟩ = false ∧
    Below w.heap.size w ((wc.setCell ⟨w.heap.size, 0, none⟩ x).setCell ⟨w.heap.size, 1, none⟩ y) ∧
    w.heap.size < ((wc.setCell ⟨w.heap.size, 0, none⟩ x).setCell ⟨w.heap.size, 1, none⟩ y).heap.size := by
  have g0 : wc.cell? ⟨w.heap.size, 0, none⟩ = some u := (hbc.cell hsz).trans hc0
  have g1 : wc.cell? ⟨w.heap.size, 1, none⟩ = some v := (hbc.cell hsz).trans hc1
  have k0 : wc.frozen? ⟨w.heap.size, 0, none⟩ = false := (hbc.frozen hsz).trans hf0
  have k1 : wc.frozen? ⟨w.heap.size, 1, none⟩ = false := (hbc.frozen hsz).trans hf1
  refine ⟨?_, ?_, ?_, ?_, ?_, ?_⟩
  · rw [World.cell?_setCell_other _ _ _ _ (by simp)]; exact World.cell?_setCell_same _ _ _ g0
  · refine World.cell?_setCell_same (u := v) _ _ _ ?_
    rw [World.cell?_setCell_other _ _ _ _ (by simp)]; exact g1
  · simpa using k0
  · simpa using k1
  · exact ((hB.trans (hbc.mono (by omega))).setCell (Nat.le_refl _) _).setCell (Nat.le_refl _) _
  · have := hbc.size
    simp only [World.size_setCell]
    omega

/-- The second loop's relation: the marker and the outcomes from j on, with those below j still to come, make the whole byte. -/
def Toward (B : Nat → Bool) (n j W : Nat) : Prop := W * 2 ^ j + val B j = 2 ^ n + val B n
theorem toward_start (B : Nat → Bool) (n : Nat) : Toward B n n 1 := by unfold Toward; omega
theorem toward_end {B : Nat → Bool} {n W : Nat} (h : Toward B n 0 W) : (W : Int) = Coin.byteOf n (val B n) := by
  unfold Toward at h; unfold Coin.byteOf; simp [val] at h; rw [h]
theorem toward_step {B : Nat → Bool} {n j W : Nat} (h : Toward B n (j + 1) W) : Toward B n j (W * 2 + if B j then 1 else 0) := by
  unfold Toward at *
  rw [← h, Nat.pow_succ]
  simp only [val]
  split <;> simp [Nat.add_mul, Nat.mul_assoc, Nat.mul_comm] <;> omega
theorem toward_lt {B : Nat → Bool} {n j W : Nat} (hn : n ≤ 7) (h : Toward B n (j + 1) W) : W ≤ 127 := by
  unfold Toward at h
  have h7 := pow_le n 7 hn
  have hv := val_lt B n
  have h7' : (2 : Nat) ^ 7 = 128 := by decide
  have hj : 2 ^ (j + 1) = 2 ^ j * 2 := Nat.pow_succ ..
  have hp : 0 < 2 ^ j := Nat.pos_of_neZero _
  have hm : W * 2 ≤ W * 2 ^ (j + 1) := Nat.mul_le_mul_left _ (by omega)
  omega
theorem byteOf_pos (n v : Nat) : 0 < Coin.byteOf n v := by
  unfold Coin.byteOf
  have hp : 0 < 2 ^ n := Nat.pos_of_neZero _
  omega

set_option maxHeartbeats 1000000 in
theorem walk_short (a : Option Addr) (len cap : Nat) (B : Nat → Bool) (w : World) (hl : len ≤ 64) (hr : IsRow w a len B) :
    Calls Yba.prog 5 #[.slice a len cap] w fun e w' => e = .returned (.bool true) ∧ Below w.heap.size w w' := by
  have hl' : ¬ (64 : Int) < (len : Int) := by omega
  go_enter Yba.func5, Yba.ntmps5
  go_wp2
  go_loopw [4] (fun i wr => ∃ k : Nat, k ≤ len ∧ i = .int .i64 k ∧ wr.cell? ⟨w.heap.size, 0, none⟩ = some (.int .u8 k) ∧ wr.cell? ⟨w.heap.size, 1, none⟩ = some (.int .u64 (val B k)) ∧
      wr.frozen? ⟨w.heap.size, 0, none⟩ = false ∧ wr.frozen? ⟨w.heap.size, 1, none⟩ = false ∧ Below w.heap.size w wr ∧ w.heap.size < wr.heap.size)
    (fun i _ => len - (intOf i).toNat)
  case atStart =>
    exact ⟨0, Nat.zero_le _, rfl, by simp, by simp [val], by simp, by simp, (Below.refl _ _).alloc (Nat.le_refl _) _, by simp⟩
  case round =>
    obtain ⟨k, hk, rfl, hc0, hc1, hf0, hf1, hB, hsz⟩ := hrel
    by_cases hlt : k < len
    · have hlt' : (k : Int) < (len : Int) := by omega
      obtain ⟨b, off, rfl, hcell⟩ := hr (by omega)
      have hck : wr.cell? ⟨b, off + k, none⟩ = some (.bool (B k)) := (hB.cell (World.block_lt_of_cell? w _ (hcell k hlt))).trans (hcell k hlt)
      have VL : Hid (val B k < 2 ^ k) := val_lt B k
      by_cases hBk : B k = true
      · go_wp2_with (go_at_call 8; refine (with_any _ _ _ (by omega) VL.out (by omega) (by omega) _).mono ?_; rintro e wc ⟨rfl, hbc⟩; obtain ⟨hcc, hfc⟩ := bcell hbc)
        have hv : (val B k : Int) + 2 ^ k = (val B (k + 1) : Nat) := by simp [val, hBk]
        go_roundw
        case rel =>
          rw [hv]
          obtain ⟨q0, q1, q2, q3, q4, q5⟩ := store_pair (.int .u8 ((k : Int) + 1)) (.int .u64 ((val B (k + 1) : Nat) : Int)) hc0 hc1 hf0 hf1 hB hsz hbc
          exact ⟨k + 1, by omega, by go_num, q0, q1, q2, q3, q4, q5⟩
        case measure => simp [intOf]; omega
      · have hBk' : B k = false := by simpa using hBk
        go_wp2_with (go_at_call 8; refine (with_any _ _ _ (by omega) VL.out (by omega) (by omega) _).mono ?_; rintro e wc ⟨rfl, hbc⟩; obtain ⟨hcc, hfc⟩ := bcell hbc)
        have hv : (val B k : Int) = (val B (k + 1) : Nat) := by simp [val, hBk]
        go_roundw
        case rel =>
          obtain ⟨q0, q1, q2, q3, q4, q5⟩ := store_pair (.int .u8 ((k : Int) + 1)) (.int .u64 ((val B k : Nat) : Int)) hc0 hc1 hf0 hf1 hB hsz hbc
          exact ⟨k + 1, by omega, by go_num, q0, by rw [← hv]; exact q1, q2, q3, q4, q5⟩
        case measure => simp [intOf]; omega
    · have hlt' : ¬ (k : Int) < (len : Int) := by omega
      obtain rfl : k = len := by omega
      have VL : Hid (val B k < 2 ^ k) := val_lt B k
      by_cases h7 : k ≤ 7
      · have h7' : ¬ (7 : Int) < (k : Int) := by omega
        go_wp2_with (go_at_call 9; refine (byte_small _ _ h7 VL.out _).mono ?_; rintro e wc ⟨rfl, hbc⟩)
        have hBc : Below w.heap.size w wc := hB.trans (hbc.mono (by omega))
        go_loop [8, 9] (fun q i => ∃ j W : Nat, j ≤ k ∧ i = .int .i64 ((j : Int) - 1) ∧ q = .int .u8 W ∧ Hid (Toward B k j W)) (fun _ i => (intOf i + 1).toNat)
        case atStart => exact ⟨k, 1, Nat.le_refl _, rfl, rfl, toward_start B k⟩
        case round =>
          obtain ⟨j, W, hj, rfl, rfl, hT⟩ := hrel
          match j, hj, hT with
          | 0, hj, hT =>
            have e := toward_end hT.out
            have hp := byteOf_pos k (val B k)
            have hq : (Coin.byteOf k (val B k) == (W : Int)) = true := by rw [e]; simp
            have hz : (Coin.byteOf k (val B k) != 0) = true := by simp; omega
            clear e hp
            go_wp2
            go_ret
            exact ⟨rfl, hBc⟩
          | j + 1, hj, hT =>
            have hW := toward_lt h7 hT.out
            have hT2 := toward_step hT.out
            have HT : Hid (Toward B k j (W * 2 + if B j then 1 else 0)) := hT2
            clear hT hT2
            obtain ⟨b, off, rfl, hcell⟩ := hr (by omega)
            have hck : wc.cell? ⟨b, off + j, none⟩ = some (.bool (B j)) := (hBc.cell (World.block_lt_of_cell? w _ (hcell j (by omega)))).trans (hcell j (by omega))
            have ej : ((((j + 1 : Nat) : Int) - 1)) = (j : Int) := by omega
            rw [ej]
            have hjk : (j : Int) < (k : Int) := by omega
            by_cases hBj : B j = true
            · go_wp2
              go_round
              case rel => exact ⟨j, W * 2 + 1, by omega, by go_num, by go_num, by have h := HT.out; simp [hBj] at h; exact h⟩
              case measure => simp [intOf]
            · have hBj' : B j = false := by simpa using hBj
              go_wp2
              go_round
              case rel => exact ⟨j, W * 2, by omega, by go_num, by go_num, by have h := HT.out; simp [hBj] at h; exact h⟩
              case measure => simp [intOf]
      · have h7' : (7 : Int) < (k : Int) := by omega
        go_wp2_with (go_at_call 9; refine (byte_big _ _ hl h7 _).mono ?_; rintro e wc ⟨rfl, hbc⟩; obtain ⟨hcc, hfc⟩ := bcell hbc)
        go_ret
        exact ⟨rfl, hB.trans (hbc.mono (by omega))⟩

theorem walk (a : Option Addr) (len cap : Nat) (B : Nat → Bool) (w : World) (hr : IsRow w a len B) :
    Calls Yba.prog 5 #[.slice a len cap] w fun e w' => e = .returned (.bool true) ∧ Below w.heap.size w w' := by
  by_cases hl : len ≤ 64
  · exact walk_short a len cap B w hl hr
  · exact walk_long a len cap w (by omega)

/-! ### THE ROW's STEP, after the guide's frame -/
set_option maxRecDepth 100000 in
theorem lifted (os : Os) (started : os.Started) (H : Type) (enc : TypeId × Value → H) :
    ReturnsInHanded {} Yba.checked os 5 .any (Rows.lawS5588CWholeSpec.pre6 enc Yba.prog Yba.f5 Rows.lawS5588CWholeRow.domain false) (Rows.lawS5588CWholeSpec.post enc Yba.prog Yba.f5 false true false false) := by
  refine returnsInHanded_of_change (C := Yba.checked) own started (by kernel_rfl) Yba.func5
    (ChangeSpec.witness6 (enc := enc) (C := Yba.checked) false ⟨#[], #[.slice none 0 0], []⟩ 8 (by kernel_rfl) (by kernel_rfl) (by kernel_rfl) (by kernel_rfl)) ?_
  intro W base args ds gs before hval0 hW hcnd _
  have hval : ∀ (j : Nat) t v, Yba.f5.params[j]? = some t → args[j]? = some v → Value.okWide Yba.prog W .any base t v := hval0
  have hW' := hW
  obtain ⟨p, q, hA0, hV, rfl, hfz, hnd⟩ := hW
  have hA : DataW.TrodAll enc Yba.prog W 0 (fun _ => true) true Yba.f5.params.toList args.toList ds p := hA0
  rw [Yba.params5] at hA hval
  obtain ⟨v0, vs0, d0, ds0, p0, q0, hargs, rfl, rfl, h0, r0⟩ := trodAll_cons hA
  obtain ⟨rfl, rfl, rfl⟩ := trodAll_nil r0
  obtain rfl : args = #[v0] := by cases args; simp_all
  obtain ⟨rfl, rfl⟩ := trodVars_none hV
  obtain ⟨a0, len0, cap0, rfl⟩ := okWide_slice Yba.underlying26 (hval 0 26 v0 rfl rfl)
  have k0 := h0
  have lt0 : ∀ x ∈ p0, x.block < W.heap.size := by obtain ⟨m, hm⟩ := k0; exact DataW.trod_lt m _ _ _ hm
  obtain ⟨z0, w0⟩ : ∃ B, IsRow W a0 len0 B := by
    obtain ⟨fuel, hf⟩ := h0
    rcases Deep.open_bools Yba.underlying26 Yba.underlying4 (by kernel_rfl) hf with ⟨hcs, _⟩ | ⟨x, l, c, B, hcs, _, hl, hm, _, hcell⟩
    · simp [Value.cells] at hcs
      obtain ⟨rfl, rfl, rfl⟩ := hcs
      exact ⟨fun _ => false, fun h => by omega⟩
    · simp [Value.cells] at hcs
      obtain ⟨rfl, rfl, rfl⟩ := hcs
      refine ⟨B, fun h => ?_⟩
      obtain ⟨b, off, spot⟩ := x
      have hspot : spot = none := by simpa [Addr.add] using World.cell?_spot (hcell 0 (by omega))
      subst hspot
      exact ⟨b, off, rfl, fun i hi => by rw [← add_plain]; exact hcell i (by omega)⟩
  clear hA0 hval0
  refine (walk a0 len0 cap0 z0 W w0).mono fun e W' ⟨he, bel⟩ => ?_
  subst he
  exact ⟨_, rfl, _, _, _, [], _, [], hW', trodAll_mk1 (shut_bool Yba.underlying4 _), (trodAll_cons_mk (Below.trod laidOut (by kernel_rfl) (of_decide_eq_true (by kernel_rfl)) k0 bel lt0) trodAll_mk0), rfl, bel.frame _, fun h => by cases h⟩

theorem over : Rows.lawS5588CWholeRow.holds Yba.pinned (OpenSpec.ofChange Rows.lawS5588CWholeSpec) :=
  OpenClaim.holds_of_wide 5 Yba.f5 rfl rfl rfl rfl rfl rfl rfl ⟨rfl, rfl, rfl, rfl, rfl⟩ rfl rfl rfl rfl rfl (by kernel_rfl) Yba.func5 (by kernel_rfl)
    (of_decide_eq_true (by kernel_rfl)) (by unfold Func.isWrapper; first | (rw [if_pos (by decide +kernel)]; kernel_rfl) | (rw [if_neg (by decide +kernel)]; exact ⟨rfl, rfl⟩))
    (fun os started H enc _ => lifted os started H enc)

/-- THE STATEMENT -/
theorem proved : Rows.LawS5588CWholeSaid := over
end Go.Proofs.Ybulkdkry.lawS5588CWhole
