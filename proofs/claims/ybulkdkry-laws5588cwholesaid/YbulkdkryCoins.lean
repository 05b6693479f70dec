/-
  Coins.With, Len, At and check.coinByte (functions 8, 10, 11, 9), walked once.
-/
import Derived.Test.YbulkdkryRows
import Derived.Test.YbulkdkryCoinsPlain
import Derived.WalkKit
import Derived.WalkSpells
import Derived.WalkLawsBesides
namespace Go.Proofs.Ybulkdkry.Coin
open Go.RowKit

set_option maxHeartbeats 400000 in
theorem len_any (n v : Int) (h0 : 0 ≤ n) (h1 : n ≤ 255) (w : World) :
    Calls Yba.prog 10 #[.agg #[.int .u8 n, .int .u64 v]] w fun e w' => e = .returned (.int .i64 n) ∧ Below w.heap.size w w' := by
  go_enter Yba.func10, Yba.ntmps10
  go_wp2
  go_ret
  exact ⟨rfl, (Below.refl _ _).alloc (Nat.le_refl _) _⟩

set_option maxHeartbeats 400000 in
theorem with_any (n v : Nat) (o : Int) (h1 : n < 64) (hv : v < 2 ^ n) (ho0 : 0 ≤ o) (ho1 : o ≤ 1) (w : World) :
    Calls Yba.prog 8 #[.agg #[.int .u8 n, .int .u64 v], .int .i64 o] w fun e w' =>
      e = .returned (.agg #[.int .u8 (n + 1), .int .u64 ((v : Int) + o * 2 ^ n)]) ∧ Below w.heap.size w w' := by
  have HV : Hid (v < 2 ^ n) := hv
  clear hv
  go_enter Yba.func8, Yba.ntmps8
  go_wp2
  have e := shift_in v n o h1 HV.out ho0 ho1
  rw [e]
  exact bodyPost_ret (v := .agg #[.int .u8 (n + 1), .int .u64 ((v : Int) + o * 2 ^ n)]) (by simp [results, Yba.results8, go_sem]) rfl ⟨rfl, ((Below.refl _ _).alloc (Nat.le_refl _) _).alloc (by simp) _⟩

set_option maxHeartbeats 400000 in
theorem at_any (n : Int) (v k : Nat) (h1 : k < 64) (hv : v < 18446744073709551616) (w : World) :
    Calls Yba.prog 11 #[.agg #[.int .u8 n, .int .u64 v], .int .i64 k] w fun e w' => e = .returned (.int .i64 (bv v k)) ∧ Below w.heap.size w w' := by
  have HB : Hid (wrap64 (bits .and .u64 ((v : Int) / 2 ^ k) 1) = bv v k) := bit_of v k hv
  go_enter Yba.func11, Yba.ntmps11
  go_wp2
  go_ret
  refine ⟨?_, (Below.refl _ _).alloc (Nat.le_refl _) _⟩
  rw [HB.out]
  rfl

theorem bcell {W w1 : World} (hb : Below W.heap.size W w1) : (∀ b o, b < W.heap.size → w1.cell? ⟨b, o, none⟩ = W.cell? ⟨b, o, none⟩) ∧ (∀ b o, b < W.heap.size → w1.frozen? ⟨b, o, none⟩ = W.frozen? ⟨b, o, none⟩) :=
  ⟨fun b o h => hb.cell (p := ⟨b, o, none⟩) h, fun b o h => hb.frozen (p := ⟨b, o, none⟩) h⟩

set_option maxHeartbeats 400000 in
theorem byte_big (n v : Nat) (h1 : n ≤ 64) (h7 : ¬ n ≤ 7) (w : World) :
    Calls Yba.prog 9 #[.agg #[.int .u8 n, .int .u64 v]] w fun e w' => e = .returned (.tuple #[.int .u8 0, .bool false]) ∧ Below w.heap.size w w' := by
  go_enter Yba.func9, Yba.ntmps9
  go_wp2_with (go_at_call 10; refine (len_any _ _ (by omega) (by omega) _).mono ?_; rintro e w1 ⟨rfl, hb1⟩)
  go_ret2
  exact ⟨rfl, ((Below.refl _ _).alloc (Nat.le_refl _) _).trans (hb1.mono (by simp))⟩

set_option maxHeartbeats 1000000 in
theorem byte_small (n v : Nat) (h7 : n ≤ 7) (hv : v < 2 ^ n) (w : World) :
    Calls Yba.prog 9 #[.agg #[.int .u8 n, .int .u64 v]] w fun e w' => e = .returned (.tuple #[(.int .u8 (byteOf n v)), .bool true]) ∧ Below w.heap.size w w' := by
  have hv2 : v < 18446744073709551616 := by have := pow_le n 7 h7; have h7' : (2 : Nat) ^ 7 = 128 := by decide
                                            omega
  have HV : Hid (v < 2 ^ n) := hv
  have E0 : Hid (((2 : Int) ^ n % 256) = bt n v 0) := bt_zero n v h7
  clear hv
  have hn : (n : Int) ≤ 7 := by omega
  have tok : True := trivial
  go_enter Yba.func9, Yba.ntmps9
  go_wp2_with (first
    | (go_at_call 10; have _t := tok; refine (len_any _ _ (by omega) (by omega) _).mono ?_; rintro e wa ⟨rfl, hba⟩; obtain ⟨hca, hfa⟩ := bcell hba; clear tok _t)
    | (go_at_call 10; refine (len_any _ _ (by omega) (by omega) _).mono ?_; rintro e wb ⟨rfl, hbb⟩; obtain ⟨hcb, hfb⟩ := bcell hbb))
  have hB : Below (w.heap.size + 1) (w.alloc (Obj.cells #[Value.int IntKind.u8 n, Value.int IntKind.u64 v] 29)) wb :=
    (hba.mono (by simp)).trans (hbb.mono (by have := hba.size; simp at this; omega))
  clear hca hfa hcb hfb hba hbb
  go_loopw [2, 4] (fun b k wr => ∃ j : Nat, j ≤ n ∧ k = .int .i64 j ∧ b = .int .u8 (bt n v j) ∧
      Below (w.heap.size + 1) (w.alloc (Obj.cells #[Value.int IntKind.u8 n, Value.int IntKind.u64 v] 29)) wr)
    (fun _ k _ => n - (intOf k).toNat)
  case atStart => exact ⟨0, Nat.zero_le _, rfl, by rw [E0.out], hB⟩
  case round =>
    obtain ⟨j, hj, rfl, rfl, hBr⟩ := hrel
    have hc0 : wr.cell? ⟨w.heap.size, 0, none⟩ = some (.int .u8 n) := by rw [hBr.cell (by simp)]; simp
    have hc1 : wr.cell? ⟨w.heap.size, 1, none⟩ = some (.int .u64 v) := by rw [hBr.cell (by simp)]; simp
    have hsz : w.heap.size < wr.heap.size := by have := hBr.size; simp at this; omega
    clear hB
    by_cases hlt : j < n
    · have hlt' : (j : Int) < (n : Int) := by omega
      have BI : Hid (bits .or .u8 (bt n v j) (bv v j * 2 ^ j % 256) = bt n v (j + 1)) := bt_step n v j h7 hlt
      have b0 := bv_lo v j
      have b1 := bv_hi v j
      go_wp2_with (first
        | (go_at_call 10; refine (len_any _ _ (by omega) (by omega) _).mono ?_; rintro e wc ⟨rfl, hbc⟩; obtain ⟨hcc, hfc⟩ := bcell hbc)
        | (go_at_call 11; refine (at_any _ _ _ (by omega) hv2 _).mono ?_; rintro e wd ⟨rfl, hbd⟩; obtain ⟨hcd, hfd⟩ := bcell hbd))
      go_roundw
      case rel => exact ⟨j + 1, by omega, by go_num, by rw [BI.out], (hBr.trans (hbc.mono hsz)).trans (hbd.mono (by have := hbc.size; omega))⟩
      case measure => simp [intOf]; omega
    · have hlt' : ¬ (j : Int) < (n : Int) := by omega
      obtain rfl : j = n := by omega
      go_wp2_with (go_at_call 10; refine (len_any _ _ (by omega) (by omega) _).mono ?_; rintro e wc ⟨rfl, hbc⟩; obtain ⟨hcc, hfc⟩ := bcell hbc)
      go_ret2
      refine ⟨?_, (((Below.refl _ _).alloc (Nat.le_refl _) _).trans (hBr.mono (by omega))).trans (hbc.mono (by omega))⟩
      rw [← bt_all _ _ HV.out]
      rfl
end Go.Proofs.Ybulkdkry.Coin
