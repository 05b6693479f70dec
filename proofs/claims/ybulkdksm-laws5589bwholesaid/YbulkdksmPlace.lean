/-
  place (function 10), walked.
-/
import Derived.Test.YbulkdksmRows
import Derived.Test.YbulkdksmPlain
import Derived.Test.YbulkdksmMem
import Derived.WalkKit
import Derived.WalkSpells
import Derived.WalkLawsBesides
import Derived.Deep.LoopGhost
import Derived.RegionTactic
namespace Go.Proofs.Ybulkdksm.Tb
open Go.RowKit

set_option maxHeartbeats 1000000 in
theorem place_any (bt bs m n : Nat) (T : Nat → Slot) (s : Slot) (D : Nat) (w : World) (hp : Pow m) (hm : m ≤ 8192) (hk : s.key < 18446744073709551616) (hf : Free m T s.key D)
    (hh : Hdr w bt (.slice (some ⟨bs, 0, none⟩) m m) n) (hr : Row w bs m T) :
    Calls Yba.prog 10 #[.pointer (some ⟨bt, 0, none⟩), .agg #[.int .u64 s.key, .int .u64 s.a, .int .u32 s.b, .int .u32 s.c]] w fun e w' =>
      e = .returned (.tuple #[]) ∧ Row w' bs m (upd T ((s.key + D) % m) s) ∧ Kept (fun k => k = bs) w w' := by
  have HF : Hid (Free m T s.key D) := hf
  have HP : Hid (Pow m) := hp
  have hm1 := hp.pos
  have hbt := hh.lt
  have hbs := hr.lt
  have hne := hh.ne hr
  obtain ⟨W, hW⟩ : ∃ W, W = w.alloc (.cells #[.int .u64 s.key, .int .u64 s.a, .int .u32 s.b, .int .u32 s.c] 38) := ⟨_, rfl⟩
  have hhW : Hdr W bt (.slice (some ⟨bs, 0, none⟩) m m) n := by rw [hW]; exact hh.kept (Kept.alloc (fun _ => False) _ _) (fun h => h)
  have hrW : Row W bs m T := by rw [hW]; exact hr.kept (Kept.alloc (fun _ => False) _ _) (fun h => h)
  have HH : Hid (Hdr W bt (.slice (some ⟨bs, 0, none⟩) m m) n) := hhW
  have HR : Hid (Row W bs m T) := hrW
  have h0 := hhW.cells.1
  have HHome : Hid (bits .and .i64 (wrap64 (s.key : Int)) ((m : Int) - 1) = (((s.key + 0) % m : Nat) : Int)) := hp.home s.key hk
  clear hf hp hh hr hhW hrW
  have h0' : (w.alloc (.cells #[.int .u64 s.key, .int .u64 s.a, .int .u32 s.b, .int .u32 s.c] 38)).cell? ⟨bt, 0, none⟩ = some (.slice (some ⟨bs, 0, none⟩) m m) := by rw [← hW]; exact h0
  have HW : Hid (W = w.alloc (.cells #[.int .u64 s.key, .int .u64 s.a, .int .u32 s.b, .int .u32 s.c] 38)) := hW
  clear hW
  go_enter Yba.func10, Yba.ntmps10
  go_wp2
  rw [← HW.out]
  clear h0'
  go_loopg [5] D (fun g i wr => ∃ d j : Nat, Hid (d + g = D) ∧ Hid (j = (s.key + d) % m) ∧ j < m ∧ i = .int .i64 j ∧ wr = W)
  case atStart => exact ⟨0, (s.key + 0) % m, show 0 + D = D by omega, rfl, Nat.mod_lt _ hm1, by rw [HHome.out], rfl⟩
  case round =>
    obtain ⟨d, j, hd, hj, hjm, rfl, rfl⟩ := hrel
    have hjm' : (j : Int) < (m : Int) := by omega
    have hc := (HR.out.cells j hjm).1
    have hd' := hd.out
    by_cases hz : (T j).key = 0
    · have hz' : ((T j).key : Int) = 0 := by omega
      obtain ⟨_, hc1, hc2, hc3⟩ := HR.out.cells j hjm
      have f0 := HR.out.frozen (j * 4)
      have f1 := HR.out.frozen (j * 4 + 1)
      have f2 := HR.out.frozen (j * 4 + 2)
      have f3 := HR.out.frozen (j * 4 + 3)
      have b0 : wr.cell? ⟨w.heap.size, 0, none⟩ = some (.int .u64 s.key) := by rw [HW.out]; simp
      have b1 : wr.cell? ⟨w.heap.size, 1, none⟩ = some (.int .u64 s.a) := by rw [HW.out]; simp
      have b2 : wr.cell? ⟨w.heap.size, 2, none⟩ = some (.int .u32 s.b) := by rw [HW.out]; simp
      have b3 : wr.cell? ⟨w.heap.size, 3, none⟩ = some (.int .u32 s.c) := by rw [HW.out]; simp
      go_wp2
      go_region
      go_end0
      have hdD : d = D := by
        rcases Nat.lt_or_ge d D with h | h
        · exact absurd (by rw [← hj.out]; exact hz) (HF.out.before d h)
        · omega
      have ej : j = (s.key + D) % m := by rw [hj.out, hdD]
      refine ⟨rfl, ?_, ?_⟩
      · rw [← ej]
        exact (HR.out.store j hjm s).of_block rfl
      · have k0 : Kept (fun k => k = bs) w wr := by rw [HW.out]; exact Kept.alloc _ _ _
        exact ((((k0.trans (Kept.setCell _ _ _ rfl)).trans (Kept.setCell _ _ _ rfl)).trans (Kept.setCell _ _ _ rfl)).trans (Kept.setCell _ _ _ rfl)).drew1
    · have hz' : ¬ ((T j).key : Int) = 0 := by omega
      have hlt : d < D := by
        rcases Nat.lt_or_ge d D with h | h
        · exact h
        · exact absurd (by rw [hj.out, show d = D by omega]; exact HF.out.empty) hz
      have HN : Hid (bits .and .i64 ((j : Int) + 1) ((m : Int) - 1) = (((j + 1) % m : Nat) : Int)) := HP.out.next j
      go_wp2
      go_roundg (D - (d + 1))
      case measure => omega
      case rel => exact ⟨d + 1, (j + 1) % m, show d + 1 + (D - (d + 1)) = D by omega, show (j + 1) % m = (s.key + (d + 1)) % m by rw [hj.out, mod_step], Nat.mod_lt _ hm1, by rw [HN.out], rfl⟩
end Go.Proofs.Ybulkdksm.Tb
