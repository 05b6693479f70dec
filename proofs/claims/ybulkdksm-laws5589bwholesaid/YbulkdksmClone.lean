/-
  slices.Clone at []nonceSlot (function 6), walked.
-/
import Derived.Test.YbulkdksmRows
import Derived.Test.YbulkdksmPlain
import Derived.Test.YbulkdksmMem
import Derived.Test.YbulkdksmInsert
import Derived.WalkKit
import Derived.WalkSpells
import Derived.WalkLawsBesides
namespace Go.Proofs.Ybulkdksm.Tb
open Go.RowKit

set_option maxHeartbeats 400000 in
theorem clone_nil (w : World) : Calls Yba.prog 6 #[.slice none 0 0] w fun e w' => e = .returned (.slice none 0 0) ∧ w' = w := by
  have eq0 := fun W A L C => Lib.run_eql_slice_nil (P := Yba.prog) W 25 38 A L C 0 0 Yba.underlying25
  go_enter Yba.func6, Yba.ntmps6
  go_wp2
  go_ret
  exact ⟨rfl, rfl⟩

theorem add_at (b o j : Nat) : (⟨b, o, none⟩ : Addr).add j = ⟨b, o + j, none⟩ := by
  unfold Addr.add
  split
  · rename_i h; subst h; rfl
  · rfl

/-- m slots can be read from block b on. -/
def RdRow (w : World) (b m : Nat) (T : Nat → Slot) : Prop := ∀ i, i < m →
  w.cell? ⟨b, i * 4, none⟩ = some (.int .u64 (T i).key) ∧ w.cell? ⟨b, i * 4 + 1, none⟩ = some (.int .u64 (T i).a) ∧ w.cell? ⟨b, i * 4 + 2, none⟩ = some (.int .u32 (T i).b) ∧ w.cell? ⟨b, i * 4 + 3, none⟩ = some (.int .u32 (T i).c)

theorem one_of {C : Array Value} {m : Nat} {T : Nat → Slot} (hs : C.size = m * 4) (hc : ∀ i, i < m → cellsAt C i (T i)) (u : Value) (hu : u ∈ C.toList) : u.oneCell' = true := by
  obtain ⟨j, hj, e⟩ := List.mem_iff_getElem.1 hu
  have hj' : j < m * 4 := by rw [← hs]; simpa using hj
  have hu' : C[j]? = some u := by rw [← Array.getElem?_toList, List.getElem?_eq_getElem hj, e]
  obtain ⟨c0, c1, c2, c3⟩ := hc (j / 4) (by omega)
  rcases (show j = j / 4 * 4 ∨ j = j / 4 * 4 + 1 ∨ j = j / 4 * 4 + 2 ∨ j = j / 4 * 4 + 3 by omega) with h | h | h | h
  · rw [h, c0] at hu'; cases hu'; rfl
  · rw [h, c1] at hu'; cases hu'; rfl
  · rw [h, c2] at hu'; cases hu'; rfl
  · rw [h, c3] at hu'; cases hu'; rfl

theorem owns_empty (w : World) : (w.alloc (.cells #[] 38)).ownsRow w.heap.size 38 4 (.slice (some ⟨w.heap.size, 0, none⟩) 0 0) 0 [] := by
  refine ⟨rfl, .inr ⟨w.heap.size, 0, #[], rfl, Nat.le_refl _, ?_, Nat.le_refl _, Nat.zero_le _, rfl, rfl⟩⟩
  show (w.heap.push _)[w.heap.size]? = _
  simp

theorem rd_of_owns {w : World} {base m : Nat} {v : Value} {C : Array Value} {T : Nat → Slot} (hm : 0 < m) (hc : ∀ i, i < m → cellsAt C i (T i)) (h : w.ownsRow base 38 4 v (0 + m) ([] ++ C.toList)) :
    ∃ g cap, v = .slice (some ⟨g, 0, none⟩) m cap ∧ base ≤ g ∧ RdRow w g m T ∧ g < w.heap.size := by
  obtain ⟨_, ⟨_, h0⟩ | ⟨g, cap, cur, rfl, hb, hg, h1, h2, h3, h4⟩⟩ := h
  · omega
  · refine ⟨g, cap, by rw [Nat.zero_add], hb, fun i hi => ?_, lt_of hg⟩
    rw [Nat.zero_add, List.nil_append] at h4
    have e : ∀ j, j < m * 4 → cur[j]? = C[j]? := fun j hj => by
      have h5 := congrArg (fun l : List Value => l[j]?) h4
      simp only [List.getElem?_take, hj, if_true, Array.getElem?_toList] at h5
      exact h5
    simp only [cell_of hg]
    rw [e _ (by omega), e _ (by omega), e _ (by omega), e _ (by omega)]
    exact hc i hi

set_option maxHeartbeats 400000 in
theorem clone_row (bs m : Nat) (T : Nat → Slot) (w : World) (hm : 0 < m) (hb : m ≤ 8192) (hR : Row w bs m T) :
    Calls Yba.prog 6 #[.slice (some ⟨bs, 0, none⟩) m m] w fun e w' => (∃ g cap, e = .returned (.slice (some ⟨g, 0, none⟩) m cap) ∧ w.heap.size ≤ g ∧ RdRow w' g m T ∧ g < w'.heap.size) ∧ Kept (fun _ => False) w w' := by
  have eq0 := fun W A L C => Lib.run_eql_slice_nil (P := Yba.prog) W 25 38 A L C 0 0 Yba.underlying25
  obtain ⟨C, hC, hs, hc⟩ := hR
  obtain ⟨i, hi, hzz⟩ := Option.map_eq_some_iff.1 info38
  simp only [Prod.mk.injEq] at hzz
  obtain ⟨hz, hsi, hby⟩ := hzz
  have hnews : ∀ j u, C.toList[j]? = some u → (w.alloc (.cells #[] 38)).cell? ((⟨bs, 0, none⟩ : Addr).add j) = some u := fun j u hj => by
    rw [add_at, Nat.zero_add, ((Below.refl w.heap.size w).alloc (Nat.le_refl _) _).cell (lt_of hC), cell_of hC, ← Array.getElem?_toList]
    exact hj
  have HN : Hid (∀ j u, C.toList[j]? = some u → (w.alloc (.cells #[] 38)).cell? ((⟨bs, 0, none⟩ : Addr).add j) = some u) := hnews
  have H1 : Hid (∀ u ∈ C.toList, u.oneCell' = true) := one_of hs hc
  have HS : Hid (C.size = m * 4) := hs
  have HC : Hid (∀ i, i < m → cellsAt C i (T i)) := hc
  have HI : Hid (Yba.prog.info? 38 = some i) := hi
  have HZ : Hid (i.zero = some (.agg #[.int .u64 0, .int .u64 0, .int .u32 0, .int .u32 0]) ∧ i.size = 4 ∧ i.bytes = 24) := ⟨hz, hsi, hby⟩
  clear hnews hs hc hi hz hsi hby hC
  go_enter Yba.func6, Yba.ntmps6
  go_wp2_with (first
    | (at_builtin
       refine wpList_append_own _ rfl (.tmp 5) (.tmp 6) 25 rfl w.heap.size 38 i _ 4 24 Yba.underlying25 HI.out HZ.out.1 HZ.out.2.1 HZ.out.2.2 rfl (by decide) _ 0 [] rfl (owns_empty w) ⟨bs, 0, none⟩ m m C.toList rfl (by have := HS.out; simpa using this) HN.out H1.out (by unfold maxLen; omega) (by omega) (by simp) ?_
       intro v' w1 hown hg _
       obtain ⟨g, cap, hv, hge, hrd, hlt⟩ := rd_of_owns hm HC.out hown
       have HV : Hid (v' = .slice (some ⟨g, 0, none⟩) m cap) := hv
       have HRD : Hid (RdRow w1 g m T) := hrd
       have HG : Hid ((w.alloc (.cells #[] 38)).grownBy w1 (some w.heap.size)) := hg
       clear hown hv hrd hg))
  go_ret
  refine ⟨⟨g, cap, ?_, hge, HRD.out, hlt⟩, (Kept.alloc (fun _ => False) _ _).on (Kept.grown (S := fun x => x = w.heap.size) HG.out (fun k e => by cases e; rfl)) (fun x hx e => by omega)⟩
  show Ending.returned v' = _
  rw [HV.out]
end Go.Proofs.Ybulkdksm.Tb
