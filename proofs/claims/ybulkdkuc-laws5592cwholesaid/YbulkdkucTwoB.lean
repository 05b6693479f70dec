/-
  The two latest: other (29), merge (28).
-/
import Derived.Test.YbulkdkucTwo
namespace Go.Proofs.Ybulkdkuc.Sc
open Go.RowKit Go.Maps

theorem Below.drewN {B : Nat} {w w' : World} (h : Below B w w') (n : Nat) : Below B w (w'.drewN n) := ⟨h.os, h.tape, h.output, h.size, h.block⟩

set_option maxHeartbeats 400000 in
theorem other_walk (g t : Nat) (T : Nat → L2) (w : World) (h : L2Row w g 1 T) :
    Calls Yba.prog 29 #[.pointer (some ⟨g, 0, none⟩), .int .i64 (t : Int)] w fun e w' =>
      e = .returned (.tuple #[.int .i64 (otherV (T 0) t : Nat), .bool (otherB (T 0) t)]) ∧ Below w.heap.size w w' := by
  obtain ⟨c0, c1, c2, c3⟩ := h.cells (i := 0) (by omega)
  obtain ⟨l, hl⟩ : ∃ l, l = T 0 := ⟨_, rfl⟩
  rw [← hl] at c0 c1 c2 c3 ⊢
  obtain ⟨v0, t0, v1, t1⟩ := l
  have hlt := h.lt
  clear h hl
  simp only [Nat.zero_mul, Nat.zero_add] at c0 c1 c2 c3
  by_cases h0 : t0 = t
  · have b0 := bt h0
    have e1 : otherV ⟨v0, t0, v1, t1⟩ t = v1 := by unfold otherV; rw [if_pos h0]
    have e2 : otherB ⟨v0, t0, v1, t1⟩ t = ((t1 : Int) != 0) := by
      unfold otherB; rw [if_pos h0]
      show (t1 != 0) = _
      by_cases e : t1 = 0
      · subst e; rfl
      · rw [show (t1 != 0) = true by simpa using e, show ((t1 : Int) != 0) = true by simp; omega]
    rw [e1, e2]
    clear e1 e2
    go_enter Yba.func29, Yba.ntmps29
    go_wp2
    go_quiet (fail)
    go_wp2
    go_ret2
    exact ⟨rfl, Below.drewN ((Below.refl _ _).alloc (Nat.le_refl _) _) _⟩
  · have b0 := bf h0
    have e1 : otherV ⟨v0, t0, v1, t1⟩ t = v0 := by unfold otherV; rw [if_neg h0]
    have e2 : otherB ⟨v0, t0, v1, t1⟩ t = ((t0 : Int) != 0) := by
      unfold otherB; rw [if_neg h0]
      show (t0 != 0) = _
      by_cases e : t0 = 0
      · subst e; rfl
      · rw [show (t0 != 0) = true by simpa using e, show ((t0 : Int) != 0) = true by simp; omega]
    rw [e1, e2]
    clear e1 e2
    go_enter Yba.func29, Yba.ntmps29
    go_wp2
    go_quiet (fail)
    go_wp2
    go_ret2
    exact ⟨rfl, Below.drewN ((Below.refl _ _).alloc (Nat.le_refl _) _) _⟩

theorem add0_walk (g v t : Nat) (l : L2) (w : World) (h : L2Row w g 1 (fun _ => l)) :
    Calls Yba.prog 27 #[.pointer (some ⟨g, 0, none⟩), .int .i64 (v : Int), .int .i64 (t : Int)] w fun e w' =>
      e = .returned (.tuple #[]) ∧ L2Row w' g 1 (fun _ => addL l v t) ∧ Kept (fun k => k = g) w w' := by
  refine (add_walk g 1 0 v t (fun _ => l) w (by omega) h).mono ?_
  rintro e w' ⟨h1, h2, h3⟩
  exact ⟨h1, h2.congr fun i hi => by unfold updT; rw [if_pos (by omega)], h3⟩

theorem ix0 (a b c d : Value) (W : World) : (Instr.index 81 (.agg #[a, b, c, d]) (.int .i64 0)).run Yba.prog W = .ok (.agg #[a, b]) W := by
  kernel_rfl
theorem ix1 (a b c d : Value) (W : World) : (Instr.index 81 (.agg #[a, b, c, d]) (.int .i64 1)).run Yba.prog W = .ok (.agg #[c, d]) W := by
  kernel_rfl

/-- Behind j of the two places of m. -/
def mergeTo (l m : L2) : Nat → L2
  | 0 => l
  | 1 => if m.t0 = 0 then l else addL l m.v0 m.t0
  | _ => mergeL l m

set_option maxRecDepth 100000 in
set_option maxHeartbeats 1000000 in
theorem merge_walk (g : Nat) (l m : L2) (w : World) (h : L2Row w g 1 (fun _ => l)) :
    Calls Yba.prog 28 #[.pointer (some ⟨g, 0, none⟩), .agg #[.int .i64 m.v0, .int .i64 m.t0, .int .i64 m.v1, .int .i64 m.t1]] w fun e w' =>
      e = .returned (.tuple #[]) ∧ L2Row w' g 1 (fun _ => mergeL l m) ∧ Kept (fun k => k = g) w w' := by
  have HR : Hid (L2Row w g 1 (fun _ => l)) := h
  have hlt := h.lt
  clear h
  have i0 := @ix0
  have i1 := @ix1
  go_enter Yba.func28, Yba.ntmps28
  go_wp2
  go_loopw [7] (fun i wr => ∃ j : Nat, (j = 0 ∧ i = .int .i64 0 ∨ j = 1 ∧ i = .int .i64 1 ∨ j = 2 ∧ i = .int .i64 2) ∧ Hid (L2Row wr g 1 (fun _ => mergeTo l m j)) ∧ Hid (Kept (fun k => k = g) w wr)) (fun i _ => 2 - (intOf i).toNat)
  case atStart => exact ⟨0, .inl ⟨rfl, rfl⟩, HR.out.kept (Kept.alloc (fun _ => False) _ _) (fun h => h), Kept.alloc _ _ _⟩
  case round =>
    obtain ⟨j, hj, HR1, HK⟩ := hrel
    have hsz := HR1.out.lt
    rcases hj with ⟨rfl, rfl⟩ | ⟨rfl, rfl⟩ | ⟨rfl, rfl⟩
    · by_cases h0 : m.t0 = 0
      · have b0 : ((m.t0 : Int) == 0) = true := bt h0
        go_wp2
        go_roundw
        case rel =>
          refine ⟨1, .inr (.inl ⟨rfl, rfl⟩), ?_, HK.out.on (Kept.alloc (fun _ => False) _ _) (fun _ _ h => h.elim)⟩
          show L2Row _ g 1 (fun _ => if m.t0 = 0 then l else addL l m.v0 m.t0)
          rw [if_pos h0]
          exact HR1.out.kept (Kept.alloc (fun _ => False) _ _) (fun h => h)
        case measure => simp [intOf]
      · have b0 : ((m.t0 : Int) == 0) = false := bf h0
        go_wp2_with (first
          | (go_at_call 27
             refine (add0_walk g m.v0 m.t0 l _ (HR1.out.kept (Kept.alloc (fun _ => False) _ _) (fun h => h))).mono ?_
             rintro e w1 ⟨rfl, hr1, hk1⟩
             have HR2 : Hid (L2Row w1 g 1 (fun _ => addL l m.v0 m.t0)) := hr1
             have HK2 : Hid (Kept (fun k => k = g) w w1) := (HK.out.on (Kept.alloc (fun k => k = g) _ _) (fun _ _ h => h)).trans hk1
             clear hr1 hk1))
        go_roundw
        case rel =>
          refine ⟨1, .inr (.inl ⟨rfl, rfl⟩), ?_, HK2.out⟩
          show L2Row _ g 1 (fun _ => if m.t0 = 0 then l else addL l m.v0 m.t0)
          rw [if_neg h0]
          exact HR2.out
        case measure => simp [intOf]
    · by_cases h0 : m.t1 = 0
      · have b0 : ((m.t1 : Int) == 0) = true := bt h0
        go_wp2
        go_roundw
        case rel =>
          refine ⟨2, .inr (.inr ⟨rfl, rfl⟩), ?_, HK.out.on (Kept.alloc (fun _ => False) _ _) (fun _ _ h => h.elim)⟩
          show L2Row _ g 1 (fun _ => mergeL l m)
          unfold mergeL
          rw [if_pos h0]
          exact HR1.out.kept (Kept.alloc (fun _ => False) _ _) (fun h => h)
        case measure => simp [intOf]
      · have b0 : ((m.t1 : Int) == 0) = false := bf h0
        go_wp2_with (first
          | (go_at_call 27
             refine (add0_walk g m.v1 m.t1 (mergeTo l m 1) _ (HR1.out.kept (Kept.alloc (fun _ => False) _ _) (fun h => h))).mono ?_
             rintro e w1 ⟨rfl, hr1, hk1⟩
             have HR2 : Hid (L2Row w1 g 1 (fun _ => addL (mergeTo l m 1) m.v1 m.t1)) := hr1
             have HK2 : Hid (Kept (fun k => k = g) w w1) := (HK.out.on (Kept.alloc (fun k => k = g) _ _) (fun _ _ h => h)).trans hk1
             clear hr1 hk1))
        go_roundw
        case rel =>
          refine ⟨2, .inr (.inr ⟨rfl, rfl⟩), ?_, HK2.out⟩
          show L2Row _ g 1 (fun _ => mergeL l m)
          unfold mergeL
          rw [if_neg h0]
          exact HR2.out
        case measure => simp [intOf]
    · go_wp2
      go_end0
      exact ⟨rfl, HR1.out, HK.out⟩
end Go.Proofs.Ybulkdkuc.Sc
