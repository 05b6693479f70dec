/-
  The two latest: add (27), other (29), merge (28).
-/
import Derived.Test.YbulkdkucLeaf
import Derived.WalkLawsBesides
import Derived.RegionTactic
namespace Go.Proofs.Ybulkdkuc.Sc
open Go.RowKit Go.Maps

def L2At (C : Array Value) (i : Nat) (l : L2) : Prop :=
  C[i * 4]? = some (.int .i64 l.v0) ∧ C[i * 4 + 1]? = some (.int .i64 l.t0) ∧ C[i * 4 + 2]? = some (.int .i64 l.v1) ∧ C[i * 4 + 3]? = some (.int .i64 l.t1)
/-- Block g is a row of m such pairs. -/
def L2Row (w : World) (g m : Nat) (T : Nat → L2) : Prop := ∃ C, w.heap[g]? = some (.cells C 81 (0, 0)) ∧ C.size = m * 4 ∧ ∀ i, i < m → L2At C i (T i)
def updT (T : Nat → L2) (p : Nat) (l : L2) : Nat → L2 := fun i => if i = p then l else T i

theorem L2Row.lt {w : World} {g m : Nat} {T : Nat → L2} (h : L2Row w g m T) : g < w.heap.size := by obtain ⟨C, h, _⟩ := h; exact lt_of h
theorem L2Row.frozen {w : World} {g m : Nat} {T : Nat → L2} (h : L2Row w g m T) (o : Nat) : w.frozen? ⟨g, o, none⟩ = false := by obtain ⟨C, h, _⟩ := h; exact frozen_of h
theorem L2Row.cells {w : World} {g m : Nat} {T : Nat → L2} (h : L2Row w g m T) {i : Nat} (hi : i < m) :
    w.cell? ⟨g, i * 4, none⟩ = some (.int .i64 (T i).v0) ∧ w.cell? ⟨g, i * 4 + 1, none⟩ = some (.int .i64 (T i).t0) ∧ w.cell? ⟨g, i * 4 + 2, none⟩ = some (.int .i64 (T i).v1) ∧ w.cell? ⟨g, i * 4 + 3, none⟩ = some (.int .i64 (T i).t1) := by
  obtain ⟨C, h, _, hc⟩ := h
  simp only [cell_of h]
  exact hc i hi
theorem L2Row.of_block {w w' : World} {g m : Nat} {T : Nat → L2} (h : L2Row w g m T) (e : w'.heap[g]? = w.heap[g]?) : L2Row w' g m T := by
  obtain ⟨C, h, r⟩ := h; exact ⟨C, e.trans h, r⟩
theorem L2Row.kept {S : Nat → Prop} {w w' : World} {g m : Nat} {T : Nat → L2} (h : L2Row w g m T) (hk : Kept S w w') (hn : ¬ S g) : L2Row w' g m T := h.of_block (hk.block g h.lt hn)
theorem L2Row.congr {w : World} {g m : Nat} {T T' : Nat → L2} (h : L2Row w g m T) (e : ∀ i, i < m → T i = T' i) : L2Row w g m T' := by
  obtain ⟨C, h, hs, hc⟩ := h; exact ⟨C, h, hs, fun i hi => by rw [← e i hi]; exact hc i hi⟩
theorem L2Row.same {w : World} {g m : Nat} {T : Nat → L2} (h : L2Row w g m T) {p : Nat} {l : L2} (e : T p = l) : L2Row w g m (updT T p l) := h.congr fun i _ => by
  unfold updT; split
  · rename_i e'; rw [e', e]
  · rfl

/-- A pair stored whole, cell by cell. -/
theorem L2Row.store {w : World} {g m : Nat} {T : Nat → L2} (h : L2Row w g m T) {p : Nat} (hp : p < m) (l : L2) {C' : Array Value}
    {w' : World} (hw : w'.heap[g]? = some (.cells C' 81 (0, 0))) (hC : ∀ C, w.heap[g]? = some (.cells C 81 (0, 0)) → C'.size = C.size ∧ (∀ j, j < p * 4 ∨ p * 4 + 4 ≤ j → C'[j]? = C[j]?)) (hl : L2At C' p l) : L2Row w' g m (updT T p l) := by
  obtain ⟨C, h, hs, hc⟩ := h
  obtain ⟨h1, h2⟩ := hC C h
  refine ⟨C', hw, h1.trans hs, fun i hi => ?_⟩
  unfold updT
  by_cases e : i = p
  · subst e; rw [if_pos rfl]; exact hl
  · rw [if_neg e]
    obtain ⟨a, b, c, d⟩ := hc i hi
    exact ⟨(h2 _ (by omega)).trans a, (h2 _ (by omega)).trans b, (h2 _ (by omega)).trans c, (h2 _ (by omega)).trans d⟩

theorem Kept.set {g : Nat} {w w' : World} (h : Kept (fun k => k = g) w w') (o : Nat) (v : Value) : Kept (fun k => k = g) w (w'.setCell ⟨g, o, none⟩ v) := h.trans (Kept.setCell _ _ _ rfl)
theorem addL_in {l : L2} {v t : Nat} (h : t = l.t0 ∨ t = l.t1) : addL l v t = l := by unfold addL; rw [if_pos h]
theorem addL_top {l : L2} {v t : Nat} (h0 : t ≠ l.t0) (h1 : t ≠ l.t1) (h : l.t0 = 0 ∨ l.v0 < v) : addL l v t = ⟨v, t, l.v0, l.t0⟩ := by
  unfold addL; rw [if_neg (by intro e; rcases e with e | e; exact h0 e; exact h1 e), if_pos h]
theorem addL_low {l : L2} {v t : Nat} (h0 : t ≠ l.t0) (h1 : t ≠ l.t1) (h2 : l.t0 ≠ 0) (h3 : ¬ l.v0 < v) (h : l.t1 = 0 ∨ l.v1 < v) : addL l v t = ⟨l.v0, l.t0, v, t⟩ := by
  unfold addL; rw [if_neg (by intro e; rcases e with e | e; exact h0 e; exact h1 e), if_neg (by intro e; rcases e with e | e; exact h2 e; exact h3 e), if_pos h]
theorem addL_out {l : L2} {v t : Nat} (h0 : t ≠ l.t0) (h1 : t ≠ l.t1) (h2 : l.t0 ≠ 0) (h3 : ¬ l.v0 < v) (h4 : l.t1 ≠ 0) (h5 : ¬ l.v1 < v) : addL l v t = l := by
  unfold addL; rw [if_neg (by intro e; rcases e with e | e; exact h0 e; exact h1 e), if_neg (by intro e; rcases e with e | e; exact h2 e; exact h3 e), if_neg (by intro e; rcases e with e | e; exact h4 e; exact h5 e)]

/-- The pair at p is written whole: its four cells. -/
theorem L2Row.put4 {w : World} {g m : Nat} {T : Nat → L2} (h : L2Row w g m T) {p : Nat} (hp : p < m) (a b c d : Nat) :
    L2Row ((((w.setCell ⟨g, p * 4 + 2, none⟩ (.int .i64 c)).setCell ⟨g, p * 4 + 2 + 1, none⟩ (.int .i64 d)).setCell ⟨g, p * 4, none⟩ (.int .i64 a)).setCell ⟨g, p * 4 + 1, none⟩ (.int .i64 b)) g m (updT T p ⟨a, b, c, d⟩) := by
  obtain ⟨C, hC, hs, hc⟩ := id h
  refine h.store hp _ (heap_set _ (heap_set _ (heap_set _ (heap_set _ hC)))) (fun C2 h2 => ?_) ?_
  · rw [hC] at h2; cases h2
    refine ⟨by simp, fun j hj => ?_⟩
    simp only [Array.getElem?_setIfInBounds, Array.size_setIfInBounds]
    rw [if_neg (by omega), if_neg (by omega), if_neg (by omega), if_neg (by omega)]
  · unfold L2At
    simp only [Array.getElem?_setIfInBounds, Array.size_setIfInBounds, hs]
    refine ⟨?_, ?_, ?_, ?_⟩
    · rw [if_neg (by omega), if_pos trivial, if_pos (by omega)]
    · rw [if_pos trivial, if_pos (by omega)]
    · rw [if_neg (by omega), if_neg (by omega), if_neg (by omega), if_pos trivial, if_pos (by omega)]
    · rw [if_neg (by omega), if_neg (by omega), if_pos trivial, if_pos (by omega)]
/-- Its two last cells. -/
theorem L2Row.put2 {w : World} {g m : Nat} {T : Nat → L2} (h : L2Row w g m T) {p : Nat} (hp : p < m) (c d : Nat) :
    L2Row ((w.setCell ⟨g, p * 4 + 2, none⟩ (.int .i64 c)).setCell ⟨g, p * 4 + 2 + 1, none⟩ (.int .i64 d)) g m (updT T p ⟨(T p).v0, (T p).t0, c, d⟩) := by
  obtain ⟨C, hC, hs, hc⟩ := id h
  refine h.store hp _ (heap_set _ (heap_set _ hC)) (fun C2 h2 => ?_) ?_
  · rw [hC] at h2; cases h2
    refine ⟨by simp, fun j hj => ?_⟩
    simp only [Array.getElem?_setIfInBounds]
    rw [if_neg (by omega), if_neg (by omega)]
  · obtain ⟨a1, a2, _, _⟩ := hc p hp
    unfold L2At
    simp only [Array.getElem?_setIfInBounds, Array.size_setIfInBounds, hs]
    refine ⟨?_, ?_, ?_, ?_⟩
    · rw [if_neg (by omega), if_neg (by omega)]; exact a1
    · rw [if_neg (by omega), if_neg (by omega)]; exact a2
    · rw [if_neg (by omega), if_pos trivial, if_pos (by omega)]
    · rw [if_pos trivial, if_pos (by omega)]

set_option maxHeartbeats 1000000 in
theorem add_in0 (g m p v t v0 t0 v1 t1 : Nat) (T : Nat → L2) (w : World) (hp : p < m) (h : L2Row w g m T) (hl : ⟨v0, t0, v1, t1⟩ = T p) (h0 : t = t0) :
    Calls Yba.prog 27 #[.pointer (some ⟨g, p * 4, none⟩), .int .i64 (v : Int), .int .i64 (t : Int)] w fun e w' =>
      e = .returned (.tuple #[]) ∧ L2Row w' g m (updT T p (addL (T p) v t)) ∧ Kept (fun k => k = g) w w' := by
  obtain ⟨c0, c1, c2, c3⟩ := h.cells hp
  have f0 := h.frozen (p * 4)
  have f1 := h.frozen (p * 4 + 1)
  have f2 := h.frozen (p * 4 + 2)
  have f3 := h.frozen (p * 4 + 3)
  have HR : Hid (L2Row w g m T) := h
  have HP : Hid (p < m) := hp
  rw [← hl] at c0 c1 c2 c3 ⊢
  have HL : Hid (⟨v0, t0, v1, t1⟩ = T p) := hl
  clear h hl hp
  dsimp only at c0 c1 c2 c3
  have b0 := bt h0
  go_enter Yba.func27, Yba.ntmps27
  go_wp2
  go_end0
  refine ⟨rfl, ?_, Kept.refl _ _⟩
  rw [addL_in (.inl h0)]
  exact HR.out.same HL.out.symm

set_option maxHeartbeats 1000000 in
theorem add_in1 (g m p v t v0 t0 v1 t1 : Nat) (T : Nat → L2) (w : World) (hp : p < m) (h : L2Row w g m T) (hl : ⟨v0, t0, v1, t1⟩ = T p) (h0 : t ≠ t0) (h1 : t = t1) :
    Calls Yba.prog 27 #[.pointer (some ⟨g, p * 4, none⟩), .int .i64 (v : Int), .int .i64 (t : Int)] w fun e w' =>
      e = .returned (.tuple #[]) ∧ L2Row w' g m (updT T p (addL (T p) v t)) ∧ Kept (fun k => k = g) w w' := by
  obtain ⟨c0, c1, c2, c3⟩ := h.cells hp
  have f0 := h.frozen (p * 4)
  have f1 := h.frozen (p * 4 + 1)
  have f2 := h.frozen (p * 4 + 2)
  have f3 := h.frozen (p * 4 + 3)
  have HR : Hid (L2Row w g m T) := h
  have HP : Hid (p < m) := hp
  rw [← hl] at c0 c1 c2 c3 ⊢
  have HL : Hid (⟨v0, t0, v1, t1⟩ = T p) := hl
  clear h hl hp
  dsimp only at c0 c1 c2 c3
  have b0 := bf h0
  have b1 := bt h1
  go_enter Yba.func27, Yba.ntmps27
  go_wp2
  go_end0
  refine ⟨rfl, ?_, Kept.refl _ _⟩
  rw [addL_in (.inr h1)]
  exact HR.out.same HL.out.symm

set_option maxHeartbeats 1000000 in
theorem add_top0 (g m p v t v0 t0 v1 t1 : Nat) (T : Nat → L2) (w : World) (hp : p < m) (h : L2Row w g m T) (hl : ⟨v0, t0, v1, t1⟩ = T p) (h0 : t ≠ t0) (h1 : t ≠ t1) (h2 : t0 = 0) :
    Calls Yba.prog 27 #[.pointer (some ⟨g, p * 4, none⟩), .int .i64 (v : Int), .int .i64 (t : Int)] w fun e w' =>
      e = .returned (.tuple #[]) ∧ L2Row w' g m (updT T p (addL (T p) v t)) ∧ Kept (fun k => k = g) w w' := by
  obtain ⟨c0, c1, c2, c3⟩ := h.cells hp
  have f0 := h.frozen (p * 4)
  have f1 := h.frozen (p * 4 + 1)
  have f2 := h.frozen (p * 4 + 2)
  have f3 := h.frozen (p * 4 + 3)
  have HR : Hid (L2Row w g m T) := h
  have HP : Hid (p < m) := hp
  rw [← hl] at c0 c1 c2 c3 ⊢
  have HL : Hid (⟨v0, t0, v1, t1⟩ = T p) := hl
  clear h hl hp
  dsimp only at c0 c1 c2 c3
  have b0 := bf h0
  have b1 := bf h1
  have b2 : ((t0 : Int) == 0) = true := bt h2
  go_enter Yba.func27, Yba.ntmps27
  go_wp2
  go_region
  go_wp2
  go_region
  go_end0
  refine ⟨rfl, ?_, ?_⟩
  · rw [addL_top h0 h1 (.inl h2)]
    subst h2
    exact (HR.out.put4 HP.out v t v0 0).of_block rfl
  · exact (((((Kept.refl (fun k => k = g) w).set _ _).set _ _).set _ _).set _ _).drew1.drew1

set_option maxHeartbeats 1000000 in
theorem add_top1 (g m p v t v0 t0 v1 t1 : Nat) (T : Nat → L2) (w : World) (hp : p < m) (h : L2Row w g m T) (hl : ⟨v0, t0, v1, t1⟩ = T p) (h0 : t ≠ t0) (h1 : t ≠ t1) (h3 : t0 ≠ 0) (h2 : v0 < v) :
    Calls Yba.prog 27 #[.pointer (some ⟨g, p * 4, none⟩), .int .i64 (v : Int), .int .i64 (t : Int)] w fun e w' =>
      e = .returned (.tuple #[]) ∧ L2Row w' g m (updT T p (addL (T p) v t)) ∧ Kept (fun k => k = g) w w' := by
  obtain ⟨c0, c1, c2, c3⟩ := h.cells hp
  have f0 := h.frozen (p * 4)
  have f1 := h.frozen (p * 4 + 1)
  have f2 := h.frozen (p * 4 + 2)
  have f3 := h.frozen (p * 4 + 3)
  have HR : Hid (L2Row w g m T) := h
  have HP : Hid (p < m) := hp
  rw [← hl] at c0 c1 c2 c3 ⊢
  have HL : Hid (⟨v0, t0, v1, t1⟩ = T p) := hl
  clear h hl hp
  dsimp only at c0 c1 c2 c3
  have b0 := bf h0
  have b1 := bf h1
  have b2 : ((t0 : Int) == 0) = false := bf h3
  have b3 : (v0 : Int) < (v : Int) := by omega
  go_enter Yba.func27, Yba.ntmps27
  go_wp2
  go_region
  go_wp2
  go_region
  go_end0
  refine ⟨rfl, ?_, ?_⟩
  · rw [addL_top h0 h1 (.inr h2)]
    exact (HR.out.put4 HP.out v t v0 t0).of_block rfl
  · exact (((((Kept.refl (fun k => k = g) w).set _ _).set _ _).set _ _).set _ _).drew1.drew1

set_option maxHeartbeats 1000000 in
theorem add_low0 (g m p v t v0 t0 v1 t1 : Nat) (T : Nat → L2) (w : World) (hp : p < m) (h : L2Row w g m T) (hl : ⟨v0, t0, v1, t1⟩ = T p) (h0 : t ≠ t0) (h1 : t ≠ t1) (h2 : t0 ≠ 0) (h3 : ¬ v0 < v) (h4 : t1 = 0) :
    Calls Yba.prog 27 #[.pointer (some ⟨g, p * 4, none⟩), .int .i64 (v : Int), .int .i64 (t : Int)] w fun e w' =>
      e = .returned (.tuple #[]) ∧ L2Row w' g m (updT T p (addL (T p) v t)) ∧ Kept (fun k => k = g) w w' := by
  obtain ⟨c0, c1, c2, c3⟩ := h.cells hp
  have f0 := h.frozen (p * 4)
  have f1 := h.frozen (p * 4 + 1)
  have f2 := h.frozen (p * 4 + 2)
  have f3 := h.frozen (p * 4 + 3)
  have HR : Hid (L2Row w g m T) := h
  have HP : Hid (p < m) := hp
  rw [← hl] at c0 c1 c2 c3 ⊢
  have HL : Hid (⟨v0, t0, v1, t1⟩ = T p) := hl
  clear h hl hp
  dsimp only at c0 c1 c2 c3
  have b0 := bf h0
  have b1 := bf h1
  have b2 : ((t0 : Int) == 0) = false := bf h2
  have b3 : ¬ (v0 : Int) < (v : Int) := by omega
  have b4 : ((t1 : Int) == 0) = true := bt h4
  go_enter Yba.func27, Yba.ntmps27
  go_wp2
  go_region
  go_end0
  refine ⟨rfl, ?_, ?_⟩
  · rw [addL_low h0 h1 h2 h3 (.inl h4)]
    have := HR.out.put2 HP.out v t
    rw [← HL.out] at this
    exact this.of_block rfl
  · exact (((Kept.refl (fun k => k = g) w).set _ _).set _ _).drew1

set_option maxHeartbeats 1000000 in
theorem add_low1 (g m p v t v0 t0 v1 t1 : Nat) (T : Nat → L2) (w : World) (hp : p < m) (h : L2Row w g m T) (hl : ⟨v0, t0, v1, t1⟩ = T p) (h0 : t ≠ t0) (h1 : t ≠ t1) (h2 : t0 ≠ 0) (h3 : ¬ v0 < v) (h5 : t1 ≠ 0) (h4 : v1 < v) :
    Calls Yba.prog 27 #[.pointer (some ⟨g, p * 4, none⟩), .int .i64 (v : Int), .int .i64 (t : Int)] w fun e w' =>
      e = .returned (.tuple #[]) ∧ L2Row w' g m (updT T p (addL (T p) v t)) ∧ Kept (fun k => k = g) w w' := by
  obtain ⟨c0, c1, c2, c3⟩ := h.cells hp
  have f0 := h.frozen (p * 4)
  have f1 := h.frozen (p * 4 + 1)
  have f2 := h.frozen (p * 4 + 2)
  have f3 := h.frozen (p * 4 + 3)
  have HR : Hid (L2Row w g m T) := h
  have HP : Hid (p < m) := hp
  rw [← hl] at c0 c1 c2 c3 ⊢
  have HL : Hid (⟨v0, t0, v1, t1⟩ = T p) := hl
  clear h hl hp
  dsimp only at c0 c1 c2 c3
  have b0 := bf h0
  have b1 := bf h1
  have b2 : ((t0 : Int) == 0) = false := bf h2
  have b3 : ¬ (v0 : Int) < (v : Int) := by omega
  have b4 : ((t1 : Int) == 0) = false := bf h5
  have b5 : (v1 : Int) < (v : Int) := by omega
  go_enter Yba.func27, Yba.ntmps27
  go_wp2
  go_region
  go_end0
  refine ⟨rfl, ?_, ?_⟩
  · rw [addL_low h0 h1 h2 h3 (.inr h4)]
    have := HR.out.put2 HP.out v t
    rw [← HL.out] at this
    exact this.of_block rfl
  · exact (((Kept.refl (fun k => k = g) w).set _ _).set _ _).drew1

set_option maxHeartbeats 1000000 in
theorem add_out (g m p v t v0 t0 v1 t1 : Nat) (T : Nat → L2) (w : World) (hp : p < m) (h : L2Row w g m T) (hl : ⟨v0, t0, v1, t1⟩ = T p) (h0 : t ≠ t0) (h1 : t ≠ t1) (h2 : t0 ≠ 0) (h3 : ¬ v0 < v) (h4 : t1 ≠ 0) (h5 : ¬ v1 < v) :
    Calls Yba.prog 27 #[.pointer (some ⟨g, p * 4, none⟩), .int .i64 (v : Int), .int .i64 (t : Int)] w fun e w' =>
      e = .returned (.tuple #[]) ∧ L2Row w' g m (updT T p (addL (T p) v t)) ∧ Kept (fun k => k = g) w w' := by
  obtain ⟨c0, c1, c2, c3⟩ := h.cells hp
  have f0 := h.frozen (p * 4)
  have f1 := h.frozen (p * 4 + 1)
  have f2 := h.frozen (p * 4 + 2)
  have f3 := h.frozen (p * 4 + 3)
  have HR : Hid (L2Row w g m T) := h
  have HP : Hid (p < m) := hp
  rw [← hl] at c0 c1 c2 c3 ⊢
  have HL : Hid (⟨v0, t0, v1, t1⟩ = T p) := hl
  clear h hl hp
  dsimp only at c0 c1 c2 c3
  have b0 := bf h0
  have b1 := bf h1
  have b2 : ((t0 : Int) == 0) = false := bf h2
  have b3 : ¬ (v0 : Int) < (v : Int) := by omega
  have b4 : ((t1 : Int) == 0) = false := bf h4
  have b5 : ¬ (v1 : Int) < (v : Int) := by omega
  go_enter Yba.func27, Yba.ntmps27
  go_wp2
  go_end0
  refine ⟨rfl, ?_, Kept.refl _ _⟩
  rw [addL_out h0 h1 h2 h3 h4 h5]
  exact HR.out.same HL.out.symm

theorem add_walk (g m p v t : Nat) (T : Nat → L2) (w : World) (hp : p < m) (h : L2Row w g m T) :
    Calls Yba.prog 27 #[.pointer (some ⟨g, p * 4, none⟩), .int .i64 (v : Int), .int .i64 (t : Int)] w fun e w' =>
      e = .returned (.tuple #[]) ∧ L2Row w' g m (updT T p (addL (T p) v t)) ∧ Kept (fun k => k = g) w w' := by
  obtain ⟨l, hl⟩ : ∃ l, l = T p := ⟨_, rfl⟩
  obtain ⟨v0, t0, v1, t1⟩ := l
  by_cases h0 : t = t0
  · exact add_in0 g m p v t v0 t0 v1 t1 T w hp h hl h0
  by_cases h1 : t = t1
  · exact add_in1 g m p v t v0 t0 v1 t1 T w hp h hl h0 h1
  by_cases h2 : t0 = 0
  · exact add_top0 g m p v t v0 t0 v1 t1 T w hp h hl h0 h1 h2
  by_cases h3 : v0 < v
  · exact add_top1 g m p v t v0 t0 v1 t1 T w hp h hl h0 h1 h2 h3
  by_cases h4 : t1 = 0
  · exact add_low0 g m p v t v0 t0 v1 t1 T w hp h hl h0 h1 h2 h3 h4
  by_cases h5 : v1 < v
  · exact add_low1 g m p v t v0 t0 v1 t1 T w hp h hl h0 h1 h2 h3 h4 h5
  exact add_out g m p v t v0 t0 v1 t1 T w hp h hl h0 h1 h2 h3 h4 h5
end Go.Proofs.Ybulkdkuc.Sc
