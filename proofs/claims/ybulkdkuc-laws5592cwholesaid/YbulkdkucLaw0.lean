/-
  The law (4): its relations.
-/
import Derived.Test.YbulkdkucLib
import Derived.Test.YbulkdkucBd3
import Derived.Test.YbulkdkucModel0
namespace Go.Proofs.Ybulkdkuc.Sc
open Go.RowKit Go.Maps

theorem below_on {B : Nat} {w X X' : World} (h : Below B w X) (hB : B ≤ X.heap.size) (hb : Below X.heap.size X X') : Below B w X' :=
  ⟨hb.os.trans h.os, hb.tape.trans h.tape, hb.output.trans h.output, Nat.le_trans h.size hb.size, fun i hi => (hb.block i (Nat.lt_of_lt_of_le hi hB)).trans (h.block i hi)⟩
theorem below_set {B : Nat} {w X : World} (h : Below B w X) {b o : Nat} (v : Value) (hb : B ≤ b) : Below B w (X.setCell ⟨b, o, none⟩ v) :=
  ⟨h.os, h.tape, h.output, by simpa using h.size, fun i hi => (Below.heap_setCell _ _ _ _ (by intro e; have e' : i = b := e; omega)).trans (h.block i hi)⟩

/-- What the law finds behind the copies: the schedule, the copy of its operations, in W. -/
structure LD (w W : World) (S : Sch) (A A2 : Option Addr) (bv nv bs ns be ne : Nat) (DV DS DE : DataW Value) : Prop where
  bel : Below w.heap.size w W
  ops : OpsAt W A S.n S.O
  cpy : OpsAt W A2 S.n S.O
  oV : W.ownsMap Yba.prog 9 Rv bv nv DV
  oS : W.ownsMap Yba.prog 3 Rv bs ns DS
  oE : W.ownsMap Yba.prog 3 Rv be ne DE
  vd : VD W DV S.V
  sd : IM DS S.st
  ed : IM DE S.en
theorem LD.below {w W X : World} {S : Sch} {A A2 : Option Addr} {bv nv bs ns be ne : Nat} {DV DS DE : DataW Value} (h : LD w W S A A2 bv nv bs ns be ne DV DS DE) (hb : Below W.heap.size W X) : LD w X S A A2 bv nv bs ns be ne DV DS DE :=
  ⟨below_on h.bel h.bel.size hb, h.ops.below hb, h.cpy.below hb, owns_below h.oV hb, owns_below h.oS hb, owns_below h.oE hb, h.vd.below hb, h.sd, h.ed⟩
theorem LD.dat {w W : World} {S : Sch} {A A2 : Option Addr} {bv nv bs ns be ne : Nat} {DV DS DE : DataW Value} (h : LD w W S A A2 bv nv bs ns be ne DV DS DE) : Dat W S A bv nv bs ns be ne := ⟨h.ops, ⟨_, h.oV, h.vd⟩, ⟨_, h.oS, h.sd⟩, ⟨_, h.oE, h.ed⟩⟩

/-- The copies of the versions: behind k keys. -/
structure LV (W : World) (S : Sch) (k : Nat) (vs : Nat → Value) (wr : World) : Prop where
  bel : Below W.heap.size W wr
  keys : wr.heap[W.heap.size]? = some (.cells #[.string (kn 0), .string (kn 1), .string (kn 2)] 46 (0, 0))
  vc : wr.heap[W.heap.size + 1]? = some (.cells #[vs 0, vs 1, vs 2] 49 (0, 0))
  rows : ∀ i, i < k → ∃ A C, vs i = .slice A (S.V (kn i)).length C ∧ IntsAt wr A (S.V (kn i)) ∧ A.isNone = ((S.V (kn i)).length == 0)
  slc : ∀ i, ∃ A n C, vs i = .slice A n C

theorem LV.start (W : World) (S : Sch) : LV W S 0 (fun _ => .slice none 0 0) ((W.alloc (.cells #[.string (kn 0), .string (kn 1), .string (kn 2)] 46)).alloc (.cells #[.slice none 0 0, .slice none 0 0, .slice none 0 0] 49)) := by
  have e1 : (W.alloc (.cells #[.string (kn 0), .string (kn 1), .string (kn 2)] 46)).heap.size = W.heap.size + 1 := by simp
  refine ⟨((Below.refl _ _).alloc (Nat.le_refl _) _).alloc (by simp) _, ?_, ?_, fun i hi => absurd hi (Nat.not_lt_zero _), fun _ => ⟨_, _, _, rfl⟩⟩
  · rw [Below.heap_alloc _ _ _ (by omega)]
    exact (MapKept.heap_alloc W _).1
  · have := (MapKept.heap_alloc (W.alloc (.cells #[.string (kn 0), .string (kn 1), .string (kn 2)] 46)) (.cells #[.slice none 0 0, .slice none 0 0, .slice none 0 0] 49)).1
    rw [e1] at this; exact this

theorem LV.below {W wr X : World} {S : Sch} {k : Nat} {vs : Nat → Value} (h : LV W S k vs wr) (hb : Below wr.heap.size wr X) : LV W S k vs X :=
  ⟨below_on h.bel h.bel.size hb, (hb.block _ (lt_of h.keys)).trans h.keys, (hb.block _ (lt_of h.vc)).trans h.vc, fun i hi => by obtain ⟨A, C, h1, h2, h3⟩ := h.rows i hi; exact ⟨A, C, h1, h2.below hb, h3⟩, h.slc⟩
theorem LV.key {W wr : World} {S : Sch} {k i : Nat} {vs : Nat → Value} (h : LV W S k vs wr) (hi : i < 3) : wr.cell? ⟨W.heap.size, i, none⟩ = some (.string (kn i)) := by
  rw [cell_of h.keys]
  rcases (show i = 0 ∨ i = 1 ∨ i = 2 by omega) with rfl | rfl | rfl <;> rfl
theorem LV.at {W wr : World} {S : Sch} {k i : Nat} {vs : Nat → Value} (h : LV W S k vs wr) (hi : i < 3) : wr.cell? ⟨W.heap.size + 1, i, none⟩ = some (vs i) := by
  rw [cell_of h.vc]
  rcases (show i = 0 ∨ i = 1 ∨ i = 2 by omega) with rfl | rfl | rfl <;> rfl
/-- A row of numbers does not lie among the copies' heads. -/
theorem LV.ne {W wr : World} {S : Sch} {k : Nat} {vs : Nat → Value} (h : LV W S k vs wr) {g i : Nat} {z : Int} (hc : wr.cell? ⟨g, i, none⟩ = some (.int .i64 z)) : g ≠ W.heap.size + 1 := by
  intro e
  rw [e, cell_of h.vc] at hc
  obtain ⟨A0, n0, C0, e0⟩ := h.slc 0
  obtain ⟨A1, n1, C1, e1⟩ := h.slc 1
  obtain ⟨A2, n2, C2, e2⟩ := h.slc 2
  rw [e0, e1, e2] at hc
  match i with
  | 0 => simp at hc
  | 1 => simp at hc
  | 2 => simp at hc
  | i + 3 => simp at hc
/-- 'vcopy[k] = ..'. -/
theorem LV.store {W wr : World} {S : Sch} {k : Nat} {vs : Nat → Value} (h : LV W S k vs wr) (hk : k < 3) {A : Option Addr} {C : Nat} (hI : IntsAt wr A (S.V (kn k))) (hA : A.isNone = ((S.V (kn k)).length == 0)) :
    LV W S (k + 1) (updV vs k (.slice A (S.V (kn k)).length C)) (wr.setCell ⟨W.heap.size + 1, k, none⟩ (.slice A (S.V (kn k)).length C)) := by
  have hk2 : Kept (fun x => x = W.heap.size + 1) wr (wr.setCell ⟨W.heap.size + 1, k, none⟩ (.slice A (S.V (kn k)).length C)) := Kept.setCell _ _ _ rfl
  have keep : ∀ {A' : Option Addr} {xs : List Nat}, IntsAt wr A' xs → IntsAt (wr.setCell ⟨W.heap.size + 1, k, none⟩ (.slice A (S.V (kn k)).length C)) A' xs := fun {A' xs} hx i hi => by
    obtain ⟨g, e, hc⟩ := hx i hi
    exact ⟨g, e, hk2.cell (h.ne hc) hc⟩
  refine ⟨below_set h.bel _ (Nat.le_succ _), ?_, ?_, ?_, ?_⟩
  · exact (hk2.block _ (lt_of h.keys) (by omega)).trans h.keys
  · rw [heap_set _ h.vc]
    rcases (show k = 0 ∨ k = 1 ∨ k = 2 by omega) with rfl | rfl | rfl <;> rfl
  · intro i hi
    unfold updV
    by_cases e : i = k
    · subst e; rw [if_pos rfl]; exact ⟨A, C, rfl, keep hI, hA⟩
    · rw [if_neg e]
      obtain ⟨A', C', h1, h2, h3⟩ := h.rows i (by omega)
      exact ⟨A', C', h1, keep h2, h3⟩
  · intro i
    unfold updV
    by_cases e : i = k
    · rw [if_pos e]; exact ⟨_, _, _, rfl⟩
    · rw [if_neg e]; exact h.slc i

/-- Six cells. -/
abbrev six (F : Nat → Value) (t : TypeId) : Obj := .cells #[F 0, F 1, F 2, F 3, F 4, F 5] t (0, 0)
theorem six_cell {X : World} {b t i : Nat} {F : Nat → Value} (h : X.heap[b]? = some (six F t)) (hi : i ≤ 5) : X.cell? ⟨b, i, none⟩ = some (F i) := by
  rw [cell_of h]
  rcases (show i = 0 ∨ i = 1 ∨ i = 2 ∨ i = 3 ∨ i = 4 ∨ i = 5 by omega) with rfl | rfl | rfl | rfl | rfl | rfl <;> rfl
theorem six_set {X : World} {b t i : Nat} {F : Nat → Value} (h : X.heap[b]? = some (six F t)) (hi : i ≤ 5) (v : Value) : (X.setCell ⟨b, i, none⟩ v).heap[b]? = some (six (updV F i v) t) := by
  rw [heap_set _ h]
  rcases (show i = 0 ∨ i = 1 ∨ i = 2 ∨ i = 3 ∨ i = 4 ∨ i = 5 by omega) with rfl | rfl | rfl | rfl | rfl | rfl <;> rfl
theorem six_other {X : World} {b b' i t : Nat} {F : Nat → Value} (h : X.heap[b]? = some (six F t)) (v : Value) (hn : b ≠ b') : (X.setCell ⟨b', i, none⟩ v).heap[b]? = some (six F t) :=
  (Below.heap_setCell _ _ _ _ (by intro e; exact hn e)).trans h

/-- The copies of the starts and the ends: behind the numbers below t1, t2. q: the first of the four blocks. -/
structure LS (q : Nat) (S : Sch) (t1 t2 : Nat) (F1 F2 F3 F4 : Nat → Value) (wr : World) : Prop where
  b1 : wr.heap[q]? = some (six F1 51)
  b2 : wr.heap[q + 1]? = some (six F2 51)
  b3 : wr.heap[q + 2]? = some (six F3 52)
  b4 : wr.heap[q + 3]? = some (six F4 52)
  v1 : ∀ i, 1 ≤ i → i < t1 → F1 i = .int .i64 (gd S.st i : Nat)
  v2 : ∀ i, 1 ≤ i → i < t2 → F2 i = .int .i64 (gd S.en i : Nat)
  v3 : ∀ i, 1 ≤ i → i < t1 → F3 i = .bool (S.st i).isSome
  v4 : ∀ i, 1 ≤ i → i < t2 → F4 i = .bool (S.en i).isSome
theorem LS.below {q t1 t2 : Nat} {S : Sch} {F1 F2 F3 F4 : Nat → Value} {wr X : World} (h : LS q S t1 t2 F1 F2 F3 F4 wr) (hb : Below wr.heap.size wr X) : LS q S t1 t2 F1 F2 F3 F4 X :=
  ⟨(hb.block _ (lt_of h.b1)).trans h.b1, (hb.block _ (lt_of h.b2)).trans h.b2, (hb.block _ (lt_of h.b3)).trans h.b3, (hb.block _ (lt_of h.b4)).trans h.b4, h.v1, h.v2, h.v3, h.v4⟩
theorem updV_new (F : Nat → Value) (t : Nat) (v : Value) : updV F t v t = v := by unfold updV; rw [if_pos rfl]
theorem updV_old {F : Nat → Value} {t i : Nat} (v : Value) (h : i ≠ t) : updV F t v i = F i := by unfold updV; rw [if_neg h]
theorem LS.one {q t : Nat} {S : Sch} {F1 F2 F3 F4 : Nat → Value} {wr : World} (h : LS q S t t F1 F2 F3 F4 wr) (ht : t ≤ 5) :
    LS q S (t + 1) t (updV F1 t (.int .i64 (gd S.st t : Nat))) F2 (updV F3 t (.bool (S.st t).isSome)) F4 ((wr.setCell ⟨q, t, none⟩ (.int .i64 (gd S.st t : Nat))).setCell ⟨q + 2, t, none⟩ (.bool (S.st t).isSome)) where
  b1 := six_other (six_set h.b1 ht _) _ (by omega)
  b2 := six_other (six_other h.b2 _ (by omega)) _ (by omega)
  b3 := six_set (six_other h.b3 _ (by omega)) ht _
  b4 := six_other (six_other h.b4 _ (by omega)) _ (by omega)
  v1 := fun i h1 h2 => by
    by_cases e : i = t
    · subst e; rw [updV_new]
    · rw [updV_old _ e]; exact h.v1 i h1 (by omega)
  v2 := h.v2
  v3 := fun i h1 h2 => by
    by_cases e : i = t
    · subst e; rw [updV_new]
    · rw [updV_old _ e]; exact h.v3 i h1 (by omega)
  v4 := h.v4
theorem LS.two {q t : Nat} {S : Sch} {F1 F2 F3 F4 : Nat → Value} {wr : World} (h : LS q S (t + 1) t F1 F2 F3 F4 wr) (ht : t ≤ 5) :
    LS q S (t + 1) (t + 1) F1 (updV F2 t (.int .i64 (gd S.en t : Nat))) F3 (updV F4 t (.bool (S.en t).isSome)) ((wr.setCell ⟨q + 1, t, none⟩ (.int .i64 (gd S.en t : Nat))).setCell ⟨q + 3, t, none⟩ (.bool (S.en t).isSome)) where
  b1 := six_other (six_other h.b1 _ (by omega)) _ (by omega)
  b2 := six_other (six_set h.b2 ht _) _ (by omega)
  b3 := six_other (six_other h.b3 _ (by omega)) _ (by omega)
  b4 := six_set (six_other h.b4 _ (by omega)) ht _
  v1 := h.v1
  v2 := fun i h1 h2 => by
    by_cases e : i = t
    · subst e; rw [updV_new]
    · rw [updV_old _ e]; exact h.v2 i h1 (by omega)
  v3 := h.v3
  v4 := fun i h1 h2 => by
    by_cases e : i = t
    · subst e; rw [updV_new]
    · rw [updV_old _ e]; exact h.v4 i h1 (by omega)
abbrev z51 : Obj := .cells #[.int .i64 0, .int .i64 0, .int .i64 0, .int .i64 0, .int .i64 0, .int .i64 0] 51
abbrev z52 : Obj := .cells #[.bool false, .bool false, .bool false, .bool false, .bool false, .bool false] 52
theorem LS.start (X : World) (S : Sch) : LS X.heap.size S 1 1 (fun _ => .int .i64 0) (fun _ => .int .i64 0) (fun _ => .bool false) (fun _ => .bool false) ((((X.alloc z51).alloc z51).alloc z52).alloc z52) := by
  have e1 : (X.alloc z51).heap.size = X.heap.size + 1 := by simp
  have e2 : ((X.alloc z51).alloc z51).heap.size = X.heap.size + 2 := by simp
  have e3 : (((X.alloc z51).alloc z51).alloc z52).heap.size = X.heap.size + 3 := by simp
  refine ⟨?_, ?_, ?_, ?_, fun i h1 h2 => by omega, fun i h1 h2 => by omega, fun i h1 h2 => by omega, fun i h1 h2 => by omega⟩
  · rw [Below.heap_alloc _ _ _ (by omega), Below.heap_alloc _ _ _ (by omega), Below.heap_alloc _ _ _ (by omega)]
    exact (MapKept.heap_alloc X _).1
  · rw [Below.heap_alloc _ _ _ (by omega), Below.heap_alloc _ _ _ (by omega), ← e1]
    exact (MapKept.heap_alloc _ _).1
  · rw [Below.heap_alloc _ _ _ (by omega), ← e2]
    exact (MapKept.heap_alloc _ _).1
  · rw [← e3]
    exact (MapKept.heap_alloc _ _).1
theorem below4 (X : World) (o1 o2 o3 o4 : Obj) : Below X.heap.size X ((((X.alloc o1).alloc o2).alloc o3).alloc o4) :=
  ((((Below.refl _ _).alloc (Nat.le_refl _) _).alloc (by simp) _).alloc (by simp; omega) _).alloc (by simp; omega) _
/-- All that the law compares, in one world. -/
structure LF (w W : World) (S : Sch) (A A2 : Option Addr) (C bv nv bs ns be ne q bS : Nat) (DV DS DE : DataW Value) (vs F1 F2 F3 F4 : Nat → Value) (X : World) : Prop where
  ld : LD w X S A A2 bv nv bs ns be ne DV DS DE
  lv : LV W S 3 vs X
  ls : LS q S 6 6 F1 F2 F3 F4 X
  sat : SAt X bS A S.n C bv bs be
theorem LF.below {w W X X' : World} {S : Sch} {A A2 : Option Addr} {C bv nv bs ns be ne q bS : Nat} {DV DS DE : DataW Value} {vs F1 F2 F3 F4 : Nat → Value} (h : LF w W S A A2 C bv nv bs ns be ne q bS DV DS DE vs F1 F2 F3 F4 X) (hb : Below X.heap.size X X') : LF w W S A A2 C bv nv bs ns be ne q bS DV DS DE vs F1 F2 F3 F4 X' :=
  ⟨h.ld.below hb, h.lv.below hb, h.ls.below hb, h.sat.below hb⟩
theorem LF.made {w W X1 X : World} {S : Sch} {A A2 : Option Addr} {C bv nv bs ns be ne q : Nat} {DV DS DE : DataW Value} {vs F1 F2 F3 F4 : Nat → Value} (h1 : LD w X1 S A A2 bv nv bs ns be ne DV DS DE) (h2 : LV W S 3 vs X1) (hb : Below X1.heap.size X1 X) (h3 : LS q S 6 6 F1 F2 F3 F4 X) :
    LF w W S A A2 C bv nv bs ns be ne q X.heap.size DV DS DE vs F1 F2 F3 F4 (X.alloc (.cells #[.slice A S.n C, .map (some bv), .map (some bs), .map (some be)] 55)) := by
  have ha : Below X.heap.size X (X.alloc (.cells #[.slice A S.n C, .map (some bv), .map (some bs), .map (some be)] 55)) := (Below.refl _ _).alloc (Nat.le_refl _) _
  have hc := (MapKept.heap_alloc X (.cells #[.slice A S.n C, .map (some bv), .map (some bs), .map (some be)] 55)).1
  exact ⟨(h1.below hb).below ha, (h2.below hb).below ha, h3.below ha, by unfold SAt; simp only [cell_of hc]; exact ⟨rfl, rfl, rfl, rfl⟩⟩
theorem below_drew (X : World) (m : Nat) : Below X.heap.size X (X.drewN m) := ⟨rfl, rfl, rfl, Nat.le_refl _, fun _ _ => rfl⟩
/-- 'v, ok := versions[x]', in whatever world behind w. -/
theorem VD.runs_ok {w : World} {b n : Nat} {D : DataW Value} {V : ByteArray → List Nat} (ho : w.ownsMap Yba.prog 9 Rv b n D) (h : VD w D V) {x : ByteArray} (hx : x.size ≤ 1) :
    ∃ A C, (∀ w', Below w.heap.size w w' → (Instr.lookup 36 (.map (some b)) (.string x) true).run Yba.prog w' = .ok (.tuple #[.slice A (V x).length C, .bool ((V x).length != 0)]) w') ∧ IntsAt w A (V x) := by
  obtain ⟨A, C, h1, h2, _⟩ := h.run ho hx
  refine ⟨A, C, fun w' hb => ?_, h2⟩
  have e1 := h1 true
  rw [look_ok_run ho K9 Yba.underlying36 (zero48 w) (key9 hx)] at e1
  rw [look_ok_run (owns_below ho hb) K9 Yba.underlying36 (zero48 w') (key9 hx)]
  injection e1 with e1 _
  rw [e1]; rfl
end Go.Proofs.Ybulkdkuc.Sc
