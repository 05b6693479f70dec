/-
  The program's own search (16): its relations.
-/
import Derived.Test.YbulkdkucRd
import Derived.Test.YbulkdkucLeaf
namespace Go.Proofs.Ybulkdkuc.Sc
open Go.RowKit Go.Maps

/-- What the search finds in memory, whatever blocks are laid behind it. -/
structure DD (W : World) (S : Sch) (A : Option Addr) (C bS bv nv bs ns be ne bx Bv : Nat) : Prop where
  dat : Dat W S A bv nv bs ns be ne
  sat : SAt W bS A S.n C bv bs be
  ver : VerMap W Bv bx S.V
theorem DD.below {W W' : World} {S : Sch} {A : Option Addr} {C bS bv nv bs ns be ne bx Bv : Nat} (h : DD W S A C bS bv nv bs ns be ne bx Bv) (hb : Below W.heap.size W W') : DD W' S A C bS bv nv bs ns be ne bx Bv :=
  ⟨h.dat.below hb, h.sat.below hb, h.ver.below hb⟩

/-- Behind i operations: 'next' of i' operations, the readers of i. B: the first block of the search's own. -/
structure R1 (W : World) (S : Sch) (i' i nr : Nat) (G : ByteArray → Option Nat) (T : ByteArray → Nat → L2) (D : DataW Value) (wr : World) : Prop where
  bel : Below W.heap.size W wr
  nx : IMap wr W.heap.size i' (nextTo S i')
  pv : IMap wr (W.heap.size + 1) 0 (fun _ => none)
  rm : RM wr (W.heap.size + 2) nr (W.heap.size + 3) S.V G T D
  rp : RP S i G T
  sz : W.heap.size + 3 ≤ wr.heap.size

theorem R1.start (W : World) (S : Sch) : R1 W S 0 0 0 (fun _ => none) (fun _ _ => l2z) (.map []) (((W.alloc (.map #[] 0)).alloc (.map #[] 0)).alloc (.map #[] 0)) := by
  have e1 : (W.alloc (.map #[] 0)).heap.size = W.heap.size + 1 := by simp
  have e2 : ((W.alloc (.map #[] 0)).alloc (.map #[] 0)).heap.size = W.heap.size + 2 := by simp
  refine ⟨(((Below.refl _ _).alloc (Nat.le_refl _) _).alloc (by simp) _).alloc (by simp; omega) _, ?_, ?_, ?_, rp_start S, by simp⟩
  · exact (((IMap.made W).kept (Kept.alloc (fun _ => False) _ _) id).kept (Kept.alloc (fun _ => False) _ _) id).congr fun t => rfl
  · have := (IMap.made (W.alloc (.map #[] 0))).kept (Kept.alloc (fun _ => False) _ (.map #[] 0)) id
    rw [e1] at this
    exact this
  · have := RM.made ((W.alloc (.map #[] 0)).alloc (.map #[] 0)) (W.heap.size + 3) S.V
    rw [e2] at this
    exact this

theorem R1.alloc {W wr : World} {S : Sch} {i' i nr : Nat} {G : ByteArray → Option Nat} {T : ByteArray → Nat → L2} {D : DataW Value} (h : R1 W S i' i nr G T D wr) (o : Obj) (m : Nat) : R1 W S i' i nr G T D ((wr.alloc o).drewN m) := by
  have hk : Kept (fun _ => False) wr ((wr.alloc o).drewN m) := (Kept.alloc _ _ _).drewN m
  refine ⟨?_, h.nx.kept hk id, h.pv.kept hk id, h.rm.kept hk id (fun _ _ _ => id), h.rp, Nat.le_trans h.sz hk.size⟩
  have hb := h.bel.alloc (by have := h.sz; omega) o
  exact ⟨hb.os, hb.tape, hb.output, hb.size, hb.block⟩
theorem R1.drew {W wr : World} {S : Sch} {i' i nr : Nat} {G : ByteArray → Option Nat} {T : ByteArray → Nat → L2} {D : DataW Value} (h : R1 W S i' i nr G T D wr) (m : Nat) : R1 W S i' i nr G T D (wr.drewN m) := by
  have hk : Kept (fun _ => False) wr (wr.drewN m) := Kept.drew _ _ m
  exact ⟨⟨h.bel.os, h.bel.tape, h.bel.output, h.bel.size, h.bel.block⟩, h.nx.kept hk id, h.pv.kept hk id, h.rm.kept hk id (fun _ _ _ => id), h.rp, h.sz⟩
theorem R1.drew1 {W wr : World} {S : Sch} {i' i nr : Nat} {G : ByteArray → Option Nat} {T : ByteArray → Nat → L2} {D : DataW Value} (h : R1 W S i' i nr G T D wr) : R1 W S i' i nr G T D wr.drew := by
  have hk : Kept (fun _ => False) wr wr.drew := (Kept.refl _ _).drew1
  exact ⟨⟨h.bel.os, h.bel.tape, h.bel.output, h.bel.size, h.bel.block⟩, h.nx.kept hk id, h.pv.kept hk id, h.rm.kept hk id (fun _ _ _ => id), h.rp, h.sz⟩

theorem RM.ne {w : World} {b n B : Nat} {V : ByteArray → List Nat} {G : ByteArray → Option Nat} {T : ByteArray → Nat → L2} {D : DataW Value} (h : RM w b n B V G T D) {x : ByteArray} {g : Nat} (hg : G x = some g) : g < w.heap.size ∧ B ≤ g := ⟨(h.row x g hg).2.lt, (h.row x g hg).1⟩

/-- 'next[t] = e'. -/
theorem R1.next {W wr w' : World} {S : Sch} {i nr : Nat} {G : ByteArray → Option Nat} {T : ByteArray → Nat → L2} {D : DataW Value} {t e : Nat} (h : R1 W S i i nr G T D wr) (him : IMap w' W.heap.size (i + 1) (upd (nextTo S i) t e)) (hg : wr.grownBy w' (some W.heap.size))
    (ht : (S.O i).txn = t) (hx : nxt S (S.O i) = some e) (hm : (nextTo S i t).isSome = false ∨ e < og (nextTo S i t)) : R1 W S (i + 1) i nr G T D w' := by
  have hk : Kept (fun k => k = W.heap.size) wr w' := Kept.grown hg fun k e => by cases e; rfl
  refine ⟨h.bel.grown hg (by have := h.sz; omega) (fun k e => by cases e; exact Nat.le_refl _), him.congr fun y => ?_, h.pv.kept hk (by omega), h.rm.kept hk (by omega) (fun x g hg' e => ?_), h.rp, Nat.le_trans h.sz hg.size⟩
  · unfold upd
    split
    · rename_i e1; subst e1
      rw [nextTo_take ht hx, mn_new hm]
    · rename_i e1
      rw [nextTo_other (by rw [ht]; exact fun e => e1 e.symm)]
  · have := (h.rm.ne hg').2
    omega
theorem R1.same {W wr : World} {S : Sch} {i nr : Nat} {G : ByteArray → Option Nat} {T : ByteArray → Nat → L2} {D : DataW Value} (h : R1 W S i i nr G T D wr) (hx : nxt S (S.O i) = none) : R1 W S (i + 1) i nr G T D wr :=
  ⟨h.bel, (h.nx.mono (Nat.le_succ _)).congr fun t => (nextTo_skip hx t).symm, h.pv, h.rm, h.rp, h.sz⟩
theorem R1.old {W wr : World} {S : Sch} {i t e nr : Nat} {G : ByteArray → Option Nat} {T : ByteArray → Nat → L2} {D : DataW Value} (h : R1 W S i i nr G T D wr) (ht : (S.O i).txn = t) (hx : nxt S (S.O i) = some e) (h0 : (nextTo S i t).isSome = true) (hm : ¬ e < og (nextTo S i t)) : R1 W S (i + 1) i nr G T D wr :=
  ⟨h.bel, (h.nx.mono (Nat.le_succ _)).congr fun y => by
    by_cases e1 : y = t
    · subst e1; rw [nextTo_take ht hx, mn_old h0 hm]
    · rw [nextTo_other (by rw [ht]; exact fun e => e1 e.symm)], h.pv, h.rm, h.rp, h.sz⟩
/-- The operation adds no reader. -/
theorem R1.skip {W wr : World} {S : Sch} {i nr : Nat} {G : ByteArray → Option Nat} {T : ByteArray → Nat → L2} {D : DataW Value} (h : R1 W S i i nr G T D wr) (hx : nxt S (S.O i) = none) (hn : ∀ x, S.V x ≠ [] → ¬ Rd S x (S.O i)) : R1 W S (i + 1) (i + 1) (nr + 1) G T D wr :=
  ⟨h.bel, (h.same hx).nx, h.pv, h.rm.mono (Nat.le_succ _), h.rp.skip hn, h.sz⟩

/-- A reader added. -/
theorem R1.added {W X w4 : World} {S : Sch} {i nr g : Nat} {G : ByteArray → Option Nat} {T : ByteArray → Nat → L2} {D : DataW Value} {x : ByteArray} (h : R1 W S (i + 1) i nr G T D X) (hg : G x = some g) (hr : Rd S x (S.O i)) (ht : (S.O i).txn ≠ 0)
    (hrow : L2Row w4 g ((S.V x).length + 1) (updT (T x) (ver (S.V x) (S.O i).frm) (addL (T x (ver (S.V x) (S.O i).frm)) (gd S.en (S.O i).txn) (S.O i).txn))) (hk : Kept (fun k => k = g) X w4) (hn : nr ≤ i + 1) :
    R1 W S (i + 1) (i + 1) (i + 1) G (updR T x (ver (S.V x) (S.O i).frm) (addL (T x (ver (S.V x) (S.O i).frm)) (gd S.en (S.O i).txn) (S.O i).txn)) D w4 := by
  have hgB := (h.rm.ne hg).2
  refine ⟨⟨hk.os.trans h.bel.os, hk.tape.trans h.bel.tape, hk.output.trans h.bel.output, Nat.le_trans h.bel.size hk.size, fun k hk' => (hk.block k (Nat.lt_of_lt_of_le hk' h.bel.size) (by omega)).trans (h.bel.block k hk')⟩,
    h.nx.kept hk (by omega), h.pv.kept hk (by omega), (h.rm.set hg hrow hk).mono hn, h.rp.add hr (by rw [hg]; simp) ht, Nat.le_trans h.sz hk.size⟩
/-- A new row laid into the map. -/
theorem R1.row {W X Y w' : World} {S : Sch} {i' i nr : Nat} {G : ByteArray → Option Nat} {T : ByteArray → Nat → L2} {D D' : DataW Value} {x : ByteArray} {g : Nat} (h : R1 W S i' i nr G T D X) (hx : S.V x ≠ []) (hg : G x = none) (hY : Kept (fun _ => False) X Y)
    (hrm : RM w' (W.heap.size + 2) (nr + 1) (W.heap.size + 3) S.V (updG G x g) (zroT T x) D') (hgr : Y.grownBy w' (some (W.heap.size + 2))) : R1 W S i' i (nr + 1) (updG G x g) (zroT T x) D' w' := by
  have hk : Kept (fun k => k = W.heap.size + 2) X w' := (hY.mono fun _ _ h => h.elim).trans (Kept.grown hgr fun k e => by cases e; rfl)
  refine ⟨⟨hk.os.trans h.bel.os, hk.tape.trans h.bel.tape, hk.output.trans h.bel.output, Nat.le_trans h.bel.size hk.size, fun k hk' => (hk.block k (Nat.lt_of_lt_of_le hk' h.bel.size) (by omega)).trans (h.bel.block k hk')⟩,
    h.nx.kept hk (by omega), h.pv.kept hk (by omega), hrm, h.rp.made hx hg g, Nat.le_trans h.sz hk.size⟩

/-- The world, by a name. -/
theorem name_world {P : Program} {c : Code} {Q : Exit → Act → World → Prop} {a : Act} {W : World} (p : World → Prop) (hp : p W) (h : ∀ X, p X → Code.wp P c Q a X) : Code.wp P c Q a W := h W hp

/-- .. beside the copy of the operation, in block cb. -/
structure XF (W : World) (S : Sch) (i' i nr : Nat) (G : ByteArray → Option Nat) (T : ByteArray → Nat → L2) (D : DataW Value) (cb tx : Nat) (x : ByteArray) (X : World) : Prop where
  r1 : R1 W S i' i nr G T D X
  c1 : X.cell? ⟨cb, 1, none⟩ = some (.int .i64 (tx : Int))
  c2 : X.cell? ⟨cb, 2, none⟩ = some (.string x)
  cb : W.heap.size + 3 ≤ cb

theorem XF.drew1 {W X : World} {S : Sch} {i' i nr cb tx : Nat} {G : ByteArray → Option Nat} {T : ByteArray → Nat → L2} {D : DataW Value} {x : ByteArray} (h : XF W S i' i nr G T D cb tx x X) : XF W S i' i nr G T D cb tx x X.drew := ⟨h.r1.drew1, h.c1, h.c2, h.cb⟩
theorem XF.drewN {W X : World} {S : Sch} {i' i nr cb tx : Nat} {G : ByteArray → Option Nat} {T : ByteArray → Nat → L2} {D : DataW Value} {x : ByteArray} (h : XF W S i' i nr G T D cb tx x X) (m : Nat) : XF W S i' i nr G T D cb tx x (X.drewN m) := ⟨h.r1.drew m, h.c1, h.c2, h.cb⟩
theorem XF.same {W X : World} {S : Sch} {i nr cb tx : Nat} {G : ByteArray → Option Nat} {T : ByteArray → Nat → L2} {D : DataW Value} {x : ByteArray} (h : XF W S i i nr G T D cb tx x X) (hx : nxt S (S.O i) = none) : XF W S (i + 1) i nr G T D cb tx x X := ⟨h.r1.same hx, h.c1, h.c2, h.cb⟩
theorem XF.old {W X : World} {S : Sch} {i nr cb tx t e : Nat} {G : ByteArray → Option Nat} {T : ByteArray → Nat → L2} {D : DataW Value} {x : ByteArray} (h : XF W S i i nr G T D cb tx x X) (ht : (S.O i).txn = t) (hx : nxt S (S.O i) = some e) (h0 : (nextTo S i t).isSome = true) (hm : ¬ e < og (nextTo S i t)) : XF W S (i + 1) i nr G T D cb tx x X := ⟨h.r1.old ht hx h0 hm, h.c1, h.c2, h.cb⟩
theorem XF.next {W X w' : World} {S : Sch} {i nr cb tx e : Nat} {G : ByteArray → Option Nat} {T : ByteArray → Nat → L2} {D : DataW Value} {x : ByteArray} (h : XF W S i i nr G T D cb tx x X) (him : IMap w' W.heap.size (i + 1) (upd (nextTo S i) tx e)) (hg : X.grownBy w' (some W.heap.size))
    (ht : (S.O i).txn = tx) (hx : nxt S (S.O i) = some e) (hm : (nextTo S i tx).isSome = false ∨ e < og (nextTo S i tx)) : XF W S (i + 1) i nr G T D cb tx x w' := by
  have hk : Kept (fun k => k = W.heap.size) X w' := Kept.grown hg fun k e => by cases e; rfl
  have := h.cb
  exact ⟨h.r1.next him hg ht hx hm, hk.cell (by omega) h.c1, hk.cell (by omega) h.c2, h.cb⟩

theorem info81 : (Yba.prog.info? 81).map (fun i => (i.zero, i.size, i.bytes)) = some (some (.agg #[.int .i64 0, .int .i64 0, .int .i64 0, .int .i64 0]), 4, 32) := by kernel_rfl
/-- The cells of a new row of m pairs. -/
def zeros (m : Nat) : Array Value := madeCells #[.int .i64 0, .int .i64 0, .int .i64 0, .int .i64 0] (m * 4)
theorem row_made (w : World) (m : Nat) : L2Row (w.alloc (.cells (zeros m) 81)) w.heap.size m (fun _ => l2z) := by
  refine ⟨zeros m, ?_, by unfold zeros; rw [size_madeCells], fun i hi => ?_⟩
  · show (w.heap.push _)[w.heap.size]? = _
    simp
  · have e : ∀ f, f < 4 → (zeros m)[i * 4 + f]? = some ((#[.int .i64 0, .int .i64 0, .int .i64 0, .int .i64 0] : Array Value)[f]!) := fun f hf => by
      have h1 : i * 4 + f < m * 4 := by omega
      have h2 : (i * 4 + f) % 4 = f := by omega
      simp [zeros, madeCells, h1, h2]
    exact ⟨e 0 (by omega), e 1 (by omega), e 2 (by omega), e 3 (by omega)⟩
theorem run_made (m : Nat) (hm : m ≤ 200000) (W : World) :
    (Instr.makeSlice 78 (.int .i64 m) (.int .i64 m)).run Yba.prog W = .ok (.slice (some ⟨W.heap.size, 0, none⟩) m m) (W.alloc (.cells (zeros m) 81)) := by
  obtain ⟨i, hi, hzz⟩ := Option.map_eq_some_iff.1 info81
  simp only [Prod.mk.injEq] at hzz
  obtain ⟨hz, hs, hb⟩ := hzz
  have h := run_make (P := Yba.prog) W 78 81 i _ Yba.underlying78 hi hz .i64 .i64 m m (by omega) (Int.le_refl _) (by rw [hb]; omega) (by omega)
  rw [hs, Int.toNat_natCast] at h
  exact h
/-- 'readers[x] = make(..)'. -/
theorem XF.row {W X Y : World} {S : Sch} {i' i nr cb tx : Nat} {G : ByteArray → Option Nat} {T : ByteArray → Nat → L2} {D : DataW Value} {x : ByteArray} (h : XF W S i' i nr G T D cb tx x X) (hn : nr < 1000000) (hx1 : x.size ≤ 1) (hx : S.V x ≠ []) (hg : G x = none)
    (hY : Kept (fun _ => False) X Y) (hrow : L2Row Y X.heap.size ((S.V x).length + 1) (fun _ => l2z)) :
    ∃ w', (Instr.mapUpdate 76 (.map (some (W.heap.size + 2))) (.string x) (.slice (some ⟨X.heap.size, 0, none⟩) ((S.V x).length + 1) ((S.V x).length + 1))).run Yba.prog Y = .ok () w' ∧
      ∃ D', XF W S i' i (nr + 1) (updG G x X.heap.size) (zroT T x) D' cb tx x w' := by
  have hsz := h.r1.sz
  obtain ⟨w', h1, h2, h3⟩ := (h.r1.rm.kept hY id (fun _ _ _ => id)).store hn hx1 (g := X.heap.size) (by omega) (by omega) hrow (fun y g' hg' e => by have := (h.r1.rm.ne hg').1; omega)
  have hk : Kept (fun k => k = W.heap.size + 2) X w' := (hY.mono fun _ _ h => h.elim).trans (Kept.grown h3 fun k e => by cases e; rfl)
  have := h.cb
  exact ⟨w', h1, _, h.r1.row hx hg hY h2 h3, hk.cell (by omega) h.c1, hk.cell (by omega) h.c2, h.cb⟩
end Go.Proofs.Ybulkdkuc.Sc
