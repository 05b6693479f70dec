/-
  The schedule's builder (11): appends, for the walk.
-/
import Derived.Test.YbulkdkucBd
import Derived.Test.YbulkdkucVers
namespace Go.Proofs.Ybulkdkuc.Sc
open Go.RowKit Go.Maps

theorem opVals_add (O : Nat → Opr) (n : Nat) (o : Opr) : opVals O n ++ opC o = opVals (addO O n o) (n + 1) := by
  rw [opVals, addO_new]
  congr 1
  exact opVals_congr n fun i hi => (addO_old o (by omega)).symm
theorem intVals_add (xs : List Nat) (t : Nat) : intVals xs ++ [.int .i64 (t : Int)] = intVals (xs ++ [t]) := by simp [intVals]

section
variable (X : World) {ops : Array Oper} {rest : List Oper} {q : Oper} {a : Act} {Q : Exit → Act → World → Prop}

/-- 'ops = append(ops, o)', o laid in block ad. -/
theorem wpList_opapp (hgd : q.guard = none) (s x : Operand) (ho : q.op = .call { callee := .builtin .append, args := #[s, x], argTypes := #[35, 35] }) {w : World} {bk ns ne n : Nat} {O : Nat → Opr} {st en : Nat → Option Nat} {W : Nat → List Nat} {A : Option Addr} {C : Nat} {vs : Nat → Value}
    (h : BR w bk ns ne n O st en W (.slice A n C) vs X) (hs : a.eval s = .slice A n C) (ad : Nat) (hx : a.eval x = .slice (some ⟨ad, 0, none⟩) 1 1) (o : Opr) (hnews : ∀ j u, (opC o)[j]? = some u → X.cell? ((⟨ad, 0, none⟩ : Addr).add j) = some u) (hn : n ≤ 100000)
    (hK : ∀ A' C' w', BR w bk ns ne (n + 1) (addO O n o) st en W (.slice A' (n + 1) C') vs w' → wpList Yba.prog ops Q rest (a.put q.dst (.slice A' (n + 1) C')) w') :
    wpList Yba.prog ops Q (q :: rest) a X := by
  obtain ⟨i, hi, hzz⟩ := Option.map_eq_some_iff.1 info45
  simp only [Prod.mk.injEq] at hzz
  obtain ⟨hz, hsi, hby⟩ := hzz
  refine wpList_append_own _ hgd s x 35 ho (bk + 4) 45 i _ 6 56 Yba.underlying35 hi hz hsi hby rfl (by decide) _ n (opVals O n) hs h.ops ⟨ad, 0, none⟩ 1 1 (opC o) hx rfl hnews (opC_one o) (by unfold maxLen; omega) (by omega) h.sz ?_
  intro v' w' hown hg _
  rw [opVals_add] at hown
  have ho' : OwnO w' (bk + 4) v' (n + 1) (addO O n o) := hown
  obtain ⟨A', C', rfl, _⟩ := ho'.shape
  exact hK A' C' w' (h.op ho' hg)

/-- 'append(wrote[k], t)'. -/
theorem wpList_wapp (hgd : q.guard = none) (s x : Operand) (ho : q.op = .call { callee := .builtin .append, args := #[s, x], argTypes := #[48, 48] }) {w : World} {bk ns ne n k : Nat} {O : Nat → Opr} {st en : Nat → Option Nat} {W : Nat → List Nat} {vo : Value} {vs : Nat → Value}
    (h : BR w bk ns ne n O st en W vo vs X) (hk3 : k < 3) (hs : a.eval s = vs k) (ad : Nat) (hx : a.eval x = .slice (some ⟨ad, 0, none⟩) 1 1) (t : Nat) (hnews : ∀ j u, [Value.int .i64 (t : Int)][j]? = some u → X.cell? ((⟨ad, 0, none⟩ : Addr).add j) = some u) (hn : (W k).length ≤ 100000)
    (hK : ∀ A' C' w', BR w bk ns ne n O st en (addW W k t) vo (updV vs k (.slice A' ((W k).length + 1) C')) (w'.setCell ⟨bk + 3, k, none⟩ (.slice A' ((W k).length + 1) C')) → w'.heap[bk + 3]? = some (.cells #[vs 0, vs 1, vs 2] 49 (0, 0)) → (∀ (g : Nat) (D : Array Value) (T : TypeId), X.heap[g]? = some (Obj.cells D T (0, 0)) → T ≠ 3 → w'.heap[g]? = some (Obj.cells D T (0, 0))) →
      wpList Yba.prog ops Q rest (a.put q.dst (.slice A' ((W k).length + 1) C')) w') :
    wpList Yba.prog ops Q (q :: rest) a X := by
  obtain ⟨i, hi, hzz⟩ := Option.map_eq_some_iff.1 info3
  simp only [Prod.mk.injEq] at hzz
  obtain ⟨hz, hsi, hby⟩ := hzz
  refine wpList_append_own_at _ hgd s x 48 ho (bk + 4) 3 i _ 1 8 Yba.underlying48 hi hz hsi hby rfl (by decide) _ (W k).length (intVals (W k)) hs (h.rows k hk3) ⟨ad, 0, none⟩ 1 1 [.int .i64 (t : Int)] hx rfl hnews (fun u hu => by rw [List.mem_singleton] at hu; subst hu; rfl) (by unfold maxLen; omega) (by omega) h.sz ?_
  intro v' w' hown hg _ hat
  rw [intVals_add] at hown
  have ho' : OwnI w' (bk + 4) v' (W k ++ [t]) := by unfold OwnI; rw [List.length_append]; exact hown
  obtain ⟨A', C', hv, _⟩ := ho'.shape
  rw [List.length_append] at hv
  have hv' : v' = .slice A' ((W k).length + 1) C' := hv
  subst hv'
  have hblk : ∀ (g : Nat) (D : Array Value) (T : TypeId), X.heap[g]? = some (Obj.cells D T (0, 0)) → T ≠ 3 → w'.heap[g]? = some (Obj.cells D T (0, 0)) := fun g D T hgh hT => by
    refine (hg.block g (lt_of hgh) (fun e => ?_)).trans hgh
    obtain ⟨_, cur, h2⟩ := (h.rows k hk3).block e.symm
    rw [hgh] at h2; simp at h2; exact hT h2.2
  exact hK A' C' w' (h.wrt hk3 ho' hg (hat.imp id fun e => ⟨_, e, Nat.le_refl _⟩)) (hblk _ _ _ h.wrote (by decide)) hblk
end

/-- .. beside the copy of the step, in block cb. -/
structure XB (w : World) (bk ns ne n : Nat) (O : Nat → Opr) (st en : Nat → Option Nat) (W : Nat → List Nat) (A : Option Addr) (C : Nat) (vs : Nat → Value) (cb rk rt rx rf : Nat) (X : World) : Prop where
  br : BR w bk ns ne n O st en W (.slice A n C) vs X
  blk : X.heap[cb]? = some (.cells #[.int .u8 rk, .int .u8 rt, .int .u8 rx, .int .u8 rf] 70 (0, 0))
theorem XB.made {w wr : World} {bk ns ne n rk rt rx rf C : Nat} {O : Nat → Opr} {st en : Nat → Option Nat} {W : Nat → List Nat} {A : Option Addr} {vs : Nat → Value} (h : BR w bk ns ne n O st en W (.slice A n C) vs wr) :
    XB w bk ns ne n O st en W A C vs wr.heap.size rk rt rx rf (wr.alloc (.cells #[.int .u8 rk, .int .u8 rt, .int .u8 rx, .int .u8 rf] 70)) := ⟨h.kept (Kept.alloc _ _ _), (MapKept.heap_alloc wr _).1⟩
theorem XB.cells {w X : World} {bk ns ne n cb rk rt rx rf C : Nat} {O : Nat → Opr} {st en : Nat → Option Nat} {W : Nat → List Nat} {A : Option Addr} {vs : Nat → Value} (h : XB w bk ns ne n O st en W A C vs cb rk rt rx rf X) :
    X.cell? ⟨cb, 0, none⟩ = some (.int .u8 rk) ∧ X.cell? ⟨cb, 1, none⟩ = some (.int .u8 rt) ∧ X.cell? ⟨cb, 2, none⟩ = some (.int .u8 rx) ∧ X.cell? ⟨cb, 3, none⟩ = some (.int .u8 rf) := by
  simp only [cell_of h.blk]; exact ⟨rfl, rfl, rfl, rfl⟩
theorem XB.setSt {w X w' : World} {bk ns ne n cb rk rt rx rf C : Nat} {O : Nat → Opr} {st st' en : Nat → Option Nat} {W : Nat → List Nat} {A : Option Addr} {vs : Nat → Value} (h : XB w bk ns ne n O st en W A C vs cb rk rt rx rf X) (him : IMap w' (bk + 1) (ns + 1) st') (hg : X.grownBy w' (some (bk + 1))) : XB w bk (ns + 1) ne n O st' en W A C vs cb rk rt rx rf w' := by
  refine ⟨h.br.setSt him hg, (hg.block cb (lt_of h.blk) (fun e => ?_)).trans h.blk⟩
  have e' := Option.some.inj e
  obtain ⟨D, ⟨es, cl, hm, _⟩, _⟩ := h.br.st
  have := h.blk
  rw [e', hm] at this; cases this
theorem XB.kept {w X X' : World} {bk ns ne n cb rk rt rx rf C : Nat} {O : Nat → Opr} {st en : Nat → Option Nat} {W : Nat → List Nat} {A : Option Addr} {vs : Nat → Value} (h : XB w bk ns ne n O st en W A C vs cb rk rt rx rf X) (hk : Kept (fun _ => False) X X') : XB w bk ns ne n O st en W A C vs cb rk rt rx rf X' :=
  ⟨h.br.kept hk, (hk.block _ (lt_of h.blk) id).trans h.blk⟩
/-- The operation to append, laid. -/
theorem news6 (X : World) (o : Opr) : ∀ j u, (opC o)[j]? = some u → (X.alloc (.cells (opC o).toArray 45)).cell? ((⟨X.heap.size, 0, none⟩ : Addr).add j) = some u := fun j u h => by
  rw [add_at, Nat.zero_add, cell_of (MapKept.heap_alloc X _).1, ← Array.getElem?_toList]; exact h
/-- The number to append, laid. -/
theorem news1 (X : World) (t : Nat) : ∀ j u, [Value.int .i64 (t : Int)][j]? = some u → (X.alloc (.cells #[.int .i64 (t : Int)] 3)).cell? ((⟨X.heap.size, 0, none⟩ : Addr).add j) = some u := fun j u h => by
  rw [add_at, Nat.zero_add, cell_of (MapKept.heap_alloc X _).1, ← Array.getElem?_toList]; exact h
theorem modc (a b : Nat) : (a : Int) % ((b : Int) + 1) = ((a % (b + 1) : Nat) : Int) := by
  rw [Int.natCast_emod]; rfl
end Go.Proofs.Ybulkdkuc.Sc
