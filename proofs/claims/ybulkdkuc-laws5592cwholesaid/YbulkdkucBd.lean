/-
  The schedule's builder (11): its relations.
-/
import Derived.Test.YbulkdkucLib
import Derived.Test.YbulkdkucModel0
namespace Go.Proofs.Ybulkdkuc.Sc
open Go.RowKit Go.Maps

/-- A drawn step. -/
structure Raw where
  kind : Nat
  txn : Nat
  key : Nat
  frm : Nat
def RawCells (w : World) (b o i : Nat) (r : Raw) : Prop :=
  w.cell? ⟨b, o + i * 4, none⟩ = some (.int .u8 r.kind) ∧ w.cell? ⟨b, o + i * 4 + 1, none⟩ = some (.int .u8 r.txn) ∧ w.cell? ⟨b, o + i * 4 + 2, none⟩ = some (.int .u8 r.key) ∧ w.cell? ⟨b, o + i * 4 + 3, none⟩ = some (.int .u8 r.frm)
/-- The draw, in memory: bytes. -/
def RawAt (w : World) (a : Option Addr) (len : Nat) (R : Nat → Raw) : Prop := ∀ i, i < len → ∃ b o, a = some ⟨b, o, none⟩ ∧ RawCells w b o i (R i)
def RawOk (len : Nat) (R : Nat → Raw) : Prop := ∀ i, i < len → (R i).kind < 256 ∧ (R i).txn < 256 ∧ (R i).key < 256 ∧ (R i).frm < 256
theorem RawAt.below {w w' : World} {a : Option Addr} {len : Nat} {R : Nat → Raw} (h : RawAt w a len R) (hb : Below w.heap.size w w') : RawAt w' a len R := fun i hi => by
  obtain ⟨b, o, h1, h2⟩ := h i hi
  have hlt := lt_of_cell h2.1
  exact ⟨b, o, h1, (hb.cell hlt).trans h2.1, (hb.cell hlt).trans h2.2.1, (hb.cell hlt).trans h2.2.2.1, (hb.cell hlt).trans h2.2.2.2⟩

/-- What the builder keeps true, with no memory in sight: behind j steps. -/
structure BP (j n : Nat) (O : Nat → Opr) (st en : Nat → Option Nat) (W : Nat → List Nat) : Prop where
  n_le : n ≤ j
  ops : ∀ k, k < n → (1 ≤ (O k).txn ∧ (O k).txn ≤ 5) ∧ (O k).frm ≤ 5 ∧ (O k).key.size ≤ 1
  en : ∀ t e, en t = some e → e < n
  st : ∀ t e, st t = some e → e ≤ n
  nodup : ∀ k, (W k).Nodup
  five : ∀ k, ∀ y ∈ W k, 1 ≤ y ∧ y ≤ 5
  len : ∀ k, (W k).length ≤ j
  some_ : ∀ k, W k ≠ [] → 0 < n

theorem BP.start : BP 0 0 (fun _ => ⟨0, 0, ByteArray.empty, 0⟩) (fun _ => none) (fun _ => none) (fun _ => []) :=
  ⟨Nat.le_refl _, fun k h => absurd h (Nat.not_lt_zero _), fun _ _ h => (by cases h), fun _ _ h => (by cases h), fun _ => List.nodup_nil, fun _ _ h => (by cases h), fun _ => Nat.le_refl _, fun _ h => absurd rfl h⟩
theorem BP.later {j n : Nat} {O : Nat → Opr} {st en : Nat → Option Nat} {W : Nat → List Nat} (h : BP j n O st en W) : BP (j + 1) n O st en W :=
  ⟨Nat.le_succ_of_le h.n_le, h.ops, h.en, h.st, h.nodup, h.five, fun k => Nat.le_succ_of_le (h.len k), h.some_⟩
/-- 'starts[t] = len(ops)'. -/
theorem BP.starts {j n t : Nat} {O : Nat → Opr} {st en : Nat → Option Nat} {W : Nat → List Nat} (h : BP j n O st en W) : BP j n O (upd st t n) en W :=
  ⟨h.n_le, h.ops, h.en, fun t' e he => by unfold upd at he; split at he; cases he; exact Nat.le_refl _; exact h.st t' e he, h.nodup, h.five, h.len, h.some_⟩
def addO (O : Nat → Opr) (n : Nat) (o : Opr) : Nat → Opr := fun k => if k = n then o else O k
theorem addO_new (O : Nat → Opr) (n : Nat) (o : Opr) : addO O n o n = o := by unfold addO; rw [if_pos rfl]
theorem addO_old {O : Nat → Opr} {n k : Nat} (o : Opr) (h : k ≠ n) : addO O n o k = O k := by unfold addO; rw [if_neg h]
/-- An operation appended. -/
theorem BP.op {j n : Nat} {O : Nat → Opr} {st en : Nat → Option Nat} {W : Nat → List Nat} (h : BP j n O st en W) {o : Opr} (ho : (1 ≤ o.txn ∧ o.txn ≤ 5) ∧ o.frm ≤ 5 ∧ o.key.size ≤ 1) : BP (j + 1) (n + 1) (addO O n o) st en W where
  n_le := Nat.succ_le_succ h.n_le
  ops := fun k hk => by
    by_cases e : k = n
    · subst e; rw [addO_new]; exact ho
    · rw [addO_old o e]; exact h.ops k (by omega)
  en := fun t e he => Nat.lt_succ_of_lt (h.en t e he)
  st := fun t e he => Nat.le_succ_of_le (h.st t e he)
  nodup := h.nodup
  five := h.five
  len := fun k => Nat.le_succ_of_le (h.len k)
  some_ := fun _ _ => Nat.succ_pos _
/-- An end: 'ends[t] = len(ops)', and the operation. -/
theorem BP.end_ {j n t : Nat} {O : Nat → Opr} {st en : Nat → Option Nat} {W : Nat → List Nat} (h : BP j n O st en W) {o : Opr} (ho : (1 ≤ o.txn ∧ o.txn ≤ 5) ∧ o.frm ≤ 5 ∧ o.key.size ≤ 1) : BP (j + 1) (n + 1) (addO O n o) st (upd en t n) W :=
  { h.op ho with en := fun t' e he => by unfold upd at he; split at he; cases he; exact Nat.lt_succ_self _; exact Nat.lt_succ_of_lt (h.en t' e he) }
def addW (W : Nat → List Nat) (k t : Nat) : Nat → List Nat := fun i => if i = k then W k ++ [t] else W i
/-- A first write, and the operation. -/
theorem BP.write {j n t k : Nat} {O : Nat → Opr} {st en : Nat → Option Nat} {W : Nat → List Nat} (h : BP j n O st en W) {o : Opr} (ho : (1 ≤ o.txn ∧ o.txn ≤ 5) ∧ o.frm ≤ 5 ∧ o.key.size ≤ 1) (ht : 1 ≤ t ∧ t ≤ 5) (hn : t ∉ W k) : BP (j + 1) (n + 1) (addO O n o) st en (addW W k t) :=
  { h.op ho with
    nodup := fun i => by
      unfold addW; split
      · exact List.nodup_append.2 ⟨h.nodup k, by simp, fun a ha b hb e => by simp at hb; subst hb; subst e; exact hn ha⟩
      · exact h.nodup i
    five := fun i y hy => by
      unfold addW at hy; split at hy
      · rcases List.mem_append.1 hy with h1 | h1
        · exact h.five k y h1
        · simp at h1; subst h1; exact ht
      · exact h.five i y hy
    len := fun i => by
      unfold addW; split
      · rw [List.length_append]; have := h.len k; simp; omega
      · exact Nat.le_succ_of_le (h.len i)
    some_ := fun _ _ => Nat.succ_pos _ }

/-- The builder's memory. bk: the keys; then the starts, the ends, the writers. -/
structure BR (w : World) (bk ns ne n : Nat) (O : Nat → Opr) (st en : Nat → Option Nat) (W : Nat → List Nat) (vo : Value) (vs : Nat → Value) (wr : World) : Prop where
  bel : Below w.heap.size w wr
  bkl : w.heap.size ≤ bk
  keys : wr.heap[bk]? = some (.cells #[.string (kn 0), .string (kn 1), .string (kn 2)] 46 (0, 0))
  st : IMap wr (bk + 1) ns st
  en : IMap wr (bk + 2) ne en
  wrote : wr.heap[bk + 3]? = some (.cells #[vs 0, vs 1, vs 2] 49 (0, 0))
  ops : OwnO wr (bk + 4) vo n O
  nil : n = 0 → vo = .slice none 0 0
  rows : ∀ k, k < 3 → OwnI wr (bk + 4) (vs k) (W k)
  apart : ∀ k k' g, k < 3 → k' < 3 → (vs k).ownBlock = some g → (vs k').ownBlock = some g → k = k'

theorem BR.sz {w wr : World} {bk ns ne n : Nat} {O : Nat → Opr} {st en : Nat → Option Nat} {W : Nat → List Nat} {vo : Value} {vs : Nat → Value} (h : BR w bk ns ne n O st en W vo vs wr) : bk + 4 ≤ wr.heap.size := by have := lt_of h.wrote; omega

theorem below_kept {S : Nat → Prop} {B : Nat} {w wr w' : World} (h : Below B w wr) (hB : B ≤ wr.heap.size) (hk : Kept S wr w') (hS : ∀ k, S k → B ≤ k) : Below B w w' :=
  ⟨hk.os.trans h.os, hk.tape.trans h.tape, hk.output.trans h.output, Nat.le_trans h.size hk.size, fun k hk' => (hk.block k (Nat.lt_of_lt_of_le hk' hB) (fun hs => by have := hS k hs; omega)).trans (h.block k hk')⟩

/-- Nothing of the builder's is written. -/
theorem BR.kept {w wr w' : World} {bk ns ne n : Nat} {O : Nat → Opr} {st en : Nat → Option Nat} {W : Nat → List Nat} {vo : Value} {vs : Nat → Value} (h : BR w bk ns ne n O st en W vo vs wr) (hk : Kept (fun _ => False) wr w') : BR w bk ns ne n O st en W vo vs w' :=
  ⟨below_kept h.bel h.bel.size hk (fun _ h => h.elim), h.bkl, (hk.block _ (lt_of h.keys) id).trans h.keys, h.st.kept hk id, h.en.kept hk id, (hk.block _ (lt_of h.wrote) id).trans h.wrote, h.ops.kept hk (fun _ _ => id), h.nil, fun k hk' => (h.rows k hk').kept hk (fun _ _ => id), h.apart⟩

theorem own_lt_o {w : World} {B n g : Nat} {v : Value} {O : Nat → Opr} (h : OwnO w B v n O) (e : v.ownBlock = some g) : B ≤ g ∧ g < w.heap.size := by
  obtain ⟨h1, cur, h2⟩ := h.block e; exact ⟨h1, lt_of h2⟩
theorem own_lt_i {w : World} {B g : Nat} {v : Value} {xs : List Nat} (h : OwnI w B v xs) (e : v.ownBlock = some g) : B ≤ g ∧ g < w.heap.size := by
  obtain ⟨h1, cur, h2⟩ := h.block e; exact ⟨h1, lt_of h2⟩
theorem own_ne {w : World} {B B' n g : Nat} {v v' : Value} {O : Nat → Opr} {xs : List Nat} (h : OwnO w B v n O) (h' : OwnI w B' v' xs) (e : v.ownBlock = some g) (e' : v'.ownBlock = some g) : False := by
  obtain ⟨_, cur, h2⟩ := h.block e
  obtain ⟨_, cur', h3⟩ := h'.block e'
  rw [h2] at h3; simp at h3

/-- 'starts[t] = ..'. -/
theorem BR.setSt {w wr w' : World} {bk ns ne n : Nat} {O : Nat → Opr} {st st' en : Nat → Option Nat} {W : Nat → List Nat} {vo : Value} {vs : Nat → Value} (h : BR w bk ns ne n O st en W vo vs wr) (him : IMap w' (bk + 1) (ns + 1) st') (hg : wr.grownBy w' (some (bk + 1))) : BR w bk (ns + 1) ne n O st' en W vo vs w' := by
  have hk : Kept (fun k => k = bk + 1) wr w' := Kept.grown hg fun k e => by cases e; rfl
  have hb := h.bkl
  exact ⟨below_kept h.bel h.bel.size hk (fun _ e => by omega), h.bkl, (hk.block _ (lt_of h.keys) (by omega)).trans h.keys, him, h.en.kept hk (by omega), (hk.block _ (lt_of h.wrote) (by omega)).trans h.wrote,
    h.ops.kept hk (fun g e e' => by have := (own_lt_o h.ops e).1; omega), h.nil, fun k hk' => (h.rows k hk').kept hk (fun g e e' => by have := (own_lt_i (h.rows k hk') e).1; omega), h.apart⟩
theorem BR.setEn {w wr w' : World} {bk ns ne n : Nat} {O : Nat → Opr} {st en en' : Nat → Option Nat} {W : Nat → List Nat} {vo : Value} {vs : Nat → Value} (h : BR w bk ns ne n O st en W vo vs wr) (him : IMap w' (bk + 2) (ne + 1) en') (hg : wr.grownBy w' (some (bk + 2))) : BR w bk ns (ne + 1) n O st en' W vo vs w' := by
  have hk : Kept (fun k => k = bk + 2) wr w' := Kept.grown hg fun k e => by cases e; rfl
  have hb := h.bkl
  exact ⟨below_kept h.bel h.bel.size hk (fun _ e => by omega), h.bkl, (hk.block _ (lt_of h.keys) (by omega)).trans h.keys, h.st.kept hk (by omega), him, (hk.block _ (lt_of h.wrote) (by omega)).trans h.wrote,
    h.ops.kept hk (fun g e e' => by have := (own_lt_o h.ops e).1; omega), h.nil, fun k hk' => (h.rows k hk').kept hk (fun g e e' => by have := (own_lt_i (h.rows k hk') e).1; omega), h.apart⟩
/-- 'ops = append(ops, o)'. -/
theorem BR.op {w wr w' : World} {bk ns ne n : Nat} {O : Nat → Opr} {st en : Nat → Option Nat} {W : Nat → List Nat} {vo vo' : Value} {vs : Nat → Value} {o : Opr} (h : BR w bk ns ne n O st en W vo vs wr) (ho : OwnO w' (bk + 4) vo' (n + 1) (addO O n o)) (hg : wr.grownBy w' vo.ownBlock) : BR w bk ns ne (n + 1) (addO O n o) st en W vo' vs w' := by
  have hk : Kept (fun k => vo.ownBlock = some k) wr w' := Kept.grown hg fun k e => e
  have hb := h.bkl
  have hlo : ∀ k, vo.ownBlock = some k → bk + 4 ≤ k := fun k e => (own_lt_o h.ops e).1
  exact ⟨below_kept h.bel h.bel.size hk (fun k e => by have := hlo k e; omega), h.bkl, (hk.block _ (lt_of h.keys) (fun e => by have := hlo _ e; omega)).trans h.keys, h.st.kept hk (fun e => by have := hlo _ e; omega), h.en.kept hk (fun e => by have := hlo _ e; omega),
    (hk.block _ (lt_of h.wrote) (fun e => by have := hlo _ e; omega)).trans h.wrote, ho, fun e => by omega, fun k hk' => (h.rows k hk').kept hk (fun g e e' => own_ne h.ops (h.rows k hk') e' e), h.apart⟩
def updV (vs : Nat → Value) (k : Nat) (v : Value) : Nat → Value := fun i => if i = k then v else vs i
/-- 'wrote[k] = append(wrote[k], t)': the row, and the store. -/
theorem BR.wrt {w wr w' : World} {bk ns ne n k t : Nat} {O : Nat → Opr} {st en : Nat → Option Nat} {W : Nat → List Nat} {vo v' : Value} {vs : Nat → Value} (h : BR w bk ns ne n O st en W vo vs wr) (hk3 : k < 3) (ho : OwnI w' (bk + 4) v' (W k ++ [t])) (hg : wr.grownBy w' (vs k).ownBlock)
    (hat : v'.ownBlock = (vs k).ownBlock ∨ ∃ g, v'.ownBlock = some g ∧ wr.heap.size ≤ g) : BR w bk ns ne n O st en (addW W k t) vo (updV vs k v') (w'.setCell ⟨bk + 3, k, none⟩ v') := by
  have hk : Kept (fun x => (vs k).ownBlock = some x) wr w' := Kept.grown hg fun k e => e
  have hb := h.bkl
  have hlo : ∀ x, (vs k).ownBlock = some x → bk + 4 ≤ x := fun x e => (own_lt_i (h.rows k hk3) e).1
  have hk2 : Kept (fun x => x = bk + 3) w' (w'.setCell ⟨bk + 3, k, none⟩ v') := Kept.setCell _ _ _ rfl
  have hwr := (hk.block _ (lt_of h.wrote) (fun e => by have := hlo _ e; omega)).trans h.wrote
  have hsz := h.sz
  have hsz2 := hk.size
  refine ⟨below_kept (below_kept h.bel h.bel.size hk (fun x e => by have := hlo x e; omega)) (by have := h.bel.size; omega) hk2 (fun x e => by omega), h.bkl, ?_, ?_, ?_, ?_, ?_, h.nil, fun i hi => ?_, ?_⟩
  · exact (hk2.block _ (by have := lt_of h.keys; omega) (by omega)).trans ((hk.block _ (lt_of h.keys) (fun e => by have := hlo _ e; omega)).trans h.keys)
  · exact (h.st.kept hk (fun e => by have := hlo _ e; omega)).kept hk2 (by omega)
  · exact (h.en.kept hk (fun e => by have := hlo _ e; omega)).kept hk2 (by omega)
  · rw [heap_set v' hwr]
    rcases (show k = 0 ∨ k = 1 ∨ k = 2 by omega) with rfl | rfl | rfl <;> rfl
  · exact (h.ops.kept hk (fun g e e' => own_ne h.ops (h.rows k hk3) e e')).kept hk2 (fun g e e' => by have := (own_lt_o h.ops e).1; omega)
  · unfold updV addW
    by_cases e : i = k
    · rw [if_pos e, if_pos e]
      refine ho.kept hk2 (fun g e e' => ?_)
      have := (own_lt_i ho e).1
      omega
    · rw [if_neg e, if_neg e]
      refine ((h.rows i hi).kept hk (fun g e1 e2 => e (h.apart i k g hi hk3 e1 e2))).kept hk2 (fun g e1 e2 => ?_)
      have := (own_lt_i (h.rows i hi) e1).1
      omega
  · intro i i' g hi hi' e1 e2
    unfold updV at e1 e2
    have new : ∀ i'', i'' < 3 → i'' ≠ k → (vs i'').ownBlock = some g → v'.ownBlock = some g → False := fun i'' h1 h2 h3 h4 => by
      rcases hat with h5 | ⟨g', h5, h6⟩
      · exact h2 (h.apart i'' k g h1 hk3 h3 (h5 ▸ h4))
      · rw [h5] at h4; cases h4
        have := (own_lt_i (h.rows i'' h1) h3).2
        omega
    by_cases a1 : i = k
    · by_cases a2 : i' = k
      · rw [a1, a2]
      · rw [if_pos a1] at e1; rw [if_neg a2] at e2
        exact (new i' hi' a2 e2 e1).elim
    · by_cases a2 : i' = k
      · rw [if_neg a1] at e1; rw [if_pos a2] at e2
        exact (new i hi a1 e1 e2).elim
      · rw [if_neg a1] at e1; rw [if_neg a2] at e2
        exact h.apart i i' g hi hi' e1 e2
end Go.Proofs.Ybulkdkuc.Sc
