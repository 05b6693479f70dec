/-
  The schedule's builder (11): the versions, relations for the walk.
-/
import Derived.Test.YbulkdkucBd2
namespace Go.Proofs.Ybulkdkuc.Sc
open Go.RowKit Go.Maps

def updS (V : ByteArray → List Nat) (x : ByteArray) (c : List Nat) : ByteArray → List Nat := fun y => if y = x then c else V y

/-- Behind k keys. W: the world ahead of the versions' map, which is block W.heap.size. -/
structure BV (W : World) (R : Nat → List Nat) (k nv : Nat) (V : ByteArray → List Nat) (wr : World) : Prop where
  bel : Below W.heap.size W wr
  vers : Vers wr W.heap.size nv V
  nv_le : nv ≤ k
  sub : ∀ x, V x ≠ [] → ∃ i, i < k ∧ x = kn i ∧ (V x).Sublist (R i)

theorem BV.start (W : World) (R : Nat → List Nat) : BV W R 0 0 (fun _ => []) (W.alloc (.map #[] 0)) :=
  ⟨(Below.refl _ _).alloc (Nat.le_refl _) _, ⟨_, World.ownsMap_made _ _ _ _, fun _ _ => rfl, fun x v h => by rw [look_empty] at h; cases h⟩, Nat.le_refl _, fun _ h => absurd rfl h⟩

theorem BV.below {W wr w' : World} {R : Nat → List Nat} {k nv : Nat} {V : ByteArray → List Nat} (h : BV W R k nv V wr) (hb : Below wr.heap.size wr w') : BV W R k nv V w' :=
  ⟨⟨hb.os.trans h.bel.os, hb.tape.trans h.bel.tape, hb.output.trans h.bel.output, Nat.le_trans h.bel.size hb.size, fun i hi => (hb.block i (Nat.lt_of_lt_of_le hi h.bel.size)).trans (h.bel.block i hi)⟩, h.vers.below hb, h.nv_le, h.sub⟩
theorem BV.skip {W wr : World} {R : Nat → List Nat} {k nv : Nat} {V : ByteArray → List Nat} (h : BV W R k nv V wr) : BV W R (k + 1) nv V wr :=
  ⟨h.bel, h.vers, Nat.le_succ_of_le h.nv_le, fun x hx => by obtain ⟨i, h1, h2⟩ := h.sub x hx; exact ⟨i, Nat.lt_succ_of_lt h1, h2⟩⟩

theorem kn_size' (i : Nat) : (kn i).size ≤ 1 := by
  unfold kn; split
  · exact Nat.le_refl _
  · split <;> exact Nat.le_refl _

/-- 'versions[keys[k]] = c'. -/
theorem BV.store {W wr : World} {R : Nat → List Nat} {k nv : Nat} {V : ByteArray → List Nat} (h : BV W R k nv V wr) (hk : k ≤ 3) {c : List Nat} (hc : c ≠ []) (hs : c.Sublist (R k)) {A : Option Addr} {C : Nat} (hI : IntsAt wr A c) :
    ∃ w', (Instr.mapUpdate 36 (.map (some W.heap.size)) (.string (kn k)) (.slice A c.length C)).run Yba.prog wr = .ok () w' ∧ BV W R (k + 1) (nv + 1) (updS V (kn k) c) w' := by
  have hnv := h.nv_le
  obtain ⟨D, ho, hv⟩ := h.vers
  obtain ⟨w', h1, h2, h3⟩ := ho.update K9 Yba.underlying36 (by unfold maxLen; omega) (key9 (kn_size' k)) (val := .slice A c.length C) (d := .held (.slice A c.length C)) (ps := []) rfl
  have hk' : Kept (fun x => x = W.heap.size) wr w' := Kept.grown h3 fun k e => by cases e; rfl
  have hI' : ∀ {A : Option Addr} {xs : List Nat}, IntsAt wr A xs → IntsAt w' A xs := fun {A xs} hI => by
    intro i hi
    obtain ⟨g, rfl, h5⟩ := hI i hi
    refine ⟨g, rfl, hk'.cell (fun e => ?_) h5⟩
    subst e
    obtain ⟨es, cl, hm, _⟩ := ho
    simp [World.cell?, hm] at h5
  refine ⟨w', h1, ⟨?_, ⟨_, h2, ?_, ?_⟩, by omega, ?_⟩⟩
  · exact ⟨h3.os.trans h.bel.os, h3.tape.trans h.bel.tape, h3.output.trans h.bel.output, Nat.le_trans h.bel.size h3.size, fun i hi => (h3.block i (Nat.lt_of_lt_of_le hi h.bel.size) (fun e => by cases e; exact absurd hi (Nat.lt_irrefl _))).trans (h.bel.block i hi)⟩
  · intro x hx
    by_cases e : x = kn k
    · subst e; rw [look_put_same ho.isMap (lit_s _)] at hx; cases hx
    · rw [look_put_other (fun e' => e (slit_inj e'))] at hx
      unfold updS; rw [if_neg e]; exact hv.1 x hx
  · intro x v hx
    by_cases e : x = kn k
    · subst e
      rw [look_put_same ho.isMap (lit_s _)] at hx; cases hx
      unfold updS; rw [if_pos rfl]
      exact ⟨hc, A, C, rfl, hI' hI⟩
    · rw [look_put_other (fun e' => e (slit_inj e'))] at hx
      unfold updS; rw [if_neg e]
      obtain ⟨q1, A', C', q2, q3⟩ := hv.2 x v hx
      exact ⟨q1, A', C', q2, hI' q3⟩
  · intro x hx
    unfold updS at hx ⊢
    by_cases e : x = kn k
    · subst e; rw [if_pos rfl]; exact ⟨k, Nat.lt_succ_self _, rfl, hs⟩
    · rw [if_neg e] at hx ⊢
      obtain ⟨i, h1, h2⟩ := h.sub x hx
      exact ⟨i, Nat.lt_succ_of_lt h1, h2⟩

section
variable (X : World) {ops : Array Oper} {rest : List Oper} {q : Oper} {a : Act} {Q : Exit → Act → World → Prop}
/-- 'versions[keys[k]] = c', for the walk. -/
theorem wpList_store_v (hg : q.guard = none) (m x v : Operand) (hop : q.op = Op.mapUpdate 36 m x v) {W : World} {R : Nat → List Nat} {k nv : Nat} {V : ByteArray → List Nat} (h : BV W R k nv V X) (hk : k ≤ 3) (hm : a.eval m = .map (some W.heap.size)) (hx : a.eval x = .string (kn k))
    {c : List Nat} (hc : c ≠ []) (hs : c.Sublist (R k)) {A : Option Addr} {C : Nat} (hv : a.eval v = .slice A c.length C) (hI : IntsAt X A c)
    (hK : ∀ w', BV W R (k + 1) (nv + 1) (updS V (kn k) c) w' → wpList Yba.prog ops Q rest (a.put q.dst undef) w') :
    wpList Yba.prog ops Q (q :: rest) a X := by
  refine wpList_plain hg fun K' hK' => ?_
  obtain ⟨w', hrun, r1⟩ := h.store hk hc hs (C := C) hI
  unfold Oper.wp
  simp [execOp, hop, hm, hx, hv, hrun, Result.andThen]
  exact hK' _ _ (hK w' r1)

/-- The inner loop: behind j writers. Y: the world ahead of it. -/
structure BC (Y : World) (R : List Nat) (j : Nat) (v : Value) (c : List Nat) (wr : World) : Prop where
  bel : Below Y.heap.size Y wr
  own : OwnI wr Y.heap.size v c
  sub : c.Sublist (R.take j)

theorem BC.start (Y : World) (R : List Nat) : BC Y R 0 (.slice none 0 0) [] Y := ⟨Below.refl _ _, OwnI.nil _ _, List.nil_sublist _⟩
theorem take_snoc {R : List Nat} {j : Nat} (hj : j < R.length) : R.take (j + 1) = R.take j ++ [R.getD j 0] := by
  rw [List.take_add_one, List.getD_eq_getElem?_getD, List.getElem?_eq_getElem hj]; rfl
theorem BC.skip {Y wr : World} {R : List Nat} {j : Nat} {v : Value} {c : List Nat} (h : BC Y R j v c wr) (hj : j < R.length) : BC Y R (j + 1) v c wr :=
  ⟨h.bel, h.own, by rw [take_snoc hj]; exact h.sub.trans (List.sublist_append_left _ _)⟩
theorem BC.kept {Y wr w' : World} {R : List Nat} {j : Nat} {v : Value} {c : List Nat} (h : BC Y R j v c wr) (hk : Kept (fun _ => False) wr w') : BC Y R j v c w' :=
  ⟨below_kept h.bel h.bel.size hk (fun _ h => h.elim), h.own.kept hk (fun _ _ => id), h.sub⟩
theorem BC.len {Y wr : World} {R : List Nat} {j : Nat} {v : Value} {c : List Nat} (h : BC Y R j v c wr) : c.length ≤ R.length :=
  Nat.le_trans h.sub.length_le (by rw [List.length_take]; exact Nat.min_le_right _ _)

/-- 'c = append(c, t)'. -/
theorem wpList_capp (hgd : q.guard = none) (s x : Operand) (ho : q.op = .call { callee := .builtin .append, args := #[s, x], argTypes := #[48, 48] }) {Y : World} {R : List Nat} {j : Nat} {v : Value} {c : List Nat} (h : BC Y R j v c X) (hj : j < R.length) (hs : a.eval s = v) (ad : Nat) (hx : a.eval x = .slice (some ⟨ad, 0, none⟩) 1 1)
    (hnews : ∀ i u, [Value.int .i64 (R.getD j 0 : Nat)][i]? = some u → X.cell? ((⟨ad, 0, none⟩ : Addr).add i) = some u) (hn : c.length ≤ 100000)
    (hK : ∀ A' C' w', BC Y R (j + 1) (.slice A' (c.length + 1) C') (c ++ [R.getD j 0]) w' → wpList Yba.prog ops Q rest (a.put q.dst (.slice A' (c.length + 1) C')) w') :
    wpList Yba.prog ops Q (q :: rest) a X := by
  obtain ⟨i, hi, hzz⟩ := Option.map_eq_some_iff.1 info3
  simp only [Prod.mk.injEq] at hzz
  obtain ⟨hz, hsi, hby⟩ := hzz
  refine wpList_append_own _ hgd s x 48 ho Y.heap.size 3 i _ 1 8 Yba.underlying48 hi hz hsi hby rfl (by decide) _ c.length (intVals c) hs h.own ⟨ad, 0, none⟩ 1 1 [.int .i64 (R.getD j 0 : Nat)] hx rfl hnews (fun u hu => by rw [List.mem_singleton] at hu; subst hu; rfl) (by unfold maxLen; omega) (by omega) h.bel.size ?_
  intro v' w' hown hg _
  rw [intVals_add] at hown
  have ho' : OwnI w' Y.heap.size v' (c ++ [R.getD j 0]) := by unfold OwnI; rw [List.length_append]; exact hown
  obtain ⟨A', C', hv, _⟩ := ho'.shape
  rw [List.length_append] at hv
  have hv' : v' = .slice A' (c.length + 1) C' := hv
  subst hv'
  refine hK A' C' w' ⟨?_, ho', ?_⟩
  · exact below_kept h.bel h.bel.size (S := fun x => v.ownBlock = some x) (Kept.grown hg fun k e => e) (fun x e => (own_lt_i h.own e).1)
  · rw [take_snoc hj]; exact h.sub.append (List.Sublist.refl _)
end

theorem BV.good {W wr : World} {R : Nat → List Nat} {J n nv : Nat} {O : Nat → Opr} {st en : Nat → Option Nat} {V : ByteArray → List Nat} (h : BV W R 3 nv V wr) (hp : BP J n O st en R) (hJ : J ≤ 4101) : Good ⟨n, O, V, st, en⟩ := by
  have hn := hp.n_le
  have sub : ∀ x, V x = [] ∨ ∃ i, i < 3 ∧ x = kn i ∧ (V x).Sublist (R i) := fun x => by
    by_cases e : V x = []
    · exact .inl e
    · exact .inr (h.sub x e)
  refine ⟨by show n ≤ 4101; omega, fun k hk => (hp.ops k hk).1, fun k hk => (hp.ops k hk).2.1, fun k hk => (hp.ops k hk).2.2, hp.en, hp.st, fun x y hy => ?_, fun x => ?_, fun x => ?_, fun x hx => ?_⟩
  · rcases sub x with e | ⟨i, _, _, hs⟩
    · have hy' : y ∈ V x := hy
      rw [e] at hy'; cases hy'
    · exact hp.five i y (hs.subset hy)
  · show (V x).Nodup
    rcases sub x with e | ⟨i, _, _, hs⟩
    · rw [e]; exact List.nodup_nil
    · exact hs.nodup (hp.nodup i)
  · show (V x).length ≤ 100000
    rcases sub x with e | ⟨i, _, _, hs⟩
    · rw [e]; exact Nat.zero_le _
    · have := hs.length_le
      have := hp.len i
      omega
  · obtain ⟨i, h1, h2, _⟩ := h.sub x hx
    exact ⟨i, h1, h2⟩

theorem BV.dat {w W wr : World} {bk ns ne n nv C : Nat} {O : Nat → Opr} {st en : Nat → Option Nat} {R : Nat → List Nat} {A : Option Addr} {vs : Nat → Value} {V : ByteArray → List Nat} (h : BV W R 3 nv V wr) (hb : BR w bk ns ne n O st en R (.slice A n C) vs W) :
    Dat wr ⟨n, O, V, st, en⟩ A W.heap.size nv (bk + 1) ns (bk + 2) ne ∧ (n = 0 → A = none ∧ C = 0) ∧ Below w.heap.size w wr := by
  obtain ⟨A', C', e, hO⟩ := hb.ops.shape
  injection e with e1 _ e2
  subst e1
  refine ⟨⟨hO.below h.bel, h.vers, hb.st.below h.bel, hb.en.below h.bel⟩, fun h0 => ?_, ?_⟩
  · have := hb.nil h0
    injection this with e3 _ e4
    exact ⟨e3, e4⟩
  · have h2 := hb.bel
    have h3 := h.bel
    exact ⟨h3.os.trans h2.os, h3.tape.trans h2.tape, h3.output.trans h2.output, Nat.le_trans h2.size h3.size, fun i hi => (h3.block i (Nat.lt_of_lt_of_le hi h2.size)).trans (h2.block i hi)⟩
theorem wk_cell {w wr : World} {bk ns ne n k : Nat} {O : Nat → Opr} {st en : Nat → Option Nat} {W : Nat → List Nat} {vo : Value} {vs : Nat → Value} (h : BR w bk ns ne n O st en W vo vs wr) (hk : k < 3) : wr.cell? ⟨bk + 1 + 1 + 1, k, none⟩ = some (vs k) := by
  rw [cell_of h.wrote]
  rcases (show k = 0 ∨ k = 1 ∨ k = 2 by omega) with rfl | rfl | rfl <;> rfl
theorem kk_cell {w wr : World} {bk ns ne n k : Nat} {O : Nat → Opr} {st en : Nat → Option Nat} {W : Nat → List Nat} {vo : Value} {vs : Nat → Value} (h : BR w bk ns ne n O st en W vo vs wr) (hk : k < 3) : wr.cell? ⟨bk, k, none⟩ = some (.string (kn k)) := by
  rw [cell_of h.keys]
  rcases (show k = 0 ∨ k = 1 ∨ k = 2 by omega) with rfl | rfl | rfl <;> rfl
theorem en_lt {J n : Nat} {O : Nat → Opr} {st en : Nat → Option Nat} {W : Nat → List Nat} (h : BP J n O st en W) {k : Nat} (hk : W k ≠ []) (y : Nat) : gd en y < n := by
  unfold gd
  cases e : en y with
  | none => exact h.some_ k hk
  | some c => exact h.en y c e
end Go.Proofs.Ybulkdkuc.Sc
