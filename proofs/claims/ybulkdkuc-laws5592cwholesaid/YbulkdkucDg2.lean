/-
  The program's own search (16): the relations of its second and third loops.
-/
import Derived.Test.YbulkdkucDg
import Derived.Test.YbulkdkucTwoB
namespace Go.Proofs.Ybulkdkuc.Sc
open Go.RowKit Go.Maps

/-- A bound on a key's versions. -/
@[irreducible] def MB : Nat := 100000
theorem mb : MB = 100000 := by unfold MB; rfl

theorem IMap.store2 {w : World} {b n : Nat} {m : Nat → Option Nat} (h : IMap w b n m) (hn : n < 1000000000000) {t : Nat} (ht : t ≤ 5) (c : Nat) :
    ∃ w', (Instr.mapUpdate 37 (.map (some b)) (.int .i64 (t : Int)) (.int .i64 (c : Int))).run Yba.prog w = .ok () w' ∧ IMap w' b (n + 1) (upd m t c) ∧ w.grownBy w' (some b) := by
  obtain ⟨D, ho, hm⟩ := h
  obtain ⟨w', h1, h2, h3⟩ := ho.update K3 Yba.underlying37 (by unfold maxLen; omega) (key3 (t := t) (by omega)) (val := .int .i64 (c : Int)) (d := .held (.int .i64 (c : Int))) (ps := []) rfl
  exact ⟨w', h1, ⟨_, h2, hm.put ho.isMap ht c⟩, h3⟩

/-- What stays while 'prev' is filled. r: the iterator's block. -/
structure RC (W : World) (S : Sch) (bv nv r : Nat) (D0 : DataW Value) (G : ByteArray → Option Nat) (T : ByteArray → Nat → L2) (D : DataW Value) (left : Lit → Bool) (cnt np : Nat) (P : Nat → Option Nat) (wr : World) : Prop where
  rg : wr.ranges Yba.prog 9 Rv bv r nv D0 left cnt
  bel : Below W.heap.size W wr
  nx : IMap wr W.heap.size S.n (nextTo S S.n)
  pv : IMap wr (W.heap.size + 1) np P
  rm : RM wr (W.heap.size + 2) S.n (W.heap.size + 3) S.V G T D
  rp : RP S S.n G T
  rw_ : ∀ x g, G x = some g → g < r
  rge : W.heap.size + 3 ≤ r
  bvl : bv < W.heap.size

theorem RC.lt {W wr : World} {S : Sch} {bv nv r cnt np : Nat} {D0 D : DataW Value} {G : ByteArray → Option Nat} {T : ByteArray → Nat → L2} {left : Lit → Bool} {P : Nat → Option Nat} (h : RC W S bv nv r D0 G T D left cnt np P wr) : r < wr.heap.size := h.rg.lt

/-- Only blocks behind r are written. -/
theorem RC.kept {W wr w' : World} {S : Sch} {bv nv r cnt np : Nat} {D0 D : DataW Value} {G : ByteArray → Option Nat} {T : ByteArray → Nat → L2} {left : Lit → Bool} {P : Nat → Option Nat} (h : RC W S bv nv r D0 G T D left cnt np P wr) {R : Nat → Prop} (hk : Kept R wr w') (hR : ∀ k, R k → r < k) :
    RC W S bv nv r D0 G T D left cnt np P w' := by
  have hr := h.rge
  have hb := h.bvl
  have hn : ∀ k, k ≤ r → ¬ R k := fun k hk' hs => by have := hR k hs; omega
  refine ⟨?_, ?_, h.nx.kept hk (hn _ (by omega)), h.pv.kept hk (hn _ (by omega)), h.rm.kept hk (hn _ (by omega)) (fun x g hg => hn _ (Nat.le_of_lt (h.rw_ x g hg))), h.rp, h.rw_, h.rge, h.bvl⟩
  · have h1 := h.rg.owns.lt
    have h2 := h.rg.lt
    obtain ⟨es, clock, since, seen, c0, hb', F, hs, hD, hr', rest⟩ := h.rg
    exact ⟨es, clock, since, seen, c0, (hk.block bv h1 (hn _ (by omega))).trans hb', F, hs, hD, (hk.block r h2 (hn _ (Nat.le_refl _))).trans hr', rest⟩
  · exact ⟨hk.os.trans h.bel.os, hk.tape.trans h.bel.tape, hk.output.trans h.bel.output, Nat.le_trans h.bel.size hk.size, fun k hk' => (hk.block k (Nat.lt_of_lt_of_le hk' h.bel.size) (hn _ (by omega))).trans (h.bel.block k hk')⟩

/-- 'prev[t] = c'. -/
theorem RC.prev {W wr w' : World} {S : Sch} {bv nv r cnt np t c : Nat} {D0 D : DataW Value} {G : ByteArray → Option Nat} {T : ByteArray → Nat → L2} {left : Lit → Bool} {P : Nat → Option Nat} (h : RC W S bv nv r D0 G T D left cnt np P wr)
    (him : IMap w' (W.heap.size + 1) (np + 1) (upd P t c)) (hg : wr.grownBy w' (some (W.heap.size + 1))) : RC W S bv nv r D0 G T D left cnt (np + 1) (upd P t c) w' := by
  have hr := h.rge
  have hb := h.bvl
  have hk : Kept (fun k => k = W.heap.size + 1) wr w' := Kept.grown hg fun k e => by cases e; rfl
  exact ⟨h.rg.kept hg (fun e => by have := Option.some.inj e; omega) (fun e => by have := Option.some.inj e; omega), h.bel.grown hg h.bel.size (fun k e => by cases e; omega), h.nx.kept hk (by omega), him,
    h.rm.kept hk (by omega) (fun x g hg' e => by have := (h.rm.ne hg').2; omega), h.rp, h.rw_, h.rge, h.bvl⟩

theorem RC.start {W wr w0 : World} {S : Sch} {bv nv : Nat} {D0 D : DataW Value} {G : ByteArray → Option Nat} {T : ByteArray → Nat → L2} (h : R1 W S S.n S.n S.n G T D wr) (hbv : bv < W.heap.size) (hrg : w0.ranges Yba.prog 9 Rv bv wr.heap.size nv D0 (Maps.has D0) (Maps.size D0)) (hg : wr.grownBy w0 none) :
    RC W S bv nv wr.heap.size D0 G T D (Maps.has D0) (Maps.size D0) 0 (fun _ => none) w0 := by
  have hk : Kept (fun _ => False) wr w0 := Kept.grown hg fun k e => by cases e
  have hsz := h.sz
  exact ⟨hrg, h.bel.grown hg h.bel.size (fun k e => by cases e), h.nx.kept hk id, h.pv.kept hk id, h.rm.kept hk id (fun _ _ _ => id), h.rp, fun x g hg' => (h.rm.ne hg').1, hsz, hbv⟩

/-- The iterator's step. -/
theorem RC.step {W wr w1 : World} {S : Sch} {bv nv r cnt cnt' np : Nat} {D0 D : DataW Value} {G : ByteArray → Option Nat} {T : ByteArray → Nat → L2} {left left' : Lit → Bool} {P : Nat → Option Nat} (h : RC W S bv nv r D0 G T D left cnt np P wr)
    (hrg : w1.ranges Yba.prog 9 Rv bv r nv D0 left' cnt') (hg : wr.grownBy w1 (some r)) : RC W S bv nv r D0 G T D left' cnt' np P w1 := by
  have hr := h.rge
  have hk : Kept (fun k => k = r) wr w1 := Kept.grown hg fun k e => by cases e; rfl
  exact ⟨hrg, h.bel.grown hg h.bel.size (fun k e => by cases e; omega), h.nx.kept hk (by omega), h.pv.kept hk (by omega), h.rm.kept hk (by omega) (fun x g hg' e => by have := h.rw_ x g hg'; omega), h.rp, h.rw_, h.rge, h.bvl⟩

/-- The outer loop's relation. -/
structure R2 (W : World) (S : Sch) (bv nv r : Nat) (D0 : DataW Value) (G : ByteArray → Option Nat) (T : ByteArray → Nat → L2) (D : DataW Value) (left : Lit → Bool) (cnt np : Nat) (P : Nat → Option Nat) (wr : World) : Prop where
  rc : RC W S bv nv r D0 G T D left cnt np P wr
  pm : ∀ t, MaxIs (Q2 S (fun x => left (slit x) = false) t) (P t)
  np : np + cnt * MB ≤ nv * MB
/-- The inner loop's: key x, version j behind which the readers are gathered: j' of them, in block cb. -/
structure R3 (W : World) (S : Sch) (bv nv r : Nat) (D0 : DataW Value) (G : ByteArray → Option Nat) (T : ByteArray → Nat → L2) (D : DataW Value) (left : Lit → Bool) (cnt np : Nat) (P : Nat → Option Nat) (x : ByteArray) (j j' cb : Nat) (l : L2) (wr : World) : Prop where
  rc : RC W S bv nv r D0 G T D (fun z => left z && !z.sameKey (slit x)) cnt np P wr
  pm : ∀ t, MaxIs (Q3 S (fun y => left (slit y) = false) x j t) (P t)
  np : np + (cnt + 1) * MB ≤ nv * MB + j
  lt : LT l (Xb S x j') (gd S.en)
  row : L2Row wr cb 1 (fun _ => l)
  cbr : r < cb

theorem R2.start {W wr w0 : World} {S : Sch} {bv nv : Nat} {D0 D : DataW Value} {G : ByteArray → Option Nat} {T : ByteArray → Nat → L2} (h : R1 W S S.n S.n S.n G T D wr) (ho : W.ownsMap Yba.prog 9 Rv bv nv D0) (hV : VD W D0 S.V)
    (hrg : w0.ranges Yba.prog 9 Rv bv wr.heap.size nv D0 (Maps.has D0) (Maps.size D0)) (hg : wr.grownBy w0 none) (hk : ∀ x, S.V x ≠ [] → x.size ≤ 1) : R2 W S bv nv wr.heap.size D0 G T D (Maps.has D0) (Maps.size D0) 0 (fun _ => none) w0 := by
  refine ⟨RC.start h ho.lt hrg hg, fun t => q2_start S _ (fun x hx hd => ?_) t, by have := Nat.mul_le_mul_right MB ho.size_le; omega⟩
  rw [has_look ho K9 (key9 (hk x hx))] at hd
  cases e : look D0 (slit x) with
  | none => exact hx (hV.1 x e)
  | some v => rw [e] at hd; cases hd
theorem R2.inner {W wr w1 : World} {S : Sch} {bv nv r cnt cnt' np : Nat} {D0 D : DataW Value} {G : ByteArray → Option Nat} {T : ByteArray → Nat → L2} {left : Lit → Bool} {P : Nat → Option Nat} {x : ByteArray} (h : R2 W S bv nv r D0 G T D left cnt np P wr)
    (hrg : w1.ranges Yba.prog 9 Rv bv r nv D0 (fun z => left z && !z.sameKey (slit x)) cnt') (hlt : cnt' < cnt) (hg : wr.grownBy w1 (some r)) (hrow : L2Row (w1.alloc (.cells #[.int .i64 0, .int .i64 0, .int .i64 0, .int .i64 0] 81)) w1.heap.size 1 (fun _ => l2z)) :
    R3 W S bv nv r D0 G T D left cnt' np P x 0 0 w1.heap.size l2z (w1.alloc (.cells #[.int .i64 0, .int .i64 0, .int .i64 0, .int .i64 0] 81)) := by
  refine ⟨(h.rc.step hrg hg).kept (Kept.alloc (fun _ => False) _ _) (fun k h => h.elim), fun t => q3_start (h.pm t), ?_, xb_zero S x, hrow, (h.rc.step hrg hg).lt⟩
  have h1 := h.np
  have : (cnt' + 1) * MB ≤ cnt * MB := Nat.mul_le_mul_right MB hlt
  omega
theorem R3.done {W wr : World} {S : Sch} {bv nv r cnt np cb : Nat} {D0 D : DataW Value} {G : ByteArray → Option Nat} {T : ByteArray → Nat → L2} {left : Lit → Bool} {P : Nat → Option Nat} {x : ByteArray} {l : L2} (h : R3 W S bv nv r D0 G T D left cnt np P x (S.V x).length (S.V x).length cb l wr) (hl : (S.V x).length ≤ MB) :
    R2 W S bv nv r D0 G T D (fun z => left z && !z.sameKey (slit x)) cnt np P wr := by
  refine ⟨h.rc, fun t => q2_congr (q3_end (h.pm t)) fun y _ => ?_, by have h1 := h.np; rw [Nat.succ_mul] at h1; omega⟩
  constructor
  · rintro (h1 | rfl)
    · simp [h1]
    · have : (slit y).sameKey (slit y) = true := WideAt.sameKey_self (lit_s y)
      simp [this]
  · intro h1
    by_cases e : y = x
    · exact .inr e
    · left
      have h2 : (slit y).sameKey (slit x) = false := sameKey_ne fun e' => e (slit_inj e')
      simpa [h2] using h1
/-- The readers of version j + 1's predecessor gathered: another world, another pair. -/
theorem R3.gather {W wr w' : World} {S : Sch} {bv nv r cnt np j cb : Nat} {D0 D : DataW Value} {G : ByteArray → Option Nat} {T : ByteArray → Nat → L2} {left : Lit → Bool} {P : Nat → Option Nat} {x : ByteArray} {l l' : L2} (h : R3 W S bv nv r D0 G T D left cnt np P x j j cb l wr)
    (hl : LT l' (Xb S x (j + 1)) (gd S.en)) (hrow : L2Row w' cb 1 (fun _ => l')) (hk : Kept (fun k => k = cb) wr w') : R3 W S bv nv r D0 G T D left cnt np P x j (j + 1) cb l' w' :=
  ⟨h.rc.kept hk (fun k e => by rw [e]; exact h.cbr), h.pm, h.np, hl, hrow, h.cbr⟩
theorem R3.kept {W wr w' : World} {S : Sch} {bv nv r cnt np j j' cb : Nat} {D0 D : DataW Value} {G : ByteArray → Option Nat} {T : ByteArray → Nat → L2} {left : Lit → Bool} {P : Nat → Option Nat} {x : ByteArray} {l : L2} (h : R3 W S bv nv r D0 G T D left cnt np P x j j' cb l wr)
    (hk : Below wr.heap.size wr w') : R3 W S bv nv r D0 G T D left cnt np P x j j' cb l w' :=
  ⟨h.rc.kept (Kept.of_below (S := fun _ => False) hk) (fun _ h => h.elim), h.pm, h.np, h.lt, h.row.kept (Kept.of_below (S := fun _ => False) hk) id, h.cbr⟩
/-- No predecessor more. -/
theorem R3.skip {W wr : World} {S : Sch} {bv nv r cnt np j cb y : Nat} {D0 D : DataW Value} {G : ByteArray → Option Nat} {T : ByteArray → Nat → L2} {left : Lit → Bool} {P : Nat → Option Nat} {x : ByteArray} {l : L2} (h : R3 W S bv nv r D0 G T D left cnt np P x j (j + 1) cb l wr)
    (hy : (S.V x).getD j 0 = y) (ho : otherB l y = false ∨ ¬ gd S.st y < otherV l y) : R3 W S bv nv r D0 G T D left cnt np P x (j + 1) (j + 1) cb l wr := by
  refine ⟨h.rc, fun t => ?_, by have := h.np; omega, h.lt, h.row, h.cbr⟩
  by_cases e : t = y
  · subst e
    exact q3_skip (h.pm t) fun k c hk => pc_none h.lt ho k c hk
  · exact q3_skip (h.pm t) fun k c _ => pc_other hy e k c
theorem R3.take {W wr w' : World} {S : Sch} {bv nv r cnt np j cb y : Nat} {D0 D : DataW Value} {G : ByteArray → Option Nat} {T : ByteArray → Nat → L2} {left : Lit → Bool} {P : Nat → Option Nat} {x : ByteArray} {l : L2} (h : R3 W S bv nv r D0 G T D left cnt np P x j (j + 1) cb l wr)
    (hy : (S.V x).getD j 0 = y) (ho : otherB l y = true) (hc : gd S.st y < otherV l y) (him : IMap w' (W.heap.size + 1) (np + 1) (upd P y (Nat.max (gd P y) (otherV l y)))) (hg : wr.grownBy w' (some (W.heap.size + 1))) :
    R3 W S bv nv r D0 G T D left cnt (np + 1) (upd P y (Nat.max (gd P y) (otherV l y))) x (j + 1) (j + 1) cb l w' := by
  have hr := h.rc.rge
  have hcb := h.cbr
  have hk : Kept (fun k => k = W.heap.size + 1) wr w' := Kept.grown hg fun k e => by cases e; rfl
  refine ⟨h.rc.prev him hg, fun t => ?_, by have := h.np; omega, h.lt, h.row.kept hk (by omega), h.cbr⟩
  unfold upd
  split
  · rename_i e; subst e
    exact q3_take (h.pm t) (pc_max h.lt hy ho hc)
  · rename_i e
    exact q3_skip (h.pm t) fun k c _ => pc_other hy e k c

/-- The third loop's relation. -/
structure R4 (W : World) (S : Sch) (r : Nat) (Dn : DataW Value) (P : Nat → Option Nat) (np : Nat) (left : Lit → Bool) (cnt : Nat) (f : Bool) (wr : World) : Prop where
  rg : wr.ranges Yba.prog 3 Rv W.heap.size r S.n Dn left cnt
  df : DF S P (fun t => left (ilit t) = false) f
  bel : Below W.heap.size W wr
  pv : IMap wr (W.heap.size + 1) np P
  rge : W.heap.size + 3 ≤ r
structure R4s (W : World) (S : Sch) (r : Nat) (Dn : DataW Value) (P : Nat → Option Nat) (np : Nat) (left : Lit → Bool) (cnt t : Nat) (f : Bool) (wr : World) : Prop where
  rg : wr.ranges Yba.prog 3 Rv W.heap.size r S.n Dn (fun z => left z && !z.sameKey (ilit t)) cnt
  df : DF S P (fun t => left (ilit t) = false) f
  bel : Below W.heap.size W wr
  pv : IMap wr (W.heap.size + 1) np P
  rge : W.heap.size + 3 ≤ r

theorem R4.start {W wr w0 : World} {S : Sch} {bv nv r np cnt : Nat} {D0 D Dn : DataW Value} {G : ByteArray → Option Nat} {T : ByteArray → Nat → L2} {left : Lit → Bool} {P : Nat → Option Nat} (ho : wr.ownsMap Yba.prog 3 Rv W.heap.size S.n Dn) (hi : IM Dn (nextTo S S.n)) (h : RC W S bv nv r D0 G T D left cnt np P wr)
    (hrg : w0.ranges Yba.prog 3 Rv W.heap.size wr.heap.size S.n Dn (Maps.has Dn) (Maps.size Dn)) (hg : wr.grownBy w0 none) (h5 : ∀ t a, nextTo S S.n t = some a → t ≤ 5) : R4 W S wr.heap.size Dn P np (Maps.has Dn) (Maps.size Dn) false w0 := by
  have hk : Kept (fun _ => False) wr w0 := Kept.grown hg fun k e => by cases e
  refine ⟨hrg, df_start (fun t a ha hd => ?_), h.bel.grown hg h.bel.size (fun k e => by cases e), h.pv.kept hk id, by have := h.rge; have := h.lt; omega⟩
  rw [has_look ho K3 (key3 (t := t) (by have := h5 t a ha; omega)), hi.1 t a ha] at hd
  cases hd
theorem R4.step {W wr w1 : World} {S : Sch} {r np cnt cnt' t : Nat} {Dn : DataW Value} {left : Lit → Bool} {P : Nat → Option Nat} {f : Bool} (h : R4 W S r Dn P np left cnt f wr) (hrg : w1.ranges Yba.prog 3 Rv W.heap.size r S.n Dn (fun z => left z && !z.sameKey (ilit t)) cnt') (hg : wr.grownBy w1 (some r)) :
    R4s W S r Dn P np left cnt' t f w1 := by
  have hr := h.rge
  have hk : Kept (fun k => k = r) wr w1 := Kept.grown hg fun k e => by cases e; rfl
  exact ⟨hrg, h.df, h.bel.grown hg h.bel.size (fun k e => by cases e; omega), h.pv.kept hk (by omega), h.rge⟩
theorem left_done {left : Lit → Bool} {t y : Nat} (h : (left (ilit y) && !(ilit y).sameKey (ilit t)) = false) : left (ilit y) = false ∨ y = t := by
  by_cases e : y = t
  · exact .inr e
  · left
    have h2 : (ilit y).sameKey (ilit t) = false := sameKey_ne fun e' => e (ilit_inj e')
    simpa [h2] using h
theorem R4s.no {W wr : World} {S : Sch} {r np cnt t : Nat} {Dn : DataW Value} {left : Lit → Bool} {P : Nat → Option Nat} {f : Bool} (h : R4s W S r Dn P np left cnt t f wr) (hp : P t = none) : R4 W S r Dn P np (fun z => left z && !z.sameKey (ilit t)) cnt f wr :=
  ⟨h.rg, df_no h.df hp (fun y hy => left_done hy) (fun y hy => by simp [hy]), h.bel, h.pv, h.rge⟩
theorem R4s.yes {W wr : World} {S : Sch} {r np cnt t a c : Nat} {Dn : DataW Value} {left : Lit → Bool} {P : Nat → Option Nat} {f : Bool} (h : R4s W S r Dn P np left cnt t f wr) (ha : nextTo S S.n t = some a) (hp : P t = some c) (hn : ¬ (a < gd S.en t ∧ a ≤ c)) : R4 W S r Dn P np (fun z => left z && !z.sameKey (ilit t)) cnt true wr :=
  ⟨h.rg, df_yes h.df ha hp hn (fun y hy => left_done hy) (by have : (ilit t).sameKey (ilit t) = true := WideAt.sameKey_self (lit_i t); simp [this]), h.bel, h.pv, h.rge⟩

theorem l2_new (w : World) : L2Row (w.alloc (.cells #[.int .i64 0, .int .i64 0, .int .i64 0, .int .i64 0] 81)) w.heap.size 1 (fun _ => l2z) := by
  refine ⟨_, MapKept.heap_alloc w _ |>.1, rfl, fun i hi => ?_⟩
  obtain rfl : i = 0 := by omega
  exact ⟨rfl, rfl, rfl, rfl⟩

section
variable (w : World) {ops : Array Oper} {rest : List Oper} {o : Oper} {a : Act} {Q : Exit → Act → World → Prop}
/-- 'm[t] = c' in a map[int]int. -/
theorem wpList_store_i2 (hg : o.guard = none) (m x v : Operand) (hop : o.op = Op.mapUpdate 37 m x v) (b n : Nat) (mp : Nat → Option Nat) (hm : a.eval m = .map (some b)) (h : IMap w b n mp) (hn : n < 1000000000000) (t c : Nat)
    (hx : a.eval x = .int .i64 (t : Int)) (cz : Int) (hv : a.eval v = .int .i64 cz) (hcz : cz = (c : Int)) (ht : t ≤ 5)
    (hK : ∀ w', IMap w' b (n + 1) (upd mp t c) → w.grownBy w' (some b) → wpList Yba.prog ops Q rest (a.put o.dst undef) w') :
    wpList Yba.prog ops Q (o :: rest) a w := by
  subst hcz
  refine wpList_plain hg fun K' hK' => ?_
  obtain ⟨w', hrun, r1, r2⟩ := h.store2 hn ht c
  unfold Oper.wp
  simp [execOp, hop, hm, hx, hv, hrun, Result.andThen]
  exact hK' _ _ (hK w' r1 r2)
end
theorem other0_walk (g t : Nat) (l : L2) (w : World) (h : L2Row w g 1 (fun _ => l)) :
    Calls Yba.prog 29 #[.pointer (some ⟨g, 0, none⟩), .int .i64 (t : Int)] w fun e w' => e = .returned (.tuple #[.int .i64 (otherV l t : Nat), .bool (otherB l t)]) ∧ Below w.heap.size w w' := other_walk g t (fun _ => l) w h
theorem imax {a b : Nat} {z : Int} (h : z = if (a : Int) < (b : Int) then (b : Int) else (a : Int)) : z = ((Nat.max a b : Nat) : Int) := by
  rw [h]
  split
  · rename_i hlt
    exact congrArg _ (Nat.max_eq_right (show a ≤ b by omega)).symm
  · rename_i hlt
    exact congrArg _ (Nat.max_eq_left (show b ≤ a by omega)).symm
end Go.Proofs.Ybulkdkuc.Sc
