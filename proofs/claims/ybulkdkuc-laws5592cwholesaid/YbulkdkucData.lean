/-
  The schedule in memory: its operations, its versions, its starts and ends.
-/
import Derived.Test.YbulkdkucMem
import Derived.Test.YbulkdkucPlain
namespace Go.Proofs.Ybulkdkuc.Sc
open Go.RowKit Go.Maps

theorem K3 : Keyed Yba.prog 3 := int_keyed Yba.underlying3
theorem K9 : Keyed Yba.prog 9 := string_keyed Yba.underlying9
theorem zero3 (w : World) : (zeroValue 3).run Yba.prog w = .ok (.int .i64 0) w := by kernel_rfl
theorem zero48 (w : World) : (zeroValue 48).run Yba.prog w = .ok (.slice none 0 0) w := by kernel_rfl
theorem zero78 (w : World) : (zeroValue 78).run Yba.prog w = .ok (.slice none 0 0) w := by kernel_rfl
theorem zero37 (w : World) : (zeroValue 37).run Yba.prog w = .ok (.map none) w := by kernel_rfl

def ilit (t : Nat) : Lit := .int .i64 t
def slit (x : ByteArray) : Lit := .string x.data.toList
theorem ilit_inj {a b : Nat} (h : ilit a = ilit b) : a = b := by unfold ilit at h; simp at h; omega
theorem slit_inj {a b : ByteArray} (h : slit a = slit b) : a = b := by
  unfold slit at h; simp at h
  cases a; cases b; simp at h; simp [h]
theorem key3 {t : Nat} (h : t ≤ 1000) : keyOf Yba.prog 3 (.int .i64 (t : Int)) = some (ilit t) := keyOf_int_mk Yba.underlying3 (WalkArith.wf_i64 (by omega))
theorem key9 {x : ByteArray} (h : x.size ≤ 1) : keyOf Yba.prog 9 (.string x) = some (slit x) := WideMaps.keyOf_string_mk Yba.underlying9 (by unfold maxLen; omega)
theorem key9_inv {v : Value} {kl : Lit} (h : keyOf Yba.prog 9 v = some kl) : ∃ x : ByteArray, v = .string x ∧ kl = slit x := by
  cases v <;> simp [keyOf, mapKey, Yba.underlying9] at h
  exact ⟨_, rfl, h.2.symm⟩
theorem lit_i (t : Nat) : WideAt.IsKeyLit (ilit t) := trivial
theorem lit_s (x : ByteArray) : WideAt.IsKeyLit (slit x) := trivial

def upd {α : Type} (m : Nat → Option α) (t : Nat) (c : α) : Nat → Option α := fun x => if x = t then some c else m x

/-! ### map[int]int -/
def IM (D : DataW Value) (m : Nat → Option Nat) : Prop :=
  (∀ t c, m t = some c → look D (ilit t) = some (.int .i64 c)) ∧ ∀ kl v, look D kl = some v → ∃ t c : Nat, kl = ilit t ∧ v = .int .i64 c ∧ m t = some c ∧ t ≤ 5
def IMap (w : World) (b n : Nat) (m : Nat → Option Nat) : Prop := ∃ D, w.ownsMap Yba.prog 3 Rv b n D ∧ IM D m

theorem IM.get {D : DataW Value} {m : Nat → Option Nat} (h : IM D m) (t : Nat) : look D (ilit t) = (m t).map fun c => .int .i64 (c : Int) := by
  cases e : m t with
  | some c => exact h.1 t c e
  | none =>
    cases e' : look D (ilit t) with
    | none => rfl
    | some v =>
      obtain ⟨t', c, h1, _, h2, _⟩ := h.2 _ _ e'
      rw [ilit_inj h1, h2] at e; cases e
theorem IM.run {w : World} {b n : Nat} {D : DataW Value} {m : Nat → Option Nat} (ho : w.ownsMap Yba.prog 3 Rv b n D) (h : IM D m) {t : Nat} (ht : t ≤ 1000) :
    (Instr.lookup 37 (.map (some b)) (.int .i64 (t : Int)) false).run Yba.prog w = .ok (.int .i64 (gd m t : Nat)) w := by
  rw [look_run ho K3 Yba.underlying37 (zero3 w) (key3 ht), h.get t]
  unfold gd; cases m t <;> rfl
theorem IM.run_ok {w : World} {b n : Nat} {D : DataW Value} {m : Nat → Option Nat} (ho : w.ownsMap Yba.prog 3 Rv b n D) (h : IM D m) {t : Nat} (ht : t ≤ 1000) :
    (Instr.lookup 37 (.map (some b)) (.int .i64 (t : Int)) true).run Yba.prog w = .ok (.tuple #[.int .i64 (gd m t : Nat), .bool (m t).isSome]) w := by
  rw [look_ok_run ho K3 Yba.underlying37 (zero3 w) (key3 ht), h.get t]
  unfold gd; cases m t <;> rfl
theorem IMap.run {w : World} {b n : Nat} {m : Nat → Option Nat} (h : IMap w b n m) {t : Nat} (ht : t ≤ 1000) :
    (Instr.lookup 37 (.map (some b)) (.int .i64 (t : Int)) false).run Yba.prog w = .ok (.int .i64 (gd m t : Nat)) w := by
  obtain ⟨D, ho, hm⟩ := h; exact hm.run ho ht
theorem IMap.run_ok {w : World} {b n : Nat} {m : Nat → Option Nat} (h : IMap w b n m) {t : Nat} (ht : t ≤ 1000) :
    (Instr.lookup 37 (.map (some b)) (.int .i64 (t : Int)) true).run Yba.prog w = .ok (.tuple #[.int .i64 (gd m t : Nat), .bool (m t).isSome]) w := by
  obtain ⟨D, ho, hm⟩ := h; exact hm.run_ok ho ht
theorem IMap.lt {w : World} {b n : Nat} {m : Nat → Option Nat} (h : IMap w b n m) : b < w.heap.size := by obtain ⟨D, ho, _⟩ := h; exact ho.lt
theorem IMap.kept {S : Nat → Prop} {w w' : World} {b n : Nat} {m : Nat → Option Nat} (h : IMap w b n m) (hk : Kept S w w') (hn : ¬ S b) : IMap w' b n m := by
  obtain ⟨D, ho, hm⟩ := h; exact ⟨D, owns_kept ho hk hn, hm⟩
theorem IMap.below {w w' : World} {b n : Nat} {m : Nat → Option Nat} (h : IMap w b n m) (hk : Below w.heap.size w w') : IMap w' b n m := h.kept (Kept.of_below (S := fun _ => False) hk) id
theorem IMap.mono {w : World} {b n n' : Nat} {m : Nat → Option Nat} (h : IMap w b n m) (hn : n ≤ n') : IMap w b n' m := by
  obtain ⟨D, ho, hm⟩ := h; exact ⟨D, ho.mono hn, hm⟩
theorem IMap.congr {w : World} {b n : Nat} {m m' : Nat → Option Nat} (h : IMap w b n m) (e : ∀ t, m t = m' t) : IMap w b n m' := by
  rw [show m' = m from funext fun t => (e t).symm]; exact h
theorem IM.made : IM (.map []) (fun _ => none) := by
  refine ⟨fun _ _ h => ?_, fun kl v h => ?_⟩
  · cases h
  · rw [look_empty] at h; cases h
theorem IMap.made (w : World) : IMap (w.alloc (.map #[] 0)) w.heap.size 0 (fun _ => none) := ⟨_, World.ownsMap_made _ _ _ _, IM.made⟩
theorem IM.put {D : DataW Value} {m : Nat → Option Nat} (hD : IsMap D) (h : IM D m) {t : Nat} (ht : t ≤ 5) (c : Nat) : IM (D.put (ilit t) (.held (.int .i64 (c : Int)))) (upd m t c) := by
  constructor
  · intro t' c' hc
    unfold upd at hc
    split at hc
    · rename_i e; subst e; cases hc; exact look_put_same hD (lit_i _) _
    · rename_i e; rw [look_put_other (fun e' => e (ilit_inj e'))]; exact h.1 _ _ hc
  · intro kl v hv
    by_cases e : kl = ilit t
    · subst e
      rw [look_put_same hD (lit_i _)] at hv; cases hv
      exact ⟨t, c, rfl, rfl, by simp [upd], ht⟩
    · rw [look_put_other e] at hv
      obtain ⟨t', c', h1, h2, h3, h4⟩ := h.2 _ _ hv
      exact ⟨t', c', h1, h2, by unfold upd; rw [if_neg (fun e' => e (by rw [h1, e']))]; exact h3, h4⟩
/-- 'm[t] = c'. -/
theorem IMap.store {w : World} {b n : Nat} {m : Nat → Option Nat} (h : IMap w b n m) (hn : n < 1000000) {t : Nat} (ht : t ≤ 5) (c : Nat) :
    ∃ w', (Instr.mapUpdate 37 (.map (some b)) (.int .i64 (t : Int)) (.int .i64 (c : Int))).run Yba.prog w = .ok () w' ∧ IMap w' b (n + 1) (upd m t c) ∧ w.grownBy w' (some b) := by
  obtain ⟨D, ho, hm⟩ := h
  obtain ⟨w', h1, h2, h3⟩ := ho.update K3 Yba.underlying37 (by unfold maxLen; omega) (key3 (t := t) (by omega)) (val := .int .i64 (c : Int)) (d := .held (.int .i64 (c : Int))) (ps := []) rfl
  exact ⟨w', h1, ⟨_, h2, hm.put ho.isMap ht c⟩, h3⟩

/-! ### []int -/
def IntsAt (w : World) (A : Option Addr) (xs : List Nat) : Prop := ∀ i, i < xs.length → ∃ g, A = some ⟨g, 0, none⟩ ∧ w.cell? ⟨g, i, none⟩ = some (.int .i64 (xs.getD i 0 : Nat))
theorem IntsAt.kept {S : Nat → Prop} {w w' : World} {A : Option Addr} {xs : List Nat} (h : IntsAt w A xs) (hk : Kept S w w') (hn : ∀ g, A = some ⟨g, 0, none⟩ → g < w.heap.size → ¬ S g) : IntsAt w' A xs := fun i hi => by
  obtain ⟨g, h1, h2⟩ := h i hi
  exact ⟨g, h1, hk.cell (hn g h1 (lt_of_cell h2)) h2⟩
theorem IntsAt.below {w w' : World} {A : Option Addr} {xs : List Nat} (h : IntsAt w A xs) (hk : Below w.heap.size w w') : IntsAt w' A xs := h.kept (Kept.of_below (S := fun _ => False) hk) fun _ _ _ => id

/-! ### map[string][]int: the versions -/
def VD (w : World) (D : DataW Value) (V : ByteArray → List Nat) : Prop :=
  (∀ x, look D (slit x) = none → V x = []) ∧ ∀ x v, look D (slit x) = some v → V x ≠ [] ∧ ∃ A C, v = .slice A (V x).length C ∧ IntsAt w A (V x)
def Vers (w : World) (b n : Nat) (V : ByteArray → List Nat) : Prop := ∃ D, w.ownsMap Yba.prog 9 Rv b n D ∧ VD w D V
theorem VD.below {w w' : World} {D : DataW Value} {V : ByteArray → List Nat} (h : VD w D V) (hk : Below w.heap.size w w') : VD w' D V :=
  ⟨h.1, fun x v hv => by obtain ⟨h1, A, C, h2, h3⟩ := h.2 x v hv; exact ⟨h1, A, C, h2, h3.below hk⟩⟩
theorem owns_below {k : TypeId} {w w' : World} {b n : Nat} {D : DataW Value} (h : w.ownsMap Yba.prog k Rv b n D) (hk : Below w.heap.size w w') : w'.ownsMap Yba.prog k Rv b n D :=
  owns_kept h (Kept.of_below (S := fun _ => False) hk) id
theorem Vers.below {w w' : World} {b n : Nat} {V : ByteArray → List Nat} (h : Vers w b n V) (hk : Below w.heap.size w w') : Vers w' b n V := by
  obtain ⟨D, ho, hv⟩ := h; exact ⟨D, owns_below ho hk, hv.below hk⟩
theorem Vers.lt {w : World} {b n : Nat} {V : ByteArray → List Nat} (h : Vers w b n V) : b < w.heap.size := by obtain ⟨D, ho, _⟩ := h; exact ho.lt

theorem VD.run {w : World} {b n : Nat} {D : DataW Value} {V : ByteArray → List Nat} (ho : w.ownsMap Yba.prog 9 Rv b n D) (h : VD w D V) {x : ByteArray} (hx : x.size ≤ 1) :
    ∃ A C, (∀ c : Bool, (Instr.lookup 36 (.map (some b)) (.string x) c).run Yba.prog w = .ok (if c then .tuple #[.slice A (V x).length C, .bool ((V x).length != 0)] else .slice A (V x).length C) w) ∧ IntsAt w A (V x) ∧ ((V x).length = 0 → A = none ∧ C = 0) := by
  have e1 := look_run ho K9 Yba.underlying36 (zero48 w) (key9 hx)
  have e2 := look_ok_run ho K9 Yba.underlying36 (zero48 w) (key9 hx)
  cases e : look D (slit x) with
  | none =>
    rw [e] at e1 e2
    rw [h.1 x e]
    exact ⟨none, 0, fun c => by cases c; exact e1; exact e2, fun i hi => by simp at hi, fun _ => ⟨rfl, rfl⟩⟩
  | some v =>
    obtain ⟨h1, A, C, rfl, h3⟩ := h.2 x v e
    rw [e] at e1 e2
    have h4 : (V x).length ≠ 0 := by simpa using h1
    have h5 : ((V x).length != 0) = true := by simpa using h1
    rw [h5]
    exact ⟨A, C, fun c => by cases c; exact e1; exact e2, h3, fun h => absurd h h4⟩
theorem Vers.run {w : World} {b n : Nat} {V : ByteArray → List Nat} (h : Vers w b n V) {x : ByteArray} (hx : x.size ≤ 1) :
    ∃ A C, (Instr.lookup 36 (.map (some b)) (.string x) false).run Yba.prog w = .ok (.slice A (V x).length C) w ∧ IntsAt w A (V x) := by
  obtain ⟨D, ho, hv⟩ := h
  obtain ⟨A, C, h1, h2, _⟩ := hv.run ho hx
  exact ⟨A, C, h1 false, h2⟩

/-- 'versions[x]', in whatever world behind w. -/
theorem Vers.runs {w : World} {b n : Nat} {V : ByteArray → List Nat} (h : Vers w b n V) {x : ByteArray} (hx : x.size ≤ 1) :
    ∃ A C, (∀ w', Below w.heap.size w w' → (Instr.lookup 36 (.map (some b)) (.string x) false).run Yba.prog w' = .ok (.slice A (V x).length C) w') ∧ IntsAt w A (V x) := by
  obtain ⟨D, ho, hv⟩ := h
  obtain ⟨A, C, h1, h2, _⟩ := hv.run ho hx
  refine ⟨A, C, fun w' hb => ?_, h2⟩
  have e1 := h1 false
  rw [look_run ho K9 Yba.underlying36 (zero48 w) (key9 hx)] at e1
  rw [look_run (owns_below ho hb) K9 Yba.underlying36 (zero48 w') (key9 hx)]
  injection e1 with e1 _
  rw [e1]; rfl

/-! ### the operations -/
def OpCells (w : World) (g i : Nat) (o : Opr) : Prop :=
  w.cell? ⟨g, i * 6, none⟩ = some (.int .u8 o.kind) ∧ w.cell? ⟨g, i * 6 + 1, none⟩ = some (.int .i64 o.txn) ∧ w.cell? ⟨g, i * 6 + 2, none⟩ = some (.string o.key) ∧
  w.cell? ⟨g, i * 6 + 3, none⟩ = some (.int .i64 o.frm) ∧ w.cell? ⟨g, i * 6 + 4, none⟩ = some (.int .i64 0) ∧ w.cell? ⟨g, i * 6 + 5, none⟩ = some (.bool false)
def OpsAt (w : World) (A : Option Addr) (n : Nat) (O : Nat → Opr) : Prop := ∀ i, i < n → ∃ g, A = some ⟨g, 0, none⟩ ∧ OpCells w g i (O i)
theorem OpCells.kept {S : Nat → Prop} {w w' : World} {g i : Nat} {o : Opr} (h : OpCells w g i o) (hk : Kept S w w') (hn : ¬ S g) : OpCells w' g i o :=
  ⟨hk.cell hn h.1, hk.cell hn h.2.1, hk.cell hn h.2.2.1, hk.cell hn h.2.2.2.1, hk.cell hn h.2.2.2.2.1, hk.cell hn h.2.2.2.2.2⟩
theorem OpsAt.kept {S : Nat → Prop} {w w' : World} {A : Option Addr} {n : Nat} {O : Nat → Opr} (h : OpsAt w A n O) (hk : Kept S w w') (hn : ∀ g, A = some ⟨g, 0, none⟩ → g < w.heap.size → ¬ S g) : OpsAt w' A n O := fun i hi => by
  obtain ⟨g, h1, h2⟩ := h i hi
  exact ⟨g, h1, h2.kept hk (hn g h1 (lt_of_cell h2.1))⟩
theorem OpsAt.below {w w' : World} {A : Option Addr} {n : Nat} {O : Nat → Opr} (h : OpsAt w A n O) (hk : Below w.heap.size w w') : OpsAt w' A n O := h.kept (Kept.of_below (S := fun _ => False) hk) fun _ _ _ => id

/-- The schedule S lies in w. -/
structure Dat (w : World) (S : Sch) (A : Option Addr) (bv nv bs ns be ne : Nat) : Prop where
  ops : OpsAt w A S.n S.O
  vers : Vers w bv nv S.V
  st : IMap w bs ns S.st
  en : IMap w be ne S.en
theorem Dat.below {w w' : World} {S : Sch} {A : Option Addr} {bv nv bs ns be ne : Nat} (h : Dat w S A bv nv bs ns be ne) (hk : Below w.heap.size w w') : Dat w' S A bv nv bs ns be ne :=
  ⟨h.ops.below hk, h.vers.below hk, h.st.below hk, h.en.below hk⟩
end Go.Proofs.Ybulkdkuc.Sc
