/-
  The readers of each version, in memory: a map of rows.
-/
import Derived.Test.YbulkdkucTwoB
import Derived.Test.YbulkdkucVersW
import Derived.Test.YbulkdkucPlain3
namespace Go.Proofs.Ybulkdkuc.Sc
open Go.RowKit Go.Maps

/-- The value at a key: nil, or a row of one pair more than the key has versions. -/
def rowV (V : ByteArray → List Nat) (x : ByteArray) : Option Nat → Value
  | none => .slice none 0 0
  | some g => .slice (some ⟨g, 0, none⟩) ((V x).length + 1) ((V x).length + 1)

/-- Block b is a map that holds, at key x, the row in block G x, which reads as T x. -/
structure RM (w : World) (b n B : Nat) (V : ByteArray → List Nat) (G : ByteArray → Option Nat) (T : ByteArray → Nat → L2) (D : DataW Value) : Prop where
  own : w.ownsMap Yba.prog 9 Rv b n D
  get : ∀ x, look D (slit x) = (G x).map fun g => rowV V x (some g)
  row : ∀ x g, G x = some g → B ≤ g ∧ L2Row w g ((V x).length + 1) (T x)
  apart : ∀ x y g, G x = some g → G y = some g → x = y

theorem RM.made (w : World) (B : Nat) (V : ByteArray → List Nat) : RM (w.alloc (.map #[] 0)) w.heap.size 0 B V (fun _ => none) (fun _ _ => l2z) (.map []) :=
  ⟨World.ownsMap_made _ _ _ _, fun x => look_empty _, fun _ _ h => (by cases h), fun _ _ _ h => (by cases h)⟩
theorem RM.kept {S : Nat → Prop} {w w' : World} {b n B : Nat} {V : ByteArray → List Nat} {G : ByteArray → Option Nat} {T : ByteArray → Nat → L2} {D : DataW Value} (h : RM w b n B V G T D) (hk : Kept S w w') (hb : ¬ S b) (hr : ∀ x g, G x = some g → ¬ S g) : RM w' b n B V G T D :=
  ⟨owns_kept h.own hk hb, h.get, fun x g hg => ⟨(h.row x g hg).1, (h.row x g hg).2.kept hk (hr x g hg)⟩, h.apart⟩
theorem RM.mono {w : World} {b n n' B : Nat} {V : ByteArray → List Nat} {G : ByteArray → Option Nat} {T : ByteArray → Nat → L2} {D : DataW Value} (h : RM w b n B V G T D) (hn : n ≤ n') : RM w b n' B V G T D :=
  ⟨h.own.mono hn, h.get, h.row, h.apart⟩
theorem RM.run {w : World} {b n B : Nat} {V : ByteArray → List Nat} {G : ByteArray → Option Nat} {T : ByteArray → Nat → L2} {D : DataW Value} (h : RM w b n B V G T D) {x : ByteArray} (hx : x.size ≤ 1) :
    (Instr.lookup 76 (.map (some b)) (.string x) false).run Yba.prog w = .ok (rowV V x (G x)) w := by
  rw [look_run h.own K9 Yba.underlying76 (zero78 w) (key9 hx), h.get x]
  cases G x <;> rfl
/-- 'readers[x] = row', the row in block g. -/
theorem RM.store {w : World} {b n B g : Nat} {V : ByteArray → List Nat} {G : ByteArray → Option Nat} {T : ByteArray → Nat → L2} {D : DataW Value} (h : RM w b n B V G T D) (hn : n < 1000000) {x : ByteArray} (hx : x.size ≤ 1) (hgB : B ≤ g) (hgb : g ≠ b)
    (hrow : L2Row w g ((V x).length + 1) (fun _ => l2z)) (hnew : ∀ y g', G y = some g' → g' ≠ g) :
    ∃ w', (Instr.mapUpdate 76 (.map (some b)) (.string x) (rowV V x (some g))).run Yba.prog w = .ok () w' ∧ RM w' b (n + 1) B V (updG G x g) (zroT T x) (D.put (slit x) (.held (rowV V x (some g)))) ∧ w.grownBy w' (some b) := by
  obtain ⟨w', h1, h2, h3⟩ := h.own.update K9 Yba.underlying76 (by unfold maxLen; omega) (key9 hx) (val := rowV V x (some g)) (d := .held (rowV V x (some g))) (ps := []) rfl
  have hk : Kept (fun k => k = b) w w' := Kept.grown h3 fun k e => by cases e; rfl
  have hbne : ∀ y g', G y = some g' → g' ≠ b := fun y g' hg e => by
    obtain ⟨C, hC, _⟩ := (h.row y g' hg).2
    obtain ⟨es, cl, hm, _⟩ := h.own
    rw [e, hm] at hC; cases hC
  refine ⟨w', h1, ⟨h2, fun y => ?_, fun y g' hg => ?_, fun y z g' hy hz => ?_⟩, h3⟩
  · unfold updG
    by_cases e : y = x
    · subst e; rw [look_put_same h.own.isMap (lit_s _), if_pos rfl]; rfl
    · rw [look_put_other (fun e' => e (slit_inj e')), if_neg e]; exact h.get y
  · unfold updG at hg
    unfold zroT
    by_cases e : y = x
    · subst e
      rw [if_pos rfl] at hg; cases hg
      refine ⟨hgB, (hrow.kept hk hgb).congr fun i _ => ?_⟩
      rw [if_pos rfl]
    · rw [if_neg e] at hg
      refine ⟨(h.row y g' hg).1, ((h.row y g' hg).2.kept hk (hbne y g' hg)).congr fun i _ => ?_⟩
      rw [if_neg e]
  · unfold updG at hy hz
    by_cases e : y = x
    · by_cases e2 : z = x
      · rw [e, e2]
      · rw [if_pos e] at hy; rw [if_neg e2] at hz; cases hy
        exact absurd rfl (hnew z g hz)
    · by_cases e2 : z = x
      · rw [if_neg e] at hy; rw [if_pos e2] at hz; cases hz
        exact absurd rfl (hnew y g hy)
      · rw [if_neg e] at hy; rw [if_neg e2] at hz
        exact h.apart y z g' hy hz
/-- A row written at one place. -/
theorem RM.set {w w' : World} {b n B g j : Nat} {V : ByteArray → List Nat} {G : ByteArray → Option Nat} {T : ByteArray → Nat → L2} {D : DataW Value} {x : ByteArray} {l : L2} (h : RM w b n B V G T D) (hg : G x = some g)
    (hrow : L2Row w' g ((V x).length + 1) (updT (T x) j l)) (hk : Kept (fun k => k = g) w w') : RM w' b n B V G (updR T x j l) D := by
  have hgb : g ≠ b := fun e => by
    obtain ⟨C, hC, _⟩ := (h.row x g hg).2
    obtain ⟨es, cl, hm, _⟩ := h.own
    rw [e, hm] at hC; cases hC
  refine ⟨owns_kept h.own hk (fun e => hgb e.symm), h.get, fun y g' hg' => ?_, h.apart⟩
  by_cases e : y = x
  · subst e
    rw [hg] at hg'; cases hg'
    refine ⟨(h.row y g hg).1, hrow.congr fun i _ => ?_⟩
    unfold updT updR
    by_cases e : i = j
    · rw [if_pos e, if_pos ⟨rfl, e⟩]
    · rw [if_neg e, if_neg (fun h => e h.2)]
  · refine ⟨(h.row y g' hg').1, ((h.row y g' hg').2.kept hk (fun e' => e (h.apart y x g (e' ▸ hg') hg))).congr fun i _ => ?_⟩
    unfold updR
    rw [if_neg (fun h => e h.1)]
end Go.Proofs.Ybulkdkuc.Sc
