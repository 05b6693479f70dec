/-
  What a world holds (maps, rows), and what a call leaves alone.
-/
import Derived.Test.YbulkdkucRows
import Derived.WalkKit
import Derived.WalkSpells
import Derived.Deep.QuietTactic
import Derived.BigQuiet
import Derived.Maps.Own
import Derived.Maps.OwnOps
import Derived.Maps.OwnSet
import Derived.Maps.RangeWalk
import Derived.Maps.AppendAt
import Derived.StringKeys
namespace Go.Proofs.Ybulkdkuc.Sc
open Go.RowKit Go.Maps

theorem hid_of {p : Prop} (h : p) : Hid p := h

/-- w' is w with new blocks, and with writes to blocks of S alone. -/
structure Kept (S : Nat → Prop) (w w' : World) : Prop where
  os : w'.os = w.os
  tape : w'.tape = w.tape
  output : w'.output = w.output
  size : w.heap.size ≤ w'.heap.size
  block : ∀ k, k < w.heap.size → ¬ S k → w'.heap[k]? = w.heap[k]?

theorem Kept.refl (S : Nat → Prop) (w : World) : Kept S w w := ⟨rfl, rfl, rfl, Nat.le_refl _, fun _ _ _ => rfl⟩
theorem Kept.trans {S : Nat → Prop} {a b c : World} (h : Kept S a b) (k : Kept S b c) : Kept S a c :=
  ⟨k.os.trans h.os, k.tape.trans h.tape, k.output.trans h.output, Nat.le_trans h.size k.size, fun i hi hn => (k.block i (Nat.lt_of_lt_of_le hi h.size) hn).trans (h.block i hi hn)⟩
theorem Kept.mono {S S' : Nat → Prop} {w w' : World} (h : Kept S w w') (hS : ∀ k, k < w.heap.size → S k → S' k) : Kept S' w w' :=
  ⟨h.os, h.tape, h.output, h.size, fun k hk hn => h.block k hk fun hs => hn (hS k hk hs)⟩
/-- .. and what is written later lies in blocks that w has not, or in blocks of S. -/
theorem Kept.on {S S' : Nat → Prop} {a b c : World} (h : Kept S a b) (k : Kept S' b c) (hS : ∀ x, x < a.heap.size → S' x → S x) : Kept S a c :=
  ⟨k.os.trans h.os, k.tape.trans h.tape, k.output.trans h.output, Nat.le_trans h.size k.size, fun i hi hn => (k.block i (Nat.lt_of_lt_of_le hi h.size) fun hs => hn (hS i hi hs)).trans (h.block i hi hn)⟩
theorem Kept.alloc (S : Nat → Prop) (w : World) (o : Obj) : Kept S w (w.alloc o) := ⟨rfl, rfl, rfl, by simp, fun _ hk _ => Below.heap_alloc _ _ _ hk⟩
theorem Kept.setCell {S : Nat → Prop} (w : World) (a : Addr) (v : Value) (h : S a.block) : Kept S w (w.setCell a v) :=
  ⟨rfl, rfl, rfl, by simp, fun _ _ hn => Below.heap_setCell _ _ _ _ (fun e => hn (e ▸ h))⟩
theorem Kept.drew (S : Nat → Prop) (w : World) (n : Nat) : Kept S w (w.drewN n) := ⟨rfl, rfl, rfl, Nat.le_refl _, fun _ _ _ => rfl⟩
theorem Kept.drew1 {S : Nat → Prop} {w w' : World} (h : Kept S w w') : Kept S w w'.drew := ⟨h.os, h.tape, h.output, h.size, h.block⟩
theorem Kept.drewN {S : Nat → Prop} {w w' : World} (h : Kept S w w') (n : Nat) : Kept S w (w'.drewN n) := ⟨h.os, h.tape, h.output, h.size, h.block⟩
theorem Kept.grown {S : Nat → Prop} {w w' : World} {row : Option Nat} (h : w.grownBy w' row) (hr : ∀ k, row = some k → S k) : Kept S w w' :=
  ⟨h.os, h.tape, h.output, h.size, fun k hk hn => h.block k hk fun e => hn (hr k e.symm)⟩
theorem Kept.below {S : Nat → Prop} {w w' : World} {B : Nat} (h : Kept S w w') (hB : B ≤ w.heap.size) (hS : ∀ k, S k → B ≤ k) : Below B w w' :=
  ⟨h.os, h.tape, h.output, h.size, fun k hk => h.block k (by omega) fun hs => by have := hS k hs; omega⟩
theorem Kept.of_below {S : Nat → Prop} {w w' : World} (h : Below w.heap.size w w') : Kept S w w' := ⟨h.os, h.tape, h.output, h.size, fun k hk _ => h.block k hk⟩
theorem Kept.toGrown {S : Nat → Prop} {w w' : World} (h : Kept S w w') (b : Nat) (hb : ¬ S b) (hlt : b < w.heap.size) : w'.heap[b]? = w.heap[b]? := h.block b hlt hb

theorem heap_set {w : World} {b o : Nat} {C : Array Value} {t : TypeId} {fr : Nat × Nat} (v : Value) (h : w.heap[b]? = some (.cells C t fr)) :
    (w.setCell ⟨b, o, none⟩ v).heap[b]? = some (.cells (C.setIfInBounds o v) t fr) := by
  simp [World.setCell, Array.getElem?_modify, h]
theorem cell_of {w : World} {b o : Nat} {C : Array Value} {t : TypeId} {fr : Nat × Nat} (h : w.heap[b]? = some (.cells C t fr)) : w.cell? ⟨b, o, none⟩ = C[o]? := by
  simp [World.cell?, h]
theorem frozen_of {w : World} {b o : Nat} {C : Array Value} {t : TypeId} (h : w.heap[b]? = some (.cells C t (0, 0))) : w.frozen? ⟨b, o, none⟩ = false := by
  simp [World.frozen?, h]
theorem lt_of {w : World} {b : Nat} {o : Obj} (h : w.heap[b]? = some o) : b < w.heap.size := by
  rcases Nat.lt_or_ge b w.heap.size with h' | h'
  · exact h'
  · rw [Array.getElem?_eq_none h'] at h; cases h
theorem lt_of_cell {w : World} {b o : Nat} {v : Value} (h : w.cell? ⟨b, o, none⟩ = some v) : b < w.heap.size := by
  rcases Nat.lt_or_ge b w.heap.size with h' | h'
  · exact h'
  · simp [World.cell?, Array.getElem?_eq_none h'] at h
theorem Kept.cell {S : Nat → Prop} {w w' : World} {b o : Nat} {v : Value} (hk : Kept S w w') (hn : ¬ S b) (h : w.cell? ⟨b, o, none⟩ = some v) : w'.cell? ⟨b, o, none⟩ = some v :=
  (World.cell?_of_block (w := w) (hk.block b (lt_of_cell h) hn)).trans h
theorem add_at (b o j : Nat) : (⟨b, o, none⟩ : Addr).add j = ⟨b, o + j, none⟩ := by
  unfold Addr.add
  split
  · rename_i h; subst h; rfl
  · rfl

/-! ### maps -/
/-- An element reads as itself. -/
def Rv (v : Value) : Option (DataW Value × List MemPlace) := some (.held v, [])
/-- What stands at a key. -/
def look (D : DataW Value) (kl : Lit) : Option Value := match D.atKey kl .nil with | .held v => some v | _ => none

theorem look_empty (kl : Lit) : look (.map []) kl = none := rfl
theorem look_put_same {D : DataW Value} (hD : IsMap D) {k : Lit} (hk : WideAt.IsKeyLit k) (v : Value) : look (D.put k (.held v)) k = some v := by
  unfold look; rw [atKey_put_same hD hk]
theorem look_put_other {D : DataW Value} {k k' : Lit} (hne : k' ≠ k) (v : Value) : look (D.put k (.held v)) k' = look D k' := by
  unfold look; rw [atKey_put_other hne]

variable {P : Program} {k : TypeId} {w : World} {b n : Nat} {D : DataW Value}

theorem look_cases (h : w.ownsMap P k Rv b n D) (K : Keyed P k) {key : Value} {kl : Lit} (hkey : keyOf P k key = some kl) :
    (look D kl = none ∧ Maps.has D kl = false ∧ ∀ z, D.atKey kl z = z) ∨ ∃ v, look D kl = some v ∧ Maps.has D kl = true ∧ ∀ z, D.atKey kl z = .held v := by
  obtain ⟨es, clock, hb, F, _, rfl⟩ := h
  have hat := WideShapes.atKey_sorted (es.toList.map (WideElems.rg P k Rv)) (fit_rising K F) kl (K.key hkey)
  by_cases hx : ∃ x ∈ es.toList, x.key = key
  · obtain ⟨x, hx, hxk⟩ := hx
    obtain ⟨y, hy⟩ := F.reads x hx
    obtain ⟨zv, hzv, hd⟩ := WideElems.rd_val hy
    have m0 := WideElems.rd_key hy
    rw [hxk, hkey] at m0
    have e : ∀ zd, (DataW.map ((es.toList.map (WideElems.rg P k Rv)).foldr DataW.insert [])).atKey kl zd = .held x.val := fun zd => by
      rw [hat.2 (WideElems.rg P k Rv x) (List.mem_map.2 ⟨x, hx, rfl⟩) (by rw [WideElems.rg_of hy]; exact (Option.some.inj m0).symm), WideElems.rg_of hy, hd]
      unfold Rv at hzv; cases hzv; rfl
    exact .inr ⟨x.val, by unfold look; rw [e], has_true_of_atKey e, e⟩
  · have e : ∀ zd, (DataW.map ((es.toList.map (WideElems.rg P k Rv)).foldr DataW.insert [])).atKey kl zd = zd := fun zd => by
      refine hat.1 (fun p hp e1 => ?_) zd
      obtain ⟨x, hx', rfl⟩ := List.mem_map.1 hp
      obtain ⟨y, hy⟩ := F.reads x hx'
      have m1 := WideElems.rd_key hy
      rw [WideElems.rg_of hy] at e1
      rw [e1] at m1
      exact hx ⟨x, hx', K.inj m1 hkey⟩
    exact .inl ⟨by unfold look; rw [e], has_false_of_atKey e, e⟩

theorem has_look (h : w.ownsMap P k Rv b n D) (K : Keyed P k) {key : Value} {kl : Lit} (hkey : keyOf P k key = some kl) : Maps.has D kl = (look D kl).isSome := by
  rcases look_cases h K hkey with ⟨a, b, _⟩ | ⟨v, a, b, _⟩ <;> rw [a, b] <;> rfl

theorem look_run {t e : TypeId} (h : w.ownsMap P k Rv b n D) (K : Keyed P k) (ht : P.underlying t = some (.map k e)) {z : Value} (hz : (zeroValue e).run P w = .ok z w) {key : Value} {kl : Lit} (hkey : keyOf P k key = some kl) :
    (Instr.lookup t (.map (some b)) key false).run P w = .ok ((look D kl).getD z) w := by
  obtain ⟨v, ps, hrun, hv⟩ := h.lookup K ht hz (zd := .held z) (zp := []) rfl hkey
  have : (DataW.held v : DataW Value) = D.atKey kl (.held z) := congrArg Prod.fst (Option.some.inj hv)
  rcases look_cases h K hkey with ⟨a, _, e1⟩ | ⟨u, a, _, e1⟩
  · rw [e1] at this; cases this; rw [a]; exact hrun
  · rw [e1] at this; cases this; rw [a]; exact hrun

theorem look_ok_run {t e : TypeId} (h : w.ownsMap P k Rv b n D) (K : Keyed P k) (ht : P.underlying t = some (.map k e)) {z : Value} (hz : (zeroValue e).run P w = .ok z w) {key : Value} {kl : Lit} (hkey : keyOf P k key = some kl) :
    (Instr.lookup t (.map (some b)) key true).run P w = .ok (.tuple #[(look D kl).getD z, .bool (look D kl).isSome]) w := by
  obtain ⟨v, ps, hrun, hv⟩ := h.look_ok K ht hz (zd := .held z) (zp := []) rfl hkey
  have : (DataW.held v : DataW Value) = D.atKey kl (.held z) := congrArg Prod.fst (Option.some.inj hv)
  rcases look_cases h K hkey with ⟨a, a', e1⟩ | ⟨u, a, a', e1⟩
  · rw [e1] at this; cases this; rw [a'] at hrun; rw [a]; exact hrun
  · rw [e1] at this; cases this; rw [a'] at hrun; rw [a]; exact hrun

theorem owns_kept {S : Nat → Prop} {w' : World} (h : w.ownsMap P k Rv b n D) (hk : Kept S w w') (hn : ¬ S b) : w'.ownsMap P k Rv b n D := by
  have hlt := h.lt
  obtain ⟨es, clock, hb, r⟩ := h
  exact ⟨es, clock, (hk.block b hlt hn).trans hb, r⟩
theorem owns_isMap (h : w.ownsMap P k Rv b n D) : IsMap D := h.isMap

/-- A step of 'for k, v := range m', whatever the shapes. -/
theorem next_cases {r cnt : Nat} {left : Lit → Bool} (h : w.ranges P k Rv b r n D left cnt) (K : Keyed P k) (ty : TypeId) :
    (cnt = 0 ∧ (∀ kl, left kl = false) ∧ (Instr.next (.pointer (some ⟨r, 0, none⟩)) false ty).run P w = .ok (.tuple #[.bool false]) w) ∨
    ∃ key v kl w' cnt', keyOf P k key = some kl ∧ left kl = true ∧ look D kl = some v ∧ (Instr.next (.pointer (some ⟨r, 0, none⟩)) false ty).run P w = .ok (.tuple #[.bool true, key, v]) w' ∧
      w'.ranges P k Rv b r n D (fun x => left x && !x.sameKey kl) cnt' ∧ cnt' < cnt ∧ w.grownBy w' (some r) ∧ w'.heap.size = w.heap.size ∧ (Instr.entry (.pointer (some ⟨r, 0, none⟩))).run P w' = .ok (.tuple #[key, v]) w' := by
  rcases h.next K ty with h | ⟨key, v, kl, y, w', cnt', h1, h2, h3, h4, h5, h6⟩
  · exact .inl h
  · refine .inr ⟨key, v, kl, w', cnt', h1, h2, ?_, h5, h6⟩
    unfold look
    rw [h4]
    unfold Rv at h3; cases h3; rfl
end Go.Proofs.Ybulkdkuc.Sc
