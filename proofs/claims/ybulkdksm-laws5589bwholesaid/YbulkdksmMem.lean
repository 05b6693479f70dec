/-
  The table in memory: what a world holds, and what a call leaves alone.
-/
import Derived.Test.YbulkdksmRows
import Derived.Test.YbulkdksmPlain
import Derived.WalkKit
import Derived.WalkSpells
import Derived.Deep.QuietTactic
import Derived.BigQuiet
namespace Go.Proofs.Ybulkdksm.Tb
open Go.RowKit

/-- w' is w with new blocks, and with writes to blocks of S alone. -/
structure Kept (S : Nat → Prop) (w w' : World) : Prop where
  os : w'.os = w.os
  tape : w'.tape = w.tape
  output : w'.output = w.output
  size : w.heap.size ≤ w'.heap.size
  block : ∀ k, k < w.heap.size → ¬ S k → w'.heap[k]? = w.heap[k]?

theorem Kept.refl (S : Nat → Prop) (w : World) : Kept S w w := ⟨rfl, rfl, rfl, Nat.le_refl _, fun _ _ _ => rfl⟩
theorem Kept.trans {S : Nat → Prop} {a b c : World} (h : Kept S a b) (k : Kept S b c) : Kept S a c :=
  ⟨k.os.trans h.os, k.tape.trans h.tape, k.output.trans h.output, Nat.le_trans h.size k.size, fun i hi hn => (k.block i (Nat.lt_of_lt_of_le hi h.size) hn).trans (h.block i hi hn)⟩
theorem Kept.mono {S S' : Nat → Prop} {w w' : World} (h : Kept S w w') (hS : ∀ k, k < w.heap.size → S k → S' k) : Kept S' w w' :=
  ⟨h.os, h.tape, h.output, h.size, fun k hk hn => h.block k hk fun hs => hn (hS k hk hs)⟩
/-- .. and what is written later lies in blocks that w has not, or in blocks of S. -/
theorem Kept.on {S S' : Nat → Prop} {a b c : World} (h : Kept S a b) (k : Kept S' b c) (hS : ∀ x, x < a.heap.size → S' x → S x) : Kept S a c :=
  ⟨k.os.trans h.os, k.tape.trans h.tape, k.output.trans h.output, Nat.le_trans h.size k.size, fun i hi hn => (k.block i (Nat.lt_of_lt_of_le hi h.size) fun hs => hn (hS i hi hs)).trans (h.block i hi hn)⟩
theorem Kept.alloc (S : Nat → Prop) (w : World) (o : Obj) : Kept S w (w.alloc o) := ⟨rfl, rfl, rfl, by simp, fun _ hk _ => Below.heap_alloc _ _ _ hk⟩
theorem Kept.setCell {S : Nat → Prop} (w : World) (a : Addr) (v : Value) (h : S a.block) : Kept S w (w.setCell a v) :=
  ⟨rfl, rfl, rfl, by simp, fun _ _ hn => Below.heap_setCell _ _ _ _ (fun e => hn (e ▸ h))⟩
theorem Kept.drew (S : Nat → Prop) (w : World) (n : Nat) : Kept S w (w.drewN n) := ⟨rfl, rfl, rfl, Nat.le_refl _, fun _ _ _ => rfl⟩
theorem Kept.drew1 {S : Nat → Prop} {w w' : World} (h : Kept S w w') : Kept S w w'.drew := ⟨h.os, h.tape, h.output, h.size, h.block⟩
theorem Kept.grown {S : Nat → Prop} {w w' : World} {row : Option Nat} (h : w.grownBy w' row) (hr : ∀ k, row = some k → S k) : Kept S w w' :=
  ⟨h.os, h.tape, h.output, h.size, fun k hk hn => h.block k hk fun e => hn (hr k e.symm)⟩
theorem Kept.below {S : Nat → Prop} {w w' : World} {B : Nat} (h : Kept S w w') (hB : B ≤ w.heap.size) (hS : ∀ k, S k → B ≤ k) : Below B w w' :=
  ⟨h.os, h.tape, h.output, h.size, fun k hk => h.block k (by omega) fun hs => by have := hS k hs; omega⟩
theorem Kept.of_below {S : Nat → Prop} {w w' : World} (h : Below w.heap.size w w') : Kept S w w' := ⟨h.os, h.tape, h.output, h.size, fun k hk _ => h.block k hk⟩

theorem heap_set {w : World} {b o : Nat} {C : Array Value} {t : TypeId} {fr : Nat × Nat} (v : Value) (h : w.heap[b]? = some (.cells C t fr)) :
    (w.setCell ⟨b, o, none⟩ v).heap[b]? = some (.cells (C.setIfInBounds o v) t fr) := by
  simp [World.setCell, Array.getElem?_modify, h]
theorem cell_of {w : World} {b o : Nat} {C : Array Value} {t : TypeId} {fr : Nat × Nat} (h : w.heap[b]? = some (.cells C t fr)) : w.cell? ⟨b, o, none⟩ = C[o]? := by
  simp [World.cell?, h]
theorem frozen_of {w : World} {b o : Nat} {C : Array Value} {t : TypeId} (h : w.heap[b]? = some (.cells C t (0, 0))) : w.frozen? ⟨b, o, none⟩ = false := by
  simp [World.frozen?, h]
theorem lt_of {w : World} {b : Nat} {o : Obj} (h : w.heap[b]? = some o) : b < w.heap.size := by
  rcases Nat.lt_or_ge b w.heap.size with h' | h'
  · exact h'
  · rw [Array.getElem?_eq_none h'] at h; cases h

/-- The four cells of a slot. -/
def cellsAt (C : Array Value) (i : Nat) (s : Slot) : Prop :=
  C[i * 4]? = some (.int .u64 s.key) ∧ C[i * 4 + 1]? = some (.int .u64 s.a) ∧ C[i * 4 + 2]? = some (.int .u32 s.b) ∧ C[i * 4 + 3]? = some (.int .u32 s.c)

/-- Block bs is a row of m slots, T. -/
def Row (w : World) (bs m : Nat) (T : Nat → Slot) : Prop :=
  ∃ C, w.heap[bs]? = some (.cells C 38 (0, 0)) ∧ C.size = m * 4 ∧ ∀ i, i < m → cellsAt C i (T i)

theorem Row.lt {w : World} {bs m : Nat} {T : Nat → Slot} (h : Row w bs m T) : bs < w.heap.size := by obtain ⟨C, h, _⟩ := h; exact lt_of h
theorem Row.frozen {w : World} {bs m : Nat} {T : Nat → Slot} (h : Row w bs m T) (o : Nat) : w.frozen? ⟨bs, o, none⟩ = false := by obtain ⟨C, h, _⟩ := h; exact frozen_of h
theorem Row.cells {w : World} {bs m : Nat} {T : Nat → Slot} (h : Row w bs m T) (i : Nat) (hi : i < m) :
    w.cell? ⟨bs, i * 4, none⟩ = some (.int .u64 (T i).key) ∧ w.cell? ⟨bs, i * 4 + 1, none⟩ = some (.int .u64 (T i).a) ∧ w.cell? ⟨bs, i * 4 + 2, none⟩ = some (.int .u32 (T i).b) ∧ w.cell? ⟨bs, i * 4 + 3, none⟩ = some (.int .u32 (T i).c) := by
  obtain ⟨C, h, _, hc⟩ := h
  simp only [cell_of h]
  exact hc i hi
theorem Row.of_block {w w' : World} {bs m : Nat} {T : Nat → Slot} (h : Row w bs m T) (e : w'.heap[bs]? = w.heap[bs]?) : Row w' bs m T := by
  obtain ⟨C, h, r⟩ := h; exact ⟨C, e.trans h, r⟩
theorem Row.kept {S : Nat → Prop} {w w' : World} {bs m : Nat} {T : Nat → Slot} (h : Row w bs m T) (hk : Kept S w w') (hn : ¬ S bs) : Row w' bs m T := h.of_block (hk.block bs h.lt hn)

/-- A slot stored, cell by cell. -/
theorem Row.store {w : World} {bs m : Nat} {T : Nat → Slot} (h : Row w bs m T) (p : Nat) (hp : p < m) (s : Slot) :
    Row ((((w.setCell ⟨bs, p * 4, none⟩ (.int .u64 s.key)).setCell ⟨bs, p * 4 + 1, none⟩ (.int .u64 s.a)).setCell ⟨bs, p * 4 + 2, none⟩ (.int .u32 s.b)).setCell ⟨bs, p * 4 + 3, none⟩ (.int .u32 s.c)) bs m (upd T p s) := by
  obtain ⟨C, h, hs, hc⟩ := h
  refine ⟨_, heap_set _ (heap_set _ (heap_set _ (heap_set _ h))), by simp [hs], fun i hi => ?_⟩
  by_cases e : i = p
  · subst e
    rw [upd_same]
    unfold cellsAt
    simp only [Array.getElem?_setIfInBounds, Array.size_setIfInBounds, hs]
    refine ⟨?_, ?_, ?_, ?_⟩
    · rw [if_neg (by omega), if_neg (by omega), if_neg (by omega), if_pos trivial, if_pos (by omega)]
    · rw [if_neg (by omega), if_neg (by omega), if_pos trivial, if_pos (by omega)]
    · rw [if_neg (by omega), if_pos trivial, if_pos (by omega)]
    · rw [if_pos trivial, if_pos (by omega)]
  · rw [upd_other _ _ _ _ e]
    have := hc i hi
    unfold cellsAt at *
    simp only [Array.getElem?_setIfInBounds, Array.size_setIfInBounds, hs]
    refine ⟨?_, ?_, ?_, ?_⟩
    · rw [if_neg (by omega), if_neg (by omega), if_neg (by omega), if_neg (by omega)]; exact this.1
    · rw [if_neg (by omega), if_neg (by omega), if_neg (by omega), if_neg (by omega)]; exact this.2.1
    · rw [if_neg (by omega), if_neg (by omega), if_neg (by omega), if_neg (by omega)]; exact this.2.2.1
    · rw [if_neg (by omega), if_neg (by omega), if_neg (by omega), if_neg (by omega)]; exact this.2.2.2

/-- The header: the slots, how many are taken, the seed, the base. -/
def Hdr (w : World) (bt : Nat) (v : Value) (n : Nat) : Prop := w.heap[bt]? = some (.cells #[v, .int .i64 n, .int .u64 0, .int .i64 0] 30 (0, 0))
theorem Hdr.lt {w : World} {bt : Nat} {v : Value} {n : Nat} (h : Hdr w bt v n) : bt < w.heap.size := lt_of h
theorem Hdr.ne {w : World} {bt bs m : Nat} {v : Value} {n : Nat} {T : Nat → Slot} (h : Hdr w bt v n) (hr : Row w bs m T) : bt ≠ bs := by
  rintro rfl
  obtain ⟨C, hr, _⟩ := hr
  unfold Hdr at h
  rw [h] at hr
  simp at hr
theorem Hdr.cells {w : World} {bt : Nat} {v : Value} {n : Nat} (h : Hdr w bt v n) :
    w.cell? ⟨bt, 0, none⟩ = some v ∧ w.cell? ⟨bt, 1, none⟩ = some (.int .i64 n) ∧ w.cell? ⟨bt, 2, none⟩ = some (.int .u64 0) ∧ w.cell? ⟨bt, 3, none⟩ = some (.int .i64 0) := by
  simp only [cell_of h]; exact ⟨rfl, rfl, rfl, rfl⟩
theorem Hdr.frozen {w : World} {bt : Nat} {v : Value} {n : Nat} (h : Hdr w bt v n) (o : Nat) : w.frozen? ⟨bt, o, none⟩ = false := frozen_of h
theorem Hdr.kept {S : Nat → Prop} {w w' : World} {bt : Nat} {v : Value} {n : Nat} (h : Hdr w bt v n) (hk : Kept S w w') (hn : ¬ S bt) : Hdr w' bt v n := (hk.block bt h.lt hn).trans h
theorem Hdr.slots {w : World} {bt : Nat} {v : Value} {n : Nat} (h : Hdr w bt v n) (v' : Value) : Hdr (w.setCell ⟨bt, 0, none⟩ v') bt v' n := heap_set v' h
theorem Hdr.used {w : World} {bt : Nat} {v : Value} {n : Nat} (h : Hdr w bt v n) (n' : Nat) : Hdr (w.setCell ⟨bt, 1, none⟩ (.int .i64 n')) bt v n' := heap_set _ h
end Go.Proofs.Ybulkdksm.Tb
