/-
  Rows that the call owns: of operations, of numbers.
-/
import Derived.Test.YbulkdkucLeaf
import Derived.WalkLawsBesides
namespace Go.Proofs.Ybulkdkuc.Sc
open Go.RowKit Go.Maps

theorem info45 : (Yba.prog.info? 45).map (fun i => (i.zero, i.size, i.bytes)) = some (some (.agg #[.int .u8 0, .int .i64 0, .string ByteArray.empty, .int .i64 0, .int .i64 0, .bool false]), 6, 56) := by kernel_rfl
theorem info3 : (Yba.prog.info? 3).map (fun i => (i.zero, i.size, i.bytes)) = some (some (.int .i64 0), 1, 8) := by kernel_rfl

/-- An operation's cells. -/
def opC (o : Opr) : List Value := [.int .u8 o.kind, .int .i64 o.txn, .string o.key, .int .i64 o.frm, .int .i64 0, .bool false]
def opVals (O : Nat → Opr) : Nat → List Value
  | 0 => []
  | n + 1 => opVals O n ++ opC (O n)
theorem opVals_length (O : Nat → Opr) : ∀ n, (opVals O n).length = n * 6
  | 0 => rfl
  | n + 1 => by rw [opVals, List.length_append, opVals_length O n]; simp [opC]; omega
theorem opVals_get (O : Nat → Opr) : ∀ n i f, i < n → f < 6 → (opVals O n)[i * 6 + f]? = (opC (O i))[f]?
  | 0, i, _, h, _ => absurd h (Nat.not_lt_zero _)
  | n + 1, i, f, h, hf => by
    rw [opVals]
    rcases Nat.lt_or_ge i n with h1 | h1
    · rw [List.getElem?_append_left (by rw [opVals_length]; omega)]
      exact opVals_get O n i f h1 hf
    · obtain rfl : i = n := by omega
      rw [List.getElem?_append_right (by rw [opVals_length]; omega), opVals_length]
      congr 1
      omega
theorem opVals_congr {O O' : Nat → Opr} : ∀ n, (∀ i, i < n → O i = O' i) → opVals O n = opVals O' n
  | 0, _ => rfl
  | n + 1, h => by rw [opVals, opVals, opVals_congr n (fun i hi => h i (by omega)), h n (by omega)]
theorem opC_one (o : Opr) : ∀ u ∈ opC o, u.oneCell' = true := by
  intro u hu
  simp only [opC, List.mem_cons, List.not_mem_nil, or_false] at hu
  rcases hu with rfl | rfl | rfl | rfl | rfl | rfl <;> rfl
theorem opVals_one (O : Nat → Opr) : ∀ n, ∀ u ∈ opVals O n, u.oneCell' = true
  | 0, u, h => by simp [opVals] at h
  | n + 1, u, h => by
    rw [opVals, List.mem_append] at h
    rcases h with h | h
    · exact opVals_one O n u h
    · exact opC_one _ u h

/-- v is a row of n operations, the call's own from block B on. -/
def OwnO (w : World) (B : Nat) (v : Value) (n : Nat) (O : Nat → Opr) : Prop := w.ownsRow B 45 6 v n (opVals O n)
/-- .. of numbers. -/
def intVals (xs : List Nat) : List Value := xs.map fun (x : Nat) => Value.int .i64 (x : Int)
def OwnI (w : World) (B : Nat) (v : Value) (xs : List Nat) : Prop := w.ownsRow B 3 1 v xs.length (intVals xs)

theorem OwnO.shape {w : World} {B n : Nat} {v : Value} {O : Nat → Opr} (h : OwnO w B v n O) : ∃ A C, v = .slice A n C ∧ OpsAt w A n O := by
  obtain ⟨_, ⟨rfl, h0⟩ | ⟨g, cap, cur, rfl, hb, hg, h1, h2, h3, h4⟩⟩ := h
  · subst h0; exact ⟨none, 0, rfl, fun i hi => absurd hi (Nat.not_lt_zero _)⟩
  · refine ⟨_, _, rfl, fun i hi => ⟨g, rfl, ?_⟩⟩
    have e : ∀ f, f < 6 → cur[i * 6 + f]? = (opC (O i))[f]? := fun f hf => by
      have h5 := congrArg (fun l : List Value => l[i * 6 + f]?) h4
      simp only [List.getElem?_take, show i * 6 + f < n * 6 by omega, if_true, Array.getElem?_toList] at h5
      rw [h5]; exact opVals_get O n i f hi hf
    unfold OpCells
    simp only [cell_of hg]
    exact ⟨e 0 (by omega), e 1 (by omega), e 2 (by omega), e 3 (by omega), e 4 (by omega), e 5 (by omega)⟩
theorem OwnI.shape {w : World} {B : Nat} {v : Value} {xs : List Nat} (h : OwnI w B v xs) : ∃ A C, v = .slice A xs.length C ∧ IntsAt w A xs := by
  obtain ⟨_, ⟨rfl, h0⟩ | ⟨g, cap, cur, rfl, hb, hg, h1, h2, h3, h4⟩⟩ := h
  · exact ⟨none, 0, by rw [h0], fun i hi => by omega⟩
  · refine ⟨_, _, rfl, fun i hi => ⟨g, rfl, ?_⟩⟩
    have h5 := congrArg (fun l : List Value => l[i]?) h4
    simp only [List.getElem?_take, show i < xs.length * 1 by omega, if_true, Array.getElem?_toList] at h5
    rw [cell_of hg, h5]
    simp [intVals, hi]
theorem OwnO.kept {S : Nat → Prop} {w w' : World} {B n : Nat} {v : Value} {O : Nat → Opr} (h : OwnO w B v n O) (hk : Kept S w w') (hn : ∀ g, v.ownBlock = some g → ¬ S g) : OwnO w' B v n O := by
  obtain ⟨h0, h | ⟨g, cap, cur, rfl, hb, hg, r⟩⟩ := h
  · exact ⟨h0, .inl h⟩
  · exact ⟨h0, .inr ⟨g, cap, cur, rfl, hb, (hk.block g (lt_of hg) (hn g rfl)).trans hg, r⟩⟩
theorem OwnI.kept {S : Nat → Prop} {w w' : World} {B : Nat} {v : Value} {xs : List Nat} (h : OwnI w B v xs) (hk : Kept S w w') (hn : ∀ g, v.ownBlock = some g → ¬ S g) : OwnI w' B v xs := by
  obtain ⟨h0, h | ⟨g, cap, cur, rfl, hb, hg, r⟩⟩ := h
  · exact ⟨h0, .inl h⟩
  · exact ⟨h0, .inr ⟨g, cap, cur, rfl, hb, (hk.block g (lt_of hg) (hn g rfl)).trans hg, r⟩⟩
theorem OwnO.nil (w : World) (B : Nat) (O : Nat → Opr) : OwnO w B (.slice none 0 0) 0 O := ⟨rfl, .inl ⟨rfl, rfl⟩⟩
theorem OwnI.nil (w : World) (B : Nat) : OwnI w B (.slice none 0 0) [] := ⟨rfl, .inl ⟨rfl, rfl⟩⟩
theorem OwnO.block {w : World} {B n g : Nat} {v : Value} {O : Nat → Opr} (h : OwnO w B v n O) (e : v.ownBlock = some g) : B ≤ g ∧ ∃ cur, w.heap[g]? = some (.cells cur 45 (0, 0)) := by
  obtain ⟨_, ⟨rfl, _⟩ | ⟨g', cap, cur, rfl, hb, hg, _⟩⟩ := h
  · simp [Value.ownBlock] at e
  · simp [Value.ownBlock] at e; subst e; exact ⟨hb, cur, hg⟩
theorem OwnI.block {w : World} {B g : Nat} {v : Value} {xs : List Nat} (h : OwnI w B v xs) (e : v.ownBlock = some g) : B ≤ g ∧ ∃ cur, w.heap[g]? = some (.cells cur 3 (0, 0)) := by
  obtain ⟨_, ⟨rfl, _⟩ | ⟨g', cap, cur, rfl, hb, hg, _⟩⟩ := h
  · simp [Value.ownBlock] at e
  · simp [Value.ownBlock] at e; subst e; exact ⟨hb, cur, hg⟩
end Go.Proofs.Ybulkdkuc.Sc
