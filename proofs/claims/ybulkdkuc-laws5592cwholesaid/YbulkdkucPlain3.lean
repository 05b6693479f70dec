/-
  Steps of the program's own search, with no Go in sight.
-/
import Derived.Test.YbulkdkucPlain2
namespace Go.Proofs.Ybulkdkuc.Sc

/-! ### the readers of each version -/
/-- The transactions that read version j of key x, among the first i operations. -/
def Xs (S : Sch) (i : Nat) (x : ByteArray) (j r : Nat) : Prop := ∃ k, k < i ∧ Rd S x (S.O k) ∧ ver (S.V x) (S.O k).frm = j ∧ r = (S.O k).txn

structure RP (S : Sch) (i : Nat) (G : ByteArray → Option Nat) (T : ByteArray → Nat → L2) : Prop where
  no : ∀ x, S.V x ≠ [] → G x = none → ∀ k, k < i → ¬ Rd S x (S.O k)
  row : ∀ x, G x ≠ none → S.V x ≠ [] ∧ ∀ j, j ≤ (S.V x).length → LT (T x j) (Xs S i x j) (gd S.en)

theorem rp_start (S : Sch) : RP S 0 (fun _ => none) (fun _ _ => l2z) := ⟨fun _ _ _ k hk => absurd hk (Nat.not_lt_zero k), fun _ h => absurd rfl h⟩

theorem xs_skip {S : Sch} {i : Nat} {x : ByteArray} {j : Nat} (h : ¬ (Rd S x (S.O i) ∧ ver (S.V x) (S.O i).frm = j)) (r : Nat) : Xs S i x j r ↔ Xs S (i + 1) x j r := by
  constructor
  · rintro ⟨k, h1, h2⟩; exact ⟨k, by omega, h2⟩
  · rintro ⟨k, h1, h2, h3, h4⟩
    rcases Nat.lt_or_ge k i with h5 | h5
    · exact ⟨k, h5, h2, h3, h4⟩
    · rw [show k = i by omega] at h2 h3; exact absurd ⟨h2, h3⟩ h
theorem xs_take {S : Sch} {i : Nat} {x : ByteArray} (h : Rd S x (S.O i)) (r : Nat) : (Xs S i x (ver (S.V x) (S.O i).frm) r ∨ r = (S.O i).txn) ↔ Xs S (i + 1) x (ver (S.V x) (S.O i).frm) r := by
  constructor
  · rintro (⟨k, h1, h2⟩ | rfl)
    · exact ⟨k, by omega, h2⟩
    · exact ⟨i, by omega, h, rfl, rfl⟩
  · rintro ⟨k, h1, h2, h3, h4⟩
    rcases Nat.lt_or_ge k i with h5 | h5
    · exact .inl ⟨k, h5, h2, h3, h4⟩
    · rw [show k = i by omega] at h4; exact .inr h4

/-- An operation that is no read of a key with versions, by one who commits. -/
theorem RP.skip {S : Sch} {i : Nat} {G : ByteArray → Option Nat} {T : ByteArray → Nat → L2} (h : RP S i G T) (hn : ∀ x, S.V x ≠ [] → ¬ Rd S x (S.O i)) : RP S (i + 1) G T where
  no := fun x hx hg k hk => by
    rcases Nat.lt_or_ge k i with h5 | h5
    · exact h.no x hx hg k h5
    · rw [show k = i by omega]; exact hn x hx
  row := fun x hg => ⟨(h.row x hg).1, fun j hj => ((h.row x hg).2 j hj).congr (xs_skip fun c => hn x (h.row x hg).1 c.1)⟩

def updR (T : ByteArray → Nat → L2) (x : ByteArray) (j : Nat) (l : L2) : ByteArray → Nat → L2 := fun y i => if y = x ∧ i = j then l else T y i
def updG (G : ByteArray → Option Nat) (x : ByteArray) (g : Nat) : ByteArray → Option Nat := fun y => if y = x then some g else G y
def zroT (T : ByteArray → Nat → L2) (x : ByteArray) : ByteArray → Nat → L2 := fun y i => if y = x then l2z else T y i

/-- A new row for the key of the next operation. -/
theorem RP.made {S : Sch} {i : Nat} {G : ByteArray → Option Nat} {T : ByteArray → Nat → L2} (h : RP S i G T) {x : ByteArray} (hx : S.V x ≠ []) (hg : G x = none) (g : Nat) : RP S i (updG G x g) (zroT T x) where
  no := fun y hy hgy => by
    unfold updG at hgy
    split at hgy
    · cases hgy
    · exact h.no y hy hgy
  row := fun y hgy => by
    unfold updG at hgy
    unfold zroT
    by_cases e : y = x
    · subst e
      refine ⟨hx, fun j _ => ?_⟩
      rw [if_pos rfl]
      exact (LT.zero _).congr fun r => ⟨fun h => h.elim, fun ⟨k, hk, hr, _⟩ => h.no y hx hg k hk hr⟩
    · rw [if_neg e] at hgy
      refine ⟨(h.row y hgy).1, fun j hj => ?_⟩
      rw [if_neg e]
      exact (h.row y hgy).2 j hj

theorem RP.add {S : Sch} {i : Nat} {G : ByteArray → Option Nat} {T : ByteArray → Nat → L2} (h : RP S i G T) {x : ByteArray} (hr : Rd S x (S.O i)) (hg : G x ≠ none) (ht : (S.O i).txn ≠ 0) :
    RP S (i + 1) G (updR T x (ver (S.V x) (S.O i).frm) (addL (T x (ver (S.V x) (S.O i).frm)) (gd S.en (S.O i).txn) (S.O i).txn)) where
  no := fun y hy hgy k hk => by
    rcases Nat.lt_or_ge k i with h5 | h5
    · exact h.no y hy hgy k h5
    · rw [show k = i by omega]
      intro hr'
      apply hg
      rw [← hr.2.1, hr'.2.1]; exact hgy
  row := fun y hgy => by
    refine ⟨(h.row y hgy).1, fun j hj => ?_⟩
    unfold updR
    split
    · rename_i e
      obtain ⟨rfl, rfl⟩ := e
      exact (((h.row y hgy).2 _ hj).add ht).congr (xs_take hr)
    · rename_i e
      exact ((h.row y hgy).2 j hj).congr (xs_skip fun c => e ⟨by rw [← c.1.2.1, hr.2.1], by rw [← c.2]; congr 1; rw [← c.1.2.1, hr.2.1]⟩)

/-! ### the predecessors, key by key -/
def Q2 (S : Sch) (dn : ByteArray → Prop) (t c : Nat) : Prop := ∃ x, dn x ∧ ∃ j k, j < (S.V x).length ∧ k < S.n ∧ Pc S t x j k c
def Q3 (S : Sch) (dn : ByteArray → Prop) (x : ByteArray) (j t c : Nat) : Prop := Q2 S dn t c ∨ ∃ j' k, j' < j ∧ k < S.n ∧ Pc S t x j' k c
/-- The readers of the versions before number j. -/
def Xb (S : Sch) (x : ByteArray) (j r : Nat) : Prop := ∃ k, k < S.n ∧ Rd S x (S.O k) ∧ ver (S.V x) (S.O k).frm < j ∧ r = (S.O k).txn

theorem q2_start (S : Sch) (dn : ByteArray → Prop) (h : ∀ x, S.V x ≠ [] → ¬ dn x) (t : Nat) : MaxIs (Q2 S dn t) none := fun c hc => by
  obtain ⟨x, hd, j, k, h2, _⟩ := hc
  exact h x (fun e => by rw [e] at h2; simp at h2) hd
theorem q3_start {S : Sch} {dn : ByteArray → Prop} {x : ByteArray} {t : Nat} {r : Option Nat} (h : MaxIs (Q2 S dn t) r) : MaxIs (Q3 S dn x 0 t) r :=
  h.congr fun _ => ⟨.inl, fun h => h.elim id fun ⟨_, _, h, _⟩ => absurd h (Nat.not_lt_zero _)⟩
theorem q3_end {S : Sch} {dn : ByteArray → Prop} {x : ByteArray} {t : Nat} {r : Option Nat} (h : MaxIs (Q3 S dn x (S.V x).length t) r) : MaxIs (Q2 S (fun y => dn y ∨ y = x) t) r := h.congr fun c => by
  constructor
  · rintro (⟨y, h1, h2⟩ | ⟨j, k, h1, h2, h3⟩)
    · exact ⟨y, .inl h1, h2⟩
    · exact ⟨x, .inr rfl, j, k, h1, h2, h3⟩
  · rintro ⟨y, h1, j, k, h2, h3, h4⟩
    rcases h1 with h1 | rfl
    · exact .inl ⟨y, h1, j, k, h2, h3, h4⟩
    · exact .inr ⟨j, k, h2, h3, h4⟩
theorem q2_end {S : Sch} {dn : ByteArray → Prop} (hd : ∀ x, S.V x ≠ [] → dn x) {t : Nat} {r : Option Nat} (h : MaxIs (Q2 S dn t) r) : MaxIs (PC S t) r := h.congr fun c => by
  constructor
  · rintro ⟨y, _, j, k, h2⟩; exact ⟨y, j, k, h2⟩
  · rintro ⟨y, j, k, h2, h3⟩; exact ⟨y, hd y (fun e => by rw [e] at h2; simp at h2), j, k, h2, h3⟩
theorem q2_congr {S : Sch} {dn dn' : ByteArray → Prop} {t : Nat} {r : Option Nat} (h : MaxIs (Q2 S dn t) r) (e : ∀ x, S.V x ≠ [] → (dn x ↔ dn' x)) : MaxIs (Q2 S dn' t) r := h.congr fun c => by
  constructor
  · rintro ⟨y, h1, j, k, h2, h3⟩; exact ⟨y, (e y fun e => by rw [e] at h2; simp at h2).1 h1, j, k, h2, h3⟩
  · rintro ⟨y, h1, j, k, h2, h3⟩; exact ⟨y, (e y fun e => by rw [e] at h2; simp at h2).2 h1, j, k, h2, h3⟩
/-- A version whose writer is another, or whose readers come too early. -/
theorem q3_skip {S : Sch} {dn : ByteArray → Prop} {x : ByteArray} {j t : Nat} {r : Option Nat} (h : MaxIs (Q3 S dn x j t) r) (hn : ∀ k c, k < S.n → ¬ Pc S t x j k c) : MaxIs (Q3 S dn x (j + 1) t) r := h.congr fun c => by
  constructor
  · rintro (h | ⟨j', k, h1, h2⟩)
    · exact .inl h
    · exact .inr ⟨j', k, by omega, h2⟩
  · rintro (h | ⟨j', k, h1, h2, h3⟩)
    · exact .inl h
    · rcases Nat.lt_or_ge j' j with h4 | h4
      · exact .inr ⟨j', k, h4, h2, h3⟩
      · rw [show j' = j by omega] at h3; exact absurd h3 (hn k c h2)
theorem q3_take {S : Sch} {dn : ByteArray → Prop} {x : ByteArray} {j t d : Nat} {r : Option Nat} (h : MaxIs (Q3 S dn x j t) r) (hd : MaxIs (fun c => ∃ k, k < S.n ∧ Pc S t x j k c) (some d)) : MaxIs (Q3 S dn x (j + 1) t) (some (Nat.max (og r) d)) :=
  h.join hd fun c => by
    constructor
    · rintro (h | ⟨j', k, h1, h2, h3⟩)
      · exact .inl (.inl h)
      · rcases Nat.lt_or_ge j' j with h4 | h4
        · exact .inl (.inr ⟨j', k, h4, h2, h3⟩)
        · rw [show j' = j by omega] at h3; exact .inr ⟨k, h2, h3⟩
    · rintro ((h | ⟨j', k, h1, h2, h3⟩) | ⟨k, h2, h3⟩)
      · exact .inl h
      · exact .inr ⟨j', k, by omega, h2, h3⟩
      · exact .inr ⟨j, k, by omega, h2, h3⟩

/-- What the greatest but w says of w's own predecessors at version j + 1. -/
theorem pc_max {S : Sch} {x : ByteArray} {j w : Nat} {l : L2} (hl : LT l (Xb S x (j + 1)) (gd S.en)) (hw : (S.V x).getD j 0 = w) (ho : otherB l w = true) (hc : gd S.st w < otherV l w) :
    MaxIs (fun c => ∃ k, k < S.n ∧ Pc S w x j k c) (some (otherV l w)) := by
  obtain ⟨⟨r, ⟨k, hk, hr, hv, rfl⟩, hne, he⟩, hmax⟩ := hl.other_yes ho
  refine ⟨⟨k, hk, hw, hr, hne, by omega, he, hc⟩, fun c ⟨k', hk', h1, h2, h3, h4, h5, h6⟩ => ?_⟩
  rw [h5]
  exact hmax _ ⟨k', hk', h2, by omega, rfl⟩ h3
theorem pc_none {S : Sch} {x : ByteArray} {j w : Nat} {l : L2} (hl : LT l (Xb S x (j + 1)) (gd S.en)) (h : otherB l w = false ∨ ¬ gd S.st w < otherV l w) (k c : Nat) (hk : k < S.n) : ¬ Pc S w x j k c := by
  rintro ⟨h1, h2, h3, h4, h5, h6⟩
  have hX : Xb S x (j + 1) (S.O k).txn := ⟨k, hk, h2, by omega, rfl⟩
  cases ho : otherB l w with
  | false => exact h3 (hl.other_no ho _ hX)
  | true =>
    rcases h with h | h
    · rw [h] at ho; cases ho
    · have := (hl.other_yes ho).2 _ hX h3
      omega
theorem pc_other {S : Sch} {x : ByteArray} {j w t : Nat} (hw : (S.V x).getD j 0 = w) (ht : t ≠ w) (k c : Nat) : ¬ Pc S t x j k c := fun h => ht (h.1.symm.trans hw)

theorem xb_zero (S : Sch) (x : ByteArray) : LT l2z (Xb S x 0) (gd S.en) := (LT.zero _).congr fun _ => ⟨fun h => h.elim, fun ⟨_, _, _, h, _⟩ => absurd h (Nat.not_lt_zero _)⟩
theorem xb_merge {S : Sch} {x : ByteArray} {j : Nat} {l m : L2} (hl : LT l (Xb S x j) (gd S.en)) (hm : LT m (Xs S S.n x j) (gd S.en)) : LT (mergeL l m) (Xb S x (j + 1)) (gd S.en) := (hl.merge hm).congr fun r => by
  constructor
  · rintro (⟨k, h1, h2, h3, h4⟩ | ⟨k, h1, h2, h3, h4⟩)
    · exact ⟨k, h1, h2, by omega, h4⟩
    · exact ⟨k, h1, h2, by omega, h4⟩
  · rintro ⟨k, h1, h2, h3, h4⟩
    rcases Nat.lt_or_ge (ver (S.V x) (S.O k).frm) j with h5 | h5
    · exact .inl ⟨k, h1, h2, h5, h4⟩
    · exact .inr ⟨k, h1, h2, by omega, h4⟩
theorem xb_none {S : Sch} {x : ByteArray} {j : Nat} {l : L2} (hl : LT l (Xb S x j) (gd S.en)) (h : ∀ k, k < S.n → ¬ Rd S x (S.O k)) : LT l (Xb S x (j + 1)) (gd S.en) := hl.congr fun _ =>
  ⟨fun ⟨k, h1, h2, _⟩ => absurd h2 (h k h1), fun ⟨k, h1, h2, _⟩ => absurd h2 (h k h1)⟩

/-! ### the answers, entry by entry -/
def DF (S : Sch) (P : Nat → Option Nat) (dn : Nat → Prop) (f : Bool) : Prop :=
  (f = true ↔ ∃ t a c, dn t ∧ nextTo S S.n t = some a ∧ P t = some c) ∧ ∀ t a c, dn t → nextTo S S.n t = some a → P t = some c → ¬ (a < gd S.en t ∧ a ≤ c)

theorem df_start {S : Sch} {P : Nat → Option Nat} {dn : Nat → Prop} (h : ∀ t a, nextTo S S.n t = some a → ¬ dn t) : DF S P dn false :=
  ⟨⟨fun h => Bool.noConfusion h, fun ⟨t, a, _, h1, h2, _⟩ => absurd h1 (h t a h2)⟩, fun t a _ h1 h2 _ => absurd h1 (h t a h2)⟩
theorem df_no {S : Sch} {P : Nat → Option Nat} {dn dn' : Nat → Prop} {f : Bool} {t : Nat} (h : DF S P dn f) (hp : P t = none) (e : ∀ y, dn' y → dn y ∨ y = t) (e' : ∀ y, dn y → dn' y) : DF S P dn' f := by
  have key : ∀ y c, dn' y → P y = some c → dn y := fun y c h1 h2 => (e y h1).elim id fun e => by rw [e, hp] at h2; cases h2
  constructor
  · rw [h.1]
    exact ⟨fun ⟨y, a, c, h1, h2⟩ => ⟨y, a, c, e' y h1, h2⟩, fun ⟨y, a, c, h1, h2, h3⟩ => ⟨y, a, c, key y c h1 h3, h2, h3⟩⟩
  · exact fun y a c h1 h2 h3 => h.2 y a c (key y c h1 h3) h2 h3
theorem df_yes {S : Sch} {P : Nat → Option Nat} {dn dn' : Nat → Prop} {f : Bool} {t a c : Nat} (h : DF S P dn f) (ha : nextTo S S.n t = some a) (hp : P t = some c) (hn : ¬ (a < gd S.en t ∧ a ≤ c)) (e : ∀ y, dn' y → dn y ∨ y = t) (ht : dn' t) : DF S P dn' true := by
  constructor
  · exact ⟨fun _ => ⟨t, a, c, ht, ha, hp⟩, fun _ => rfl⟩
  · intro y a' c' h1 h2 h3
    rcases e y h1 with h4 | rfl
    · exact h.2 y a' c' h4 h2 h3
    · rw [ha] at h2; cases h2; rw [hp] at h3; cases h3; exact hn
theorem df_end {S : Sch} {P : Nat → Option Nat} {dn : Nat → Prop} {f : Bool} (h : DF S P dn f) (hP : ∀ t, MaxIs (PC S t) (P t)) (hd : ∀ t, dn t) : Ans S f false := by
  have key : ∀ t c, MaxIs (PC S t) (some c) → P t = some c := fun t c hc => (hP t).uniq hc
  constructor
  · rw [h.1]
    exact ⟨fun ⟨t, a, c, _, h2, h3⟩ => ⟨t, a, c, h2, by rw [← h3]; exact hP t⟩, fun ⟨t, a, c, h2, h3⟩ => ⟨t, a, c, hd t, h2, key t c h3⟩⟩
  · exact ⟨fun h => Bool.noConfusion h, fun ⟨t, a, c, h2, h3, h4⟩ => absurd h4 (h.2 t a c (hd t) h2 (key t c h3))⟩
theorem df_hit {S : Sch} {P : Nat → Option Nat} {t a c : Nat} (hP : ∀ t, MaxIs (PC S t) (P t)) (ha : nextTo S S.n t = some a) (hp : P t = some c) (h : a < gd S.en t ∧ a ≤ c) : Ans S true true := by
  have hm : MaxIs (PC S t) (some c) := by rw [← hp]; exact hP t
  exact ⟨⟨fun _ => ⟨t, a, c, ha, hm⟩, fun _ => rfl⟩, ⟨fun _ => ⟨t, a, c, ha, hm, h⟩, fun _ => rfl⟩⟩
end Go.Proofs.Ybulkdkuc.Sc
