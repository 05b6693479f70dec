/-
  The schedule, with no Go in sight: what both searches compute.
-/
namespace Go.Proofs.Ybulkdkuc.Sc

structure Opr where
  kind : Nat
  txn : Nat
  key : ByteArray
  frm : Nat

/-- A schedule: n operations, the versions of each key, the starts and the ends. -/
structure Sch where
  n : Nat
  O : Nat → Opr
  V : ByteArray → List Nat
  st : Nat → Option Nat
  en : Nat → Option Nat

/-- The three keys. -/
def kn (i : Nat) : ByteArray := if i = 0 then ⟨#[120]⟩ else if i = 1 then ⟨#[121]⟩ else ⟨#[122]⟩

/-- What a map gives, nought where there is nothing. -/
def gd (m : Nat → Option Nat) (t : Nat) : Nat := (m t).getD 0

structure Good (S : Sch) : Prop where
  n_le : S.n ≤ 4101
  txn : ∀ k, k < S.n → 1 ≤ (S.O k).txn ∧ (S.O k).txn ≤ 5
  frm : ∀ k, k < S.n → (S.O k).frm ≤ 5
  key : ∀ k, k < S.n → (S.O k).key.size ≤ 1
  en : ∀ t e, S.en t = some e → e < S.n
  st : ∀ t e, S.st t = some e → e ≤ S.n
  V5 : ∀ x, ∀ y ∈ S.V x, 1 ≤ y ∧ y ≤ 5
  nodup : ∀ x, (S.V x).Nodup
  len : ∀ x, (S.V x).length ≤ 100000
  keys : ∀ x, S.V x ≠ [] → ∃ i, i < 3 ∧ x = kn i

/-! ### the number of a version -/
def ver (ws : List Nat) (f : Nat) : Nat := if ws.idxOf f < ws.length then ws.idxOf f + 1 else 0

theorem idxOf_of : ∀ (ws : List Nat) (f i : Nat), i < ws.length → ws.getD i 0 = f → (∀ j, j < i → ws.getD j 0 ≠ f) → ws.idxOf f = i
  | [], _, i, h, _, _ => by simp at h
  | a :: r, f, 0, _, h, _ => by
    simp at h
    simp [h]
  | a :: r, f, i + 1, hi, h, hj => by
    have h0 : a ≠ f := by simpa using hj 0 (by omega)
    rw [List.idxOf_cons]
    have : (a == f) = false := by simpa using h0
    rw [this]
    simp only [cond_false]
    rw [idxOf_of r f i (by simpa using hi) (by simpa using h) (fun j hj' => by simpa using hj (j + 1) (by omega))]

theorem ver_hit {ws : List Nat} {f i : Nat} (hi : i < ws.length) (h : ws.getD i 0 = f) (hj : ∀ j, j < i → ws.getD j 0 ≠ f) : ver ws f = i + 1 := by
  unfold ver
  rw [idxOf_of ws f i hi h hj, if_pos hi]
theorem mem_getD {ws : List Nat} {f : Nat} (h : f ∈ ws) : ∃ i, i < ws.length ∧ ws.getD i 0 = f := by
  obtain ⟨i, hi, e⟩ := List.mem_iff_getElem.1 h
  exact ⟨i, hi, by rw [List.getD_eq_getElem?_getD, List.getElem?_eq_getElem hi]; exact e⟩
theorem getD_mem {ws : List Nat} {i : Nat} (hi : i < ws.length) : ws.getD i 0 ∈ ws := by
  rw [List.getD_eq_getElem?_getD, List.getElem?_eq_getElem hi]; exact List.getElem_mem hi
theorem ver_miss {ws : List Nat} {f : Nat} (h : ∀ j, j < ws.length → ws.getD j 0 ≠ f) : ver ws f = 0 := by
  unfold ver
  rw [if_neg]
  intro hlt
  obtain ⟨i, hi, e⟩ := mem_getD (List.idxOf_lt_length_iff.1 hlt)
  exact h i hi e
theorem ver_le (ws : List Nat) (f : Nat) : ver ws f ≤ ws.length := by
  unfold ver; split <;> omega
theorem nodup_getD : ∀ {ws : List Nat}, ws.Nodup → ∀ {i j : Nat}, i < ws.length → j < ws.length → ws.getD i 0 = ws.getD j 0 → i = j
  | [], _, i, _, hi, _, _ => by simp at hi
  | a :: r, h, 0, 0, _, _, _ => rfl
  | a :: r, h, 0, j + 1, _, hj, e => by
    exfalso
    have h1 := (List.nodup_cons.1 h).1
    simp at e
    have hj' : j < r.length := by simpa using hj
    apply h1
    rw [e]
    simpa using getD_mem hj'
  | a :: r, h, i + 1, 0, hi, _, e => by
    exfalso
    have h1 := (List.nodup_cons.1 h).1
    simp at e
    have hi' : i < r.length := by simpa using hi
    apply h1
    rw [← e]
    simpa using getD_mem hi'
  | a :: r, h, i + 1, j + 1, hi, hj, e => by
    have := nodup_getD (List.nodup_cons.1 h).2 (i := i) (j := j) (by simpa using hi) (by simpa using hj) (by simpa using e)
    omega
/-- The versions' numbers: a map from the writers. -/
def verO (ws : List Nat) (i : Nat) (f : Nat) : Option Nat := if ws.idxOf f < i then some (ws.idxOf f + 1) else none
theorem verO_zero (ws : List Nat) (f : Nat) : verO ws 0 f = none := by simp [verO]
theorem verO_full (ws : List Nat) (f : Nat) : gd (verO ws ws.length) f = ver ws f := by
  unfold gd verO ver; split <;> rfl
theorem verO_step {ws : List Nat} (h : ws.Nodup) {i : Nat} (hi : i < ws.length) (f : Nat) : verO ws (i + 1) f = if f = ws.getD i 0 then some (i + 1) else verO ws i f := by
  have e : ws.idxOf (ws.getD i 0) = i := idxOf_of ws _ i hi rfl (fun j hj e => by have := nodup_getD h (by omega) hi e; omega)
  unfold verO
  by_cases hf : f = ws.getD i 0
  · subst hf; rw [e, if_pos (by omega), if_pos rfl]
  · rw [if_neg hf]
    have hne : ws.idxOf f ≠ i := fun he => by
      apply hf
      have hlt : ws.idxOf f < ws.length := by omega
      obtain ⟨j, hj, e'⟩ := mem_getD (List.idxOf_lt_length_iff.1 hlt)
      have := List.getElem_idxOf hlt
      rw [List.getD_eq_getElem?_getD, List.getElem?_eq_getElem hi]
      simp only [he] at this
      exact this.symm
    by_cases h1 : ws.idxOf f < i
    · rw [if_pos h1, if_pos (by omega)]
    · rw [if_neg h1, if_neg (by omega)]

/-! ### committed; the earliest commit of a concurrent successor -/
def com (S : Sch) (t : Nat) : Bool := match S.en t with | some e => (S.O e).kind == 3 | none => false

/-- The successor that an operation's read gives: its commit. -/
def nxt (S : Sch) (o : Opr) : Option Nat :=
  if o.kind = 1 ∧ (S.V o.key).length ≠ 0 ∧ com S o.txn = true ∧ ver (S.V o.key) o.frm < (S.V o.key).length ∧ (S.V o.key).getD (ver (S.V o.key) o.frm) 0 ≠ o.txn ∧
    gd S.st ((S.V o.key).getD (ver (S.V o.key) o.frm) 0) < gd S.en o.txn
  then some (gd S.en ((S.V o.key).getD (ver (S.V o.key) o.frm) 0)) else none

def mn : Option Nat → Option Nat → Option Nat
  | r, none => r
  | none, some b => some b
  | some a, some b => some (if b < a then b else a)

/-- The least of the successors' commits, over the first i operations of transaction t. -/
def nextTo (S : Sch) : Nat → Nat → Option Nat
  | 0, _ => none
  | i + 1, t => if (S.O i).txn = t then mn (nextTo S i t) (nxt S (S.O i)) else nextTo S i t

theorem nextTo_txn {S : Sch} {t a : Nat} : ∀ {i : Nat}, nextTo S i t = some a → ∃ k, k < i ∧ (S.O k).txn = t
  | 0, h => by simp [nextTo] at h
  | i + 1, h => by
    unfold nextTo at h
    split at h
    · rename_i e; exact ⟨i, by omega, e⟩
    · obtain ⟨k, hk, e⟩ := nextTo_txn h; exact ⟨k, by omega, e⟩
theorem nextTo_com {S : Sch} {t : Nat} (h : com S t = false) : ∀ i, nextTo S i t = none
  | 0 => rfl
  | i + 1 => by
    unfold nextTo
    split
    · rename_i e
      rw [nextTo_com h i]
      unfold nxt
      rw [if_neg (by rw [e, h]; simp)]
      rfl
    · exact nextTo_com h i

/-! ### the greatest of a set -/
def MaxIs (C : Nat → Prop) : Option Nat → Prop
  | none => ∀ c, ¬ C c
  | some m => C m ∧ ∀ c, C c → c ≤ m

theorem MaxIs.congr {C C' : Nat → Prop} {r : Option Nat} (h : MaxIs C r) (e : ∀ c, C c ↔ C' c) : MaxIs C' r := by
  cases r with
  | none => exact fun c hc => h c ((e c).2 hc)
  | some m => exact ⟨(e m).1 h.1, fun c hc => h.2 c ((e c).2 hc)⟩
theorem MaxIs.uniq {C : Nat → Prop} {r r' : Option Nat} (h : MaxIs C r) (h' : MaxIs C r') : r = r' := by
  cases r with
  | none => cases r' with
    | none => rfl
    | some m => exact absurd h'.1 (h m)
  | some m => cases r' with
    | none => exact absurd h.1 (h' m)
    | some m' => rw [Nat.le_antisymm (h'.2 m h.1) (h.2 m' h'.1)]
theorem MaxIs.empty : MaxIs (fun _ => False) none := fun _ h => h
/-- Behind one more. -/
theorem MaxIs.more {C C' : Nat → Prop} {r : Option Nat} {d : Nat} (h : MaxIs C r) (e : ∀ c, C' c ↔ C c ∨ c = d) : MaxIs C' (some (Nat.max (r.getD 0) d)) := by
  cases r with
  | none =>
    refine ⟨(e _).2 (.inr (Nat.max_eq_right (Nat.zero_le _))), fun c hc => ?_⟩
    rcases (e c).1 hc with hc | rfl
    · exact absurd hc (h c)
    · exact Nat.le_max_right _ _
  | some m =>
    refine ⟨(e _).2 ?_, fun c hc => ?_⟩
    · rcases Nat.le_total m d with h1 | h1
      · exact .inr (Nat.max_eq_right h1)
      · left; rw [show Nat.max ((some m).getD 0) d = m from Nat.max_eq_left h1]; exact h.1
    · rcases (e c).1 hc with hc | rfl
      · exact Nat.le_trans (h.2 c hc) (Nat.le_max_left _ _)
      · exact Nat.le_max_right _ _
/-- Behind a set whose greatest is d. -/
theorem MaxIs.join {C C' E : Nat → Prop} {r : Option Nat} {d : Nat} (h : MaxIs C r) (hE : MaxIs E (some d)) (e : ∀ c, C' c ↔ C c ∨ E c) : MaxIs C' (some (Nat.max (r.getD 0) d)) := by
  have h1 := h.more (d := d) (C' := fun c => C c ∨ c = d) (fun c => Iff.rfl)
  refine ⟨?_, fun c hc => ?_⟩
  · rcases h1.1 with h2 | h2
    · exact (e _).2 (.inl h2)
    · rw [h2]; exact (e _).2 (.inr hE.1)
  · rcases (e c).1 hc with hc | hc
    · exact h1.2 c (.inl hc)
    · exact Nat.le_trans (hE.2 c hc) (Nat.le_max_right _ _)

/-! ### the latest commit of a concurrent predecessor -/
/-- Operation o reads a version of key x that is no later than number j, and commits. -/
def Rd (S : Sch) (x : ByteArray) (o : Opr) : Prop := o.kind = 1 ∧ o.key = x ∧ com S o.txn = true
/-- c is the commit of such a one, other than t, whose version j of key x is, after t's start. -/
def Pc (S : Sch) (t : Nat) (x : ByteArray) (j k c : Nat) : Prop :=
  (S.V x).getD j 0 = t ∧ Rd S x (S.O k) ∧ (S.O k).txn ≠ t ∧ ver (S.V x) (S.O k).frm ≤ j ∧ c = gd S.en (S.O k).txn ∧ gd S.st t < c
def PC (S : Sch) (t c : Nat) : Prop := ∃ x j k, j < (S.V x).length ∧ k < S.n ∧ Pc S t x j k c

/-- What both searches answer. -/
def Ans (S : Sch) (f e : Bool) : Prop :=
  (f = true ↔ ∃ t a c, nextTo S S.n t = some a ∧ MaxIs (PC S t) (some c)) ∧
  (e = true ↔ ∃ t a c, nextTo S S.n t = some a ∧ MaxIs (PC S t) (some c) ∧ a < gd S.en t ∧ a ≤ c)
theorem Ans.uniq {S : Sch} {f e f' e' : Bool} (h : Ans S f e) (h' : Ans S f' e') : f = f' ∧ e = e' := by
  constructor
  · have := h.1.trans h'.1.symm
    cases f <;> cases f' <;> simp_all
  · have := h.2.trans h'.2.symm
    cases e <;> cases e' <;> simp_all

/-! ### the two latest -/
structure L2 where
  v0 : Nat
  t0 : Nat
  v1 : Nat
  t1 : Nat
def l2z : L2 := ⟨0, 0, 0, 0⟩
def addL (l : L2) (v t : Nat) : L2 :=
  if t = l.t0 ∨ t = l.t1 then l else if l.t0 = 0 ∨ l.v0 < v then ⟨v, t, l.v0, l.t0⟩ else if l.t1 = 0 ∨ l.v1 < v then ⟨l.v0, l.t0, v, t⟩ else l
def mergeL (l m : L2) : L2 :=
  let l1 := if m.t0 = 0 then l else addL l m.v0 m.t0
  if m.t1 = 0 then l1 else addL l1 m.v1 m.t1

structure LT (l : L2) (X : Nat → Prop) (val : Nat → Nat) : Prop where
  pos : ∀ x, X x → x ≠ 0
  e0 : l.t0 = 0 → l.t1 = 0 ∧ ∀ x, ¬ X x
  f0 : l.t0 ≠ 0 → X l.t0 ∧ l.v0 = val l.t0 ∧ ∀ x, X x → val x ≤ l.v0
  e1 : l.t1 = 0 → ∀ x, X x → x = l.t0
  f1 : l.t1 ≠ 0 → X l.t1 ∧ l.t1 ≠ l.t0 ∧ l.v1 = val l.t1 ∧ ∀ x, X x → x ≠ l.t0 → val x ≤ l.v1

theorem LT.zero (val : Nat → Nat) : LT l2z (fun _ => False) val where
  pos := fun _ h => h.elim
  e0 := fun _ => ⟨rfl, fun _ h => h⟩
  f0 := fun h => absurd rfl h
  e1 := fun _ _ h => h.elim
  f1 := fun h => absurd rfl h

theorem LT.congr {l : L2} {X X' : Nat → Prop} {val : Nat → Nat} (h : LT l X val) (e : ∀ x, X x ↔ X' x) : LT l X' val where
  pos := fun x hx => h.pos x ((e x).2 hx)
  e0 := fun h0 => ⟨(h.e0 h0).1, fun x hx => (h.e0 h0).2 x ((e x).2 hx)⟩
  f0 := fun h0 => ⟨(e _).1 (h.f0 h0).1, (h.f0 h0).2.1, fun x hx => (h.f0 h0).2.2 x ((e x).2 hx)⟩
  e1 := fun h0 x hx => h.e1 h0 x ((e x).2 hx)
  f1 := fun h0 => ⟨(e _).1 (h.f1 h0).1, (h.f1 h0).2.1, (h.f1 h0).2.2.1, fun x hx => (h.f1 h0).2.2.2 x ((e x).2 hx)⟩

theorem LT.add {l : L2} {X : Nat → Prop} {val : Nat → Nat} (h : LT l X val) {t : Nat} (ht : t ≠ 0) : LT (addL l (val t) t) (fun x => X x ∨ x = t) val := by
  have hpos : ∀ x, (X x ∨ x = t) → x ≠ 0 := fun x hx => by rcases hx with hx | rfl; exact h.pos x hx; exact ht
  unfold addL
  split
  · rename_i h1
    have hX : X t := by
      rcases h1 with h1 | h1
      · rw [h1]; exact (h.f0 (h1 ▸ ht)).1
      · rw [h1]; exact (h.f1 (h1 ▸ ht)).1
    exact h.congr fun x => ⟨.inl, fun hx => by rcases hx with hx | rfl; exact hx; exact hX⟩
  · rename_i h1
    have n0 : t ≠ l.t0 := fun e => h1 (.inl e)
    have n1 : t ≠ l.t1 := fun e => h1 (.inr e)
    split
    · rename_i h2
      refine ⟨hpos, fun e => absurd e ht, fun _ => ⟨.inr rfl, rfl, fun x hx => ?_⟩, fun e x hx => ?_, fun e => ?_⟩
      · rcases hx with hx | rfl
        · rcases h2 with h2 | h2
          · exact absurd hx ((h.e0 h2).2 x)
          · by_cases h0 : l.t0 = 0
            · exact absurd hx ((h.e0 h0).2 x)
            · exact Nat.le_trans ((h.f0 h0).2.2 x hx) (Nat.le_of_lt h2)
        · exact Nat.le_refl _
      · rcases hx with hx | rfl
        · exact absurd hx ((h.e0 e).2 x)
        · rfl
      · have h0 : l.t0 ≠ 0 := e
        refine ⟨.inl (h.f0 h0).1, fun e' => n0 e'.symm, (h.f0 h0).2.1, fun x hx hne => ?_⟩
        rcases hx with hx | rfl
        · exact (h.f0 h0).2.2 x hx
        · exact absurd rfl hne
    · rename_i h2
      have h0 : l.t0 ≠ 0 := fun e => h2 (.inl e)
      have hv0 : val t ≤ l.v0 := Nat.le_of_not_lt fun e => h2 (.inr e)
      split
      · rename_i h3
        refine ⟨hpos, fun e => absurd e h0, fun _ => ⟨.inl (h.f0 h0).1, (h.f0 h0).2.1, fun x hx => ?_⟩, fun e => absurd e ht, fun _ => ⟨.inr rfl, n0, rfl, fun x hx hne => ?_⟩⟩
        · rcases hx with hx | rfl
          · exact (h.f0 h0).2.2 x hx
          · exact hv0
        · rcases hx with hx | rfl
          · by_cases h4 : l.t1 = 0
            · exact absurd (h.e1 h4 x hx) hne
            · rcases h3 with h3 | h3
              · exact absurd h3 h4
              · exact Nat.le_trans ((h.f1 h4).2.2.2 x hx hne) (Nat.le_of_lt h3)
          · exact Nat.le_refl _
      · rename_i h3
        have h4 : l.t1 ≠ 0 := fun e => h3 (.inl e)
        have hv1 : val t ≤ l.v1 := Nat.le_of_not_lt fun e => h3 (.inr e)
        refine ⟨hpos, fun e => absurd e h0, fun _ => ⟨.inl (h.f0 h0).1, (h.f0 h0).2.1, fun x hx => ?_⟩, fun e => absurd e h4, fun _ => ⟨.inl (h.f1 h4).1, (h.f1 h4).2.1, (h.f1 h4).2.2.1, fun x hx hne => ?_⟩⟩
        · rcases hx with hx | rfl
          · exact (h.f0 h0).2.2 x hx
          · exact hv0
        · rcases hx with hx | rfl
          · exact (h.f1 h4).2.2.2 x hx hne
          · exact hv1

/-- Who is no greater than two of the set, apart from each other, may join it. -/
theorem LT.join {l : L2} {X Y : Nat → Prop} {val : Nat → Nat} (h : LT l X val) (hp : ∀ y, Y y → y ≠ 0) (hY : ∀ y, Y y → X y ∨ ∃ a b, X a ∧ X b ∧ a ≠ b ∧ val y ≤ val a ∧ val y ≤ val b) : LT l (fun x => X x ∨ Y x) val := by
  refine ⟨fun x hx => ?_, fun e => ⟨(h.e0 e).1, fun x hx => ?_⟩, fun e => ⟨.inl (h.f0 e).1, (h.f0 e).2.1, fun x hx => ?_⟩, fun e x hx => ?_, fun e => ⟨.inl (h.f1 e).1, (h.f1 e).2.1, (h.f1 e).2.2.1, fun x hx hne => ?_⟩⟩
  · rcases hx with hx | hx; exact h.pos x hx; exact hp x hx
  · have h1 := (h.e0 e).2
    rcases hx with hx | hx
    · exact h1 x hx
    · rcases hY x hx with hx | ⟨a, b, ha, _⟩
      · exact h1 x hx
      · exact h1 a ha
  · rcases hx with hx | hx
    · exact (h.f0 e).2.2 x hx
    · rcases hY x hx with hx | ⟨a, b, ha, _, _, hv, _⟩
      · exact (h.f0 e).2.2 x hx
      · exact Nat.le_trans hv ((h.f0 e).2.2 a ha)
  · rcases hx with hx | hx
    · exact h.e1 e x hx
    · rcases hY x hx with hx | ⟨a, b, ha, hb, hab, _⟩
      · exact h.e1 e x hx
      · exact absurd ((h.e1 e a ha).trans (h.e1 e b hb).symm) hab
  · rcases hx with hx | hx
    · exact (h.f1 e).2.2.2 x hx hne
    · rcases hY x hx with hx | ⟨a, b, ha, hb, hab, hva, hvb⟩
      · exact (h.f1 e).2.2.2 x hx hne
      · by_cases h1 : a = l.t0
        · exact Nat.le_trans hvb ((h.f1 e).2.2.2 b hb fun e' => hab (h1.trans e'.symm))
        · exact Nat.le_trans hva ((h.f1 e).2.2.2 a ha h1)

theorem LT.merge {l m : L2} {X Y : Nat → Prop} {val : Nat → Nat} (h : LT l X val) (hm : LT m Y val) : LT (mergeL l m) (fun x => X x ∨ Y x) val := by
  unfold mergeL
  by_cases h0 : m.t0 = 0
  · have h1 := (hm.e0 h0).1
    simp only [h0, h1, if_true]
    exact h.congr fun x => ⟨.inl, fun hx => hx.elim id fun hy => absurd hy ((hm.e0 h0).2 x)⟩
  · obtain ⟨a1, a2, a3⟩ := hm.f0 h0
    simp only [if_neg h0]
    rw [a2]
    have k1 := h.add h0
    by_cases h1 : m.t1 = 0
    · simp only [h1, if_true]
      exact k1.congr fun x => ⟨fun hx => by rcases hx with hx | rfl; exact .inl hx; exact .inr a1, fun hx => hx.imp id fun hy => hm.e1 h1 x hy⟩
    · obtain ⟨b1, b2, b3, b4⟩ := hm.f1 h1
      simp only [if_neg h1]
      rw [b3]
      have k2 := k1.add h1
      refine (k2.join (Y := Y) hm.pos fun y hy => ?_).congr fun x => ⟨fun hx => ?_, fun hx => ?_⟩
      · by_cases e1 : y = m.t0
        · exact .inl (.inl (.inr e1))
        · exact .inr ⟨m.t0, m.t1, .inl (.inr rfl), .inr rfl, fun e => b2 e.symm, by rw [← a2]; exact a3 y hy, by rw [← b3]; exact b4 y hy e1⟩
      · rcases hx with ((hx | rfl) | rfl) | hx
        · exact .inl hx
        · exact .inr a1
        · exact .inr b1
        · exact .inr hx
      · rcases hx with hx | hx
        · exact .inl (.inl (.inl hx))
        · exact .inr hx

def otherV (l : L2) (t : Nat) : Nat := if l.t0 = t then l.v1 else l.v0
def otherB (l : L2) (t : Nat) : Bool := if l.t0 = t then l.t1 != 0 else l.t0 != 0

theorem LT.other_no {l : L2} {X : Nat → Prop} {val : Nat → Nat} (h : LT l X val) {t : Nat} (ho : otherB l t = false) : ∀ x, X x → x = t := by
  intro x hx
  unfold otherB at ho
  split at ho
  · rename_i e
    have e1 : l.t1 = 0 := by simpa using ho
    rw [h.e1 e1 x hx, e]
  · have e0 : l.t0 = 0 := by simpa using ho
    exact absurd hx ((h.e0 e0).2 x)
theorem LT.other_yes {l : L2} {X : Nat → Prop} {val : Nat → Nat} (h : LT l X val) {t : Nat} (ho : otherB l t = true) : (∃ x, X x ∧ x ≠ t ∧ otherV l t = val x) ∧ ∀ x, X x → x ≠ t → val x ≤ otherV l t := by
  unfold otherB at ho
  unfold otherV
  split at ho
  · rename_i e
    have e1 : l.t1 ≠ 0 := by simpa using ho
    obtain ⟨b1, b2, b3, b4⟩ := h.f1 e1
    rw [if_pos e]
    exact ⟨⟨l.t1, b1, fun e' => b2 (e'.trans e.symm), b3⟩, fun x hx hne => b4 x hx fun e' => hne (e'.trans e)⟩
  · rename_i e
    have e0 : l.t0 ≠ 0 := by simpa using ho
    obtain ⟨a1, a2, a3⟩ := h.f0 e0
    rw [if_neg e]
    exact ⟨⟨l.t0, a1, e, a2⟩, fun x hx _ => a3 x hx⟩
end Go.Proofs.Ybulkdkuc.Sc
