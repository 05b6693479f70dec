/-
  Steps of the brute-force search, with no Go in sight.
-/
import Derived.Test.YbulkdkucPlain
namespace Go.Proofs.Ybulkdkuc.Sc

def og (r : Option Nat) : Nat := r.getD 0

/-! ### the successor -/
theorem nxt_k {S : Sch} {o : Opr} (h : o.kind ≠ 1) : nxt S o = none := by unfold nxt; rw [if_neg]; intro c; exact h c.1
theorem nxt_V {S : Sch} {o : Opr} (h : (S.V o.key).length = 0) : nxt S o = none := by unfold nxt; rw [if_neg]; intro c; exact c.2.1 h
theorem nxt_c {S : Sch} {o : Opr} (h : com S o.txn = false) : nxt S o = none := by unfold nxt; rw [if_neg]; intro c; rw [h] at c; cases c.2.2.1
theorem nxt_v {S : Sch} {o : Opr} (h : ¬ ver (S.V o.key) o.frm < (S.V o.key).length) : nxt S o = none := by unfold nxt; rw [if_neg]; intro c; exact h c.2.2.2.1
theorem nxt_w {S : Sch} {o : Opr} (h : (S.V o.key).getD (ver (S.V o.key) o.frm) 0 = o.txn) : nxt S o = none := by unfold nxt; rw [if_neg]; intro c; exact c.2.2.2.2.1 h
theorem nxt_s {S : Sch} {o : Opr} (h : ¬ gd S.st ((S.V o.key).getD (ver (S.V o.key) o.frm) 0) < gd S.en o.txn) : nxt S o = none := by unfold nxt; rw [if_neg]; intro c; exact h c.2.2.2.2.2
theorem nxt_yes {S : Sch} {o : Opr} (h1 : o.kind = 1) (h2 : (S.V o.key).length ≠ 0) (h3 : com S o.txn = true) (h4 : ver (S.V o.key) o.frm < (S.V o.key).length) (h5 : (S.V o.key).getD (ver (S.V o.key) o.frm) 0 ≠ o.txn)
    (h6 : gd S.st ((S.V o.key).getD (ver (S.V o.key) o.frm) 0) < gd S.en o.txn) : nxt S o = some (gd S.en ((S.V o.key).getD (ver (S.V o.key) o.frm) 0)) := by
  unfold nxt; rw [if_pos ⟨h1, h2, h3, h4, h5, h6⟩]
theorem nextTo_other {S : Sch} {i t : Nat} (h : (S.O i).txn ≠ t) : nextTo S (i + 1) t = nextTo S i t := by
  rw [nextTo, if_neg h]
theorem nextTo_skip {S : Sch} {i : Nat} (h : nxt S (S.O i) = none) (t : Nat) : nextTo S (i + 1) t = nextTo S i t := by
  rw [nextTo]
  split
  · rw [h]; cases nextTo S i t <;> rfl
  · rfl
theorem nextTo_take {S : Sch} {i t e : Nat} (h1 : (S.O i).txn = t) (h : nxt S (S.O i) = some e) : nextTo S (i + 1) t = mn (nextTo S i t) (some e) := by
  rw [nextTo, if_pos h1, h]
theorem mn_new {r : Option Nat} {e : Nat} (h : r.isSome = false ∨ e < og r) : mn r (some e) = some e := by
  cases r with
  | none => rfl
  | some a =>
    rcases h with h | h
    · cases h
    · show some (if e < a then e else a) = some e
      rw [if_pos (show e < a from h)]
theorem mn_old {r : Option Nat} {e : Nat} (h0 : r.isSome = true) (h : ¬ e < og r) : mn r (some e) = r := by
  cases r with
  | none => cases h0
  | some a =>
    show some (if e < a then e else a) = some a
    rw [if_neg (show ¬ e < a from h)]

/-! ### the predecessors -/
def P3 (S : Sch) (t ki c : Nat) : Prop := ∃ ki', ki' < ki ∧ ∃ j k, j < (S.V (kn ki')).length ∧ k < S.n ∧ Pc S t (kn ki') j k c
def P4 (S : Sch) (t ki j c : Nat) : Prop := P3 S t ki c ∨ ∃ j' k, j' < j ∧ k < S.n ∧ Pc S t (kn ki) j' k c
def P5 (S : Sch) (t ki j k c : Nat) : Prop := P4 S t ki j c ∨ ∃ k', k' < k ∧ Pc S t (kn ki) j k' c

theorem p3_start (S : Sch) (t : Nat) : MaxIs (P3 S t 0) none := fun _ ⟨_, h, _⟩ => absurd h (Nat.not_lt_zero _)
theorem p4_start {S : Sch} {t ki : Nat} {r : Option Nat} (h : MaxIs (P3 S t ki) r) : MaxIs (P4 S t ki 0) r := h.congr fun _ => ⟨.inl, fun h => h.elim id fun ⟨_, _, h, _⟩ => absurd h (Nat.not_lt_zero _)⟩
theorem p5_start {S : Sch} {t ki j : Nat} {r : Option Nat} (h : MaxIs (P4 S t ki j) r) : MaxIs (P5 S t ki j 0) r := h.congr fun _ => ⟨.inl, fun h => h.elim id fun ⟨_, h, _⟩ => absurd h (Nat.not_lt_zero _)⟩
theorem p5_skip {S : Sch} {t ki j k : Nat} {r : Option Nat} (h : MaxIs (P5 S t ki j k) r) (hn : ∀ c, ¬ Pc S t (kn ki) j k c) : MaxIs (P5 S t ki j (k + 1)) r := h.congr fun c => by
  constructor
  · rintro (h | ⟨k', h1, h2⟩)
    · exact .inl h
    · exact .inr ⟨k', by omega, h2⟩
  · rintro (h | ⟨k', h1, h2⟩)
    · exact .inl h
    · rcases Nat.lt_or_ge k' k with h3 | h3
      · exact .inr ⟨k', h3, h2⟩
      · rw [show k' = k by omega] at h2; exact absurd h2 (hn c)
theorem p5_take {S : Sch} {t ki j k d : Nat} {r : Option Nat} (h : MaxIs (P5 S t ki j k) r) (hn : Pc S t (kn ki) j k d) : MaxIs (P5 S t ki j (k + 1)) (some (Nat.max (og r) d)) := h.more fun c => by
  constructor
  · rintro (h | ⟨k', h1, h2⟩)
    · exact .inl (.inl h)
    · rcases Nat.lt_or_ge k' k with h3 | h3
      · exact .inl (.inr ⟨k', h3, h2⟩)
      · rw [show k' = k by omega] at h2
        exact .inr (h2.2.2.2.2.1.trans hn.2.2.2.2.1.symm)
  · rintro ((h | ⟨k', h1, h2⟩) | rfl)
    · exact .inl h
    · exact .inr ⟨k', by omega, h2⟩
    · exact .inr ⟨k, by omega, hn⟩
theorem p5_new {S : Sch} {t ki j k d : Nat} {r : Option Nat} (h : MaxIs (P5 S t ki j k) r) (hn : Pc S t (kn ki) j k d) (hd : r.isSome = false ∨ og r < d) : MaxIs (P5 S t ki j (k + 1)) (some d) := by
  have := p5_take h hn
  rw [show Nat.max (og r) d = d from Nat.max_eq_right (by
    cases r with
    | none => exact Nat.zero_le _
    | some a => rcases hd with hd | hd; cases hd; exact Nat.le_of_lt hd)] at this
  exact this
theorem p5_old {S : Sch} {t ki j k d : Nat} {r : Option Nat} (h : MaxIs (P5 S t ki j k) r) (hn : Pc S t (kn ki) j k d) (h0 : r.isSome = true) (hd : ¬ og r < d) : MaxIs (P5 S t ki j (k + 1)) r := by
  have := p5_take h hn
  cases r with
  | none => cases h0
  | some a =>
    rw [show Nat.max (og (some a)) d = a from Nat.max_eq_left (Nat.le_of_not_lt hd)] at this
    exact this
theorem p5_end {S : Sch} {t ki j : Nat} {r : Option Nat} (h : MaxIs (P5 S t ki j S.n) r) : MaxIs (P4 S t ki (j + 1)) r := h.congr fun c => by
  constructor
  · rintro ((h | ⟨j', k, h1, h2⟩) | ⟨k', h1, h2⟩)
    · exact .inl h
    · exact .inr ⟨j', k, by omega, h2⟩
    · exact .inr ⟨j, k', by omega, h1, h2⟩
  · rintro (h | ⟨j', k, h1, h2, h3⟩)
    · exact .inl (.inl h)
    · rcases Nat.lt_or_ge j' j with h4 | h4
      · exact .inl (.inr ⟨j', k, h4, h2, h3⟩)
      · rw [show j' = j by omega] at h3; exact .inr ⟨k, h2, h3⟩
theorem p4_skip {S : Sch} {t ki j : Nat} {r : Option Nat} (h : MaxIs (P4 S t ki j) r) (hn : (S.V (kn ki)).getD j 0 ≠ t) : MaxIs (P4 S t ki (j + 1)) r := h.congr fun c => by
  constructor
  · rintro (h | ⟨j', k, h1, h2⟩)
    · exact .inl h
    · exact .inr ⟨j', k, by omega, h2⟩
  · rintro (h | ⟨j', k, h1, h2, h3⟩)
    · exact .inl h
    · rcases Nat.lt_or_ge j' j with h4 | h4
      · exact .inr ⟨j', k, h4, h2, h3⟩
      · rw [show j' = j by omega] at h3; exact absurd h3.1 hn
theorem p4_end {S : Sch} {t ki : Nat} {r : Option Nat} (h : MaxIs (P4 S t ki (S.V (kn ki)).length) r) : MaxIs (P3 S t (ki + 1)) r := h.congr fun c => by
  constructor
  · rintro (⟨ki', h1, h2⟩ | ⟨j', k, h1, h2, h3⟩)
    · exact ⟨ki', by omega, h2⟩
    · exact ⟨ki, by omega, j', k, h1, h2, h3⟩
  · rintro ⟨ki', h1, j, k, h2, h3, h4⟩
    rcases Nat.lt_or_ge ki' ki with h5 | h5
    · exact .inl ⟨ki', h5, j, k, h2, h3, h4⟩
    · have : ki' = ki := by omega
      subst this
      exact .inr ⟨j, k, h2, h3, h4⟩
theorem p3_end {S : Sch} (hG : Good S) {t : Nat} {r : Option Nat} (h : MaxIs (P3 S t 3) r) : MaxIs (PC S t) r := h.congr fun c => by
  constructor
  · rintro ⟨ki', _, j, k, h2, h3, h4⟩
    exact ⟨kn ki', j, k, h2, h3, h4⟩
  · rintro ⟨x, j, k, h2, h3, h4⟩
    obtain ⟨i, hi, rfl⟩ := hG.keys x (fun e => by rw [e] at h2; simp at h2)
    exact ⟨i, hi, j, k, h2, h3, h4⟩

/-! ### the answers, transaction by transaction -/
def FT (S : Sch) (t : Nat) : Prop := ∃ t' a c, 1 ≤ t' ∧ t' < t ∧ nextTo S S.n t' = some a ∧ MaxIs (PC S t') (some c)
def ET (S : Sch) (t : Nat) : Prop := ∃ t' a c, 1 ≤ t' ∧ t' < t ∧ nextTo S S.n t' = some a ∧ MaxIs (PC S t') (some c) ∧ a < gd S.en t' ∧ a ≤ c
def MA (S : Sch) (t : Nat) (f e : Bool) : Prop := (f = true ↔ FT S t) ∧ (e = true ↔ ET S t)
theorem ma_start (S : Sch) : MA S 1 false false :=
  ⟨⟨fun h => Bool.noConfusion h, fun h => (by obtain ⟨t', _, _, h1, h2, _⟩ := h; omega)⟩, ⟨fun h => Bool.noConfusion h, fun h => (by obtain ⟨t', _, _, h1, h2, _⟩ := h; omega)⟩⟩
theorem ma_no {S : Sch} {t : Nat} {f e : Bool} (h : MA S t f e) {p : Option Nat} (hp : MaxIs (PC S t) p) (hn : nextTo S S.n t = none ∨ p = none) : MA S (t + 1) f e := by
  have key : ∀ a c, nextTo S S.n t = some a → MaxIs (PC S t) (some c) → False := fun a c ha hc => by
    rcases hn with hn | hn
    · rw [hn] at ha; cases ha
    · rw [hn] at hp; cases MaxIs.uniq hp hc
  constructor
  · rw [h.1]
    constructor
    · rintro ⟨t', a, c, h1, h2, h3⟩; exact ⟨t', a, c, h1, by omega, h3⟩
    · rintro ⟨t', a, c, h1, h2, h3, h4⟩
      rcases Nat.lt_or_ge t' t with h5 | h5
      · exact ⟨t', a, c, h1, h5, h3, h4⟩
      · rw [show t' = t by omega] at h3 h4; exact (key a c h3 h4).elim
  · rw [h.2]
    constructor
    · rintro ⟨t', a, c, h1, h2, h3⟩; exact ⟨t', a, c, h1, by omega, h3⟩
    · rintro ⟨t', a, c, h1, h2, h3, h4, h6⟩
      rcases Nat.lt_or_ge t' t with h5 | h5
      · exact ⟨t', a, c, h1, h5, h3, h4, h6⟩
      · rw [show t' = t by omega] at h3 h4; exact (key a c h3 h4).elim
theorem ma_yes {S : Sch} {t a c : Nat} {f e e' : Bool} (h : MA S t f e) (ht : 1 ≤ t) (ha : nextTo S S.n t = some a) (hc : MaxIs (PC S t) (some c)) (he : e' = true ↔ e = true ∨ (a < gd S.en t ∧ a ≤ c)) : MA S (t + 1) true e' := by
  constructor
  · exact ⟨fun _ => ⟨t, a, c, ht, by omega, ha, hc⟩, fun _ => rfl⟩
  · rw [he, h.2]
    constructor
    · rintro (⟨t', a', c', h1, h2, h3⟩ | h)
      · exact ⟨t', a', c', h1, by omega, h3⟩
      · exact ⟨t, a, c, ht, by omega, ha, hc, h⟩
    · rintro ⟨t', a', c', h1, h2, h3, h4, h6⟩
      rcases Nat.lt_or_ge t' t with h5 | h5
      · exact .inl ⟨t', a', c', h1, h5, h3, h4, h6⟩
      · have e5 : t' = t := by omega
        rw [e5] at h3 h4 h6
        rw [ha] at h3; cases h3
        cases MaxIs.uniq h4 hc
        exact .inr h6
theorem ma_end {S : Sch} (hG : Good S) {f e : Bool} (h : MA S 6 f e) : Ans S f e := by
  have key : ∀ t a, nextTo S S.n t = some a → 1 ≤ t ∧ t < 6 := fun t a ha => by
    obtain ⟨k, hk, rfl⟩ := nextTo_txn ha
    have := hG.txn k hk
    omega
  constructor
  · rw [h.1]
    exact ⟨fun ⟨t, a, c, _, _, h3⟩ => ⟨t, a, c, h3⟩, fun ⟨t, a, c, h3, h4⟩ => ⟨t, a, c, (key t a h3).1, (key t a h3).2, h3, h4⟩⟩
  · rw [h.2]
    exact ⟨fun ⟨t, a, c, _, _, h3⟩ => ⟨t, a, c, h3⟩, fun ⟨t, a, c, h3, h4⟩ => ⟨t, a, c, (key t a h3).1, (key t a h3).2, h3, h4⟩⟩
end Go.Proofs.Ybulkdkuc.Sc
