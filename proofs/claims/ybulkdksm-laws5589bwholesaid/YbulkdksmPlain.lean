/-
  Open addressing, plain: no Go in sight but the model's word 'bits' in the last part.
-/
import Derived.WalkKit
namespace Go.Proofs.Ybulkdksm.Tb
open Go.RowKit

structure Slot where
  key : Nat
  a : Int
  b : Int
  c : Int

def nilSlot : Slot := ⟨0, 0, 0, 0⟩

def upd (T : Nat → Slot) (p : Nat) (s : Slot) : Nat → Slot := fun i => if i = p then s else T i
theorem upd_same (T : Nat → Slot) (p : Nat) (s : Slot) : upd T p s p = s := by simp [upd]
theorem upd_other (T : Nat → Slot) (p i : Nat) (s : Slot) (h : i ≠ p) : upd T p s i = T i := by simp [upd, h]

/-! ### sums modulo m -/
theorem mod_sum (m x y : Nat) (hx : x < m) (hy : y < m) : (x + y) % m = if x + y < m then x + y else x + y - m := by
  split
  · next h => exact Nat.mod_eq_of_lt h
  · next h =>
    rw [Nat.mod_eq_sub_mod (by omega)]
    exact Nat.mod_eq_of_lt (by omega)
theorem mod_shift (m k d : Nat) : (k + d) % m = (k % m + d) % m := (Nat.mod_add_mod k m d).symm
theorem mod_step (m k d : Nat) : ((k + d) % m + 1) % m = (k + (d + 1)) % m := by rw [Nat.mod_add_mod, Nat.add_assoc]
theorem mod_inj (m k d D : Nat) (h1 : d < m) (h2 : D < m) (h : (k + d) % m = (k + D) % m) : d = D := by
  have hm : 0 < m := by omega
  have hr := Nat.mod_lt k hm
  rw [mod_shift m k d, mod_shift m k D, mod_sum m _ _ hr h1, mod_sum m _ _ hr h2] at h
  split at h <;> split at h <;> omega
theorem mod_reach (m k i : Nat) (hi : i < m) : ∃ D, D < m ∧ (k + D) % m = i := by
  have hr := Nat.mod_lt k (show 0 < m by omega)
  by_cases h : k % m ≤ i
  · refine ⟨i - k % m, by omega, ?_⟩
    rw [mod_shift, show k % m + (i - k % m) = i by omega]
    exact Nat.mod_eq_of_lt hi
  · refine ⟨i + m - k % m, by omega, ?_⟩
    rw [mod_shift, show k % m + (i + m - k % m) = i + m by omega, Nat.add_mod_right]
    exact Nat.mod_eq_of_lt hi

theorem least (P : Nat → Prop) : ∀ D, P D → ∃ D', D' ≤ D ∧ P D' ∧ ∀ d, d < D' → ¬ P d := by
  intro D
  induction D using Nat.strongRecOn with
  | ind D ih =>
    intro h
    by_cases hx : ∃ d, d < D ∧ P d
    · obtain ⟨d, hd, hp⟩ := hx
      obtain ⟨D', h1, h2, h3⟩ := ih d hd hp
      exact ⟨D', by omega, h2, h3⟩
    · exact ⟨D, Nat.le_refl _, h, fun d hd hp => hx ⟨d, hd, hp⟩⟩

/-! ### how many slots are taken -/
def cnt (T : Nat → Slot) : Nat → Nat
  | 0 => 0
  | m + 1 => cnt T m + if (T m).key = 0 then 0 else 1
theorem cnt_le (T : Nat → Slot) : ∀ m, cnt T m ≤ m
  | 0 => Nat.le_refl _
  | m + 1 => by have := cnt_le T m; unfold cnt; split <;> omega
theorem cnt_lt (T : Nat → Slot) : ∀ m, cnt T m < m → ∃ i, i < m ∧ (T i).key = 0
  | 0, h => by omega
  | m + 1, h => by
    by_cases e : (T m).key = 0
    · exact ⟨m, by omega, e⟩
    · unfold cnt at h
      rw [if_neg e] at h
      obtain ⟨i, hi, h0⟩ := cnt_lt T m (by omega)
      exact ⟨i, by omega, h0⟩
theorem cnt_mono (T : Nat → Slot) (i : Nat) : ∀ m, i ≤ m → cnt T i ≤ cnt T m
  | 0, h => by have : i = 0 := by omega
               subst this; exact Nat.le_refl _
  | m + 1, h => by
    by_cases e : i = m + 1
    · subst e; exact Nat.le_refl _
    · have := cnt_mono T i m (by omega)
      show cnt T i ≤ cnt T m + _
      omega
theorem cnt_congr {T T' : Nat → Slot} : ∀ m, (∀ i, i < m → (T i).key = (T' i).key) → cnt T m = cnt T' m
  | 0, _ => rfl
  | m + 1, h => by
    unfold cnt
    rw [cnt_congr m (fun i hi => h i (by omega)), h m (by omega)]
theorem cnt_upd (T : Nat → Slot) (p : Nat) (s : Slot) (h0 : (T p).key = 0) (hs : s.key ≠ 0) : ∀ m, p < m → cnt (upd T p s) m = cnt T m + 1
  | 0, h => by omega
  | m + 1, h => by
    unfold cnt
    by_cases e : p = m
    · subst e
      rw [upd_same, if_neg hs, h0, if_pos rfl, cnt_congr (T' := T) p (fun i hi => by rw [upd_other _ _ _ _ (by omega)])]
    · rw [cnt_upd T p s h0 hs m (by omega), upd_other _ _ _ _ (by omega)]
      omega

/-! ### the table -/
structure WF (m : Nat) (T : Nat → Slot) : Prop where
  small : ∀ i, i < m → (T i).key < 18446744073709551616
  path : ∀ i, i < m → (T i).key ≠ 0 → ∃ D, D < m ∧ ((T i).key + D) % m = i ∧ ∀ d, d < D → (T (((T i).key + d) % m)).key ≠ 0
  one : ∀ i j, i < m → j < m → (T i).key = (T j).key → (T i).key ≠ 0 → i = j

def Has (m : Nat) (T : Nat → Slot) (k : Nat) : Prop := ∃ i, i < m ∧ (T i).key = k

theorem WF.none (m : Nat) : WF m fun _ => nilSlot where
  small := fun _ _ => by simp [nilSlot]
  path := fun _ _ h => absurd rfl h
  one := fun _ _ _ _ _ h => absurd rfl h
theorem cnt_none (m : Nat) : cnt (fun _ => nilSlot) m = 0 := by
  induction m with
  | zero => rfl
  | succ m ih => unfold cnt; rw [ih]; rfl

/-- The first empty slot from k's own on. -/
structure Free (m : Nat) (T : Nat → Slot) (k D : Nat) : Prop where
  lt : D < m
  empty : (T ((k + D) % m)).key = 0
  before : ∀ d, d < D → (T ((k + d) % m)).key ≠ 0

theorem free_of {m : Nat} {T : Nat → Slot} (h : cnt T m < m) (k : Nat) : ∃ D, Free m T k D := by
  obtain ⟨i, hi, h0⟩ := cnt_lt T m h
  obtain ⟨D, hD, e⟩ := mod_reach m k i hi
  obtain ⟨D', h1, h2, h3⟩ := least (fun D => (T ((k + D) % m)).key = 0) D (by rw [e]; exact h0)
  exact ⟨D', by omega, h2, h3⟩

theorem WF.place {m : Nat} {T : Nat → Slot} (h : WF m T) {s : Slot} {D : Nat} (hf : Free m T s.key D) (h0 : s.key ≠ 0) (hs : s.key < 18446744073709551616) (hn : ¬ Has m T s.key) :
    WF m (upd T ((s.key + D) % m) s) where
  small := fun i hi => by
    by_cases e : i = (s.key + D) % m
    · subst e; rw [upd_same]; exact hs
    · rw [upd_other _ _ _ _ e]; exact h.small i hi
  path := fun i hi hk => by
    have keep : ∀ j, (T j).key ≠ 0 → (upd T ((s.key + D) % m) s j).key ≠ 0 := fun j hj => by
      by_cases e : j = (s.key + D) % m
      · subst e; rw [upd_same]; exact h0
      · rw [upd_other _ _ _ _ e]; exact hj
    by_cases e : i = (s.key + D) % m
    · subst e
      rw [upd_same] at hk ⊢
      exact ⟨D, hf.lt, rfl, fun d hd => keep _ (hf.before d hd)⟩
    · rw [upd_other _ _ _ _ e] at hk ⊢
      obtain ⟨D', h1, h2, h3⟩ := h.path i hi hk
      exact ⟨D', h1, h2, fun d hd => keep _ (h3 d hd)⟩
  one := fun i j hi hj e hk => by
    by_cases ei : i = (s.key + D) % m <;> by_cases ej : j = (s.key + D) % m
    · omega
    · subst ei
      rw [upd_same, upd_other _ _ _ _ ej] at e
      exact absurd ⟨j, hj, e.symm⟩ hn
    · subst ej
      rw [upd_same, upd_other _ _ _ _ ei] at e
      exact absurd ⟨i, hi, e⟩ hn
    · rw [upd_other _ _ _ _ ei] at e hk
      rw [upd_other _ _ _ _ ej] at e
      exact h.one i j hi hj e hk

theorem has_place {m : Nat} {T : Nat → Slot} {s : Slot} {D : Nat} (hf : Free m T s.key D) {k : Nat} (hk : k ≠ 0) :
    Has m (upd T ((s.key + D) % m) s) k ↔ Has m T k ∨ k = s.key := by
  have hm : 0 < m := by have := hf.lt; omega
  constructor
  · rintro ⟨i, hi, e⟩
    by_cases ei : i = (s.key + D) % m
    · subst ei; rw [upd_same] at e; exact .inr e.symm
    · rw [upd_other _ _ _ _ ei] at e; exact .inl ⟨i, hi, e⟩
  · rintro (⟨i, hi, e⟩ | rfl)
    · refine ⟨i, hi, ?_⟩
      rw [upd_other _ _ _ _ ?_]
      · exact e
      · rintro rfl
        exact hk (e.symm.trans hf.empty)
    · exact ⟨_, Nat.mod_lt _ hm, by rw [upd_same]⟩

theorem cnt_place {m : Nat} {T : Nat → Slot} {s : Slot} {D : Nat} (hf : Free m T s.key D) (h0 : s.key ≠ 0) : cnt (upd T ((s.key + D) % m) s) m = cnt T m + 1 :=
  cnt_upd T _ s hf.empty h0 m (Nat.mod_lt _ (by have := hf.lt; omega))

/-! ### what 'find' answers -/
/-- A key that is there: its probe comes to its slot, past no empty one and past no other slot of that key. -/
theorem WF.hit {m : Nat} {T : Nat → Slot} (h : WF m T) {q i : Nat} (hq : q ≠ 0) (hi : i < m) (e : (T i).key = q) :
    ∃ D, D < m ∧ (q + D) % m = i ∧ ∀ d, d < D → (T ((q + d) % m)).key ≠ 0 ∧ (T ((q + d) % m)).key ≠ q := by
  obtain ⟨D, h1, h2, h3⟩ := h.path i hi (by rw [e]; exact hq)
  rw [e] at h2 h3
  refine ⟨D, h1, h2, fun d hd => ⟨h3 d hd, fun hc => ?_⟩⟩
  have := h.one _ i (Nat.mod_lt (q + d) (by omega)) hi (hc.trans e.symm) (by rw [hc]; exact hq)
  have := mod_inj m q d D (by omega) h1 (this.trans h2.symm)
  omega

/-! ### the mask -/
theorem and_mask (x : Int) (e : Nat) (he : e ≤ 62) :
    bits .and .i64 x (((2 ^ e : Nat) : Int) - 1) = x % ((2 ^ e : Nat) : Int) := by
  have hp : 2 ^ e ≤ 2 ^ 62 := Nat.pow_le_pow_right (by omega) he
  have hp1 : 0 < 2 ^ e := Nat.pos_of_neZero _
  have hp2 : (2 : Nat) ^ 62 = 4611686018427387904 := by decide
  have hd : (2 : Nat) ^ e ∣ 2 ^ 64 := Nat.pow_dvd_pow 2 (by omega)
  have h64 : (2 : Nat) ^ 64 = 18446744073709551616 := by decide
  show IntKind.i64.wrap ((BitVec.ofInt 64 x &&& BitVec.ofInt 64 (((2 ^ e : Nat) : Int) - 1)).toNat : Int) = _
  rw [BitVec.toNat_and, BitVec.toNat_ofInt, BitVec.toNat_ofInt]
  have e1 : ((((2 ^ e : Nat) : Int) - 1) % ((2 ^ 64 : Nat) : Int)).toNat = 2 ^ e - 1 := by
    rw [h64]
    generalize 2 ^ e = q at *
    omega
  rw [e1, Nat.and_two_pow_sub_one_eq_mod, IntKind.wrap_i64]
  have hlt : (x % ((2 ^ 64 : Nat) : Int)).toNat % 2 ^ e < 2 ^ e := Nat.mod_lt _ hp1
  have e2 : (((x % ((2 ^ 64 : Nat) : Int)).toNat % 2 ^ e : Nat) : Int) = x % ((2 ^ e : Nat) : Int) := by
    rw [Int.natCast_emod]
    have e3 : (((x % ((2 ^ 64 : Nat) : Int)).toNat : Nat) : Int) = x % ((2 ^ 64 : Nat) : Int) := by rw [h64]; omega
    rw [e3]
    exact Int.emod_emod_of_dvd x (Int.natCast_dvd_natCast.2 hd)
  rw [← e2]
  generalize (x % ((2 ^ 64 : Nat) : Int)).toNat % 2 ^ e = r at *
  generalize 2 ^ e = q at *
  omega

/-- A number of slots that is a power of two, small enough for the mask. -/
def Pow (m : Nat) : Prop := ∃ e, e ≤ 62 ∧ m = 2 ^ e
theorem Pow.pos {m : Nat} (h : Pow m) : 0 < m := by obtain ⟨e, _, rfl⟩ := h; exact Nat.pos_of_neZero _
theorem Pow.home {m : Nat} (h : Pow m) (k : Nat) (hk : k < 18446744073709551616) : bits .and .i64 (wrap64 (k : Int)) ((m : Int) - 1) = (((k + 0) % m : Nat) : Int) := by
  obtain ⟨e, he, rfl⟩ := h
  rw [and_mask _ e he, Nat.add_zero]
  have hd : (2 : Nat) ^ e ∣ 2 ^ 64 := Nat.pow_dvd_pow 2 (by omega)
  have h64 : (2 : Nat) ^ 64 = 18446744073709551616 := by decide
  rw [h64] at hd
  have hd' : ((2 ^ e : Nat) : Int) ∣ 18446744073709551616 := Int.natCast_dvd_natCast.2 hd
  by_cases hs : (k : Int) < 9223372036854775808
  · have e1 : wrap64 (k : Int) = k := by unfold wrap64; omega
    rw [e1, Int.natCast_emod]
  · have e1 : wrap64 (k : Int) = k - 18446744073709551616 := by unfold wrap64; omega
    obtain ⟨c, hc⟩ := hd'
    rw [e1, hc, Int.natCast_emod, Int.sub_mul_emod_self_left]
theorem Pow.next {m : Nat} (h : Pow m) (i : Nat) : bits .and .i64 ((i : Int) + 1) ((m : Int) - 1) = (((i + 1) % m : Nat) : Int) := by
  obtain ⟨e, he, rfl⟩ := h
  rw [and_mask _ e he, Int.natCast_emod]
  rfl
theorem Pow.double {m : Nat} (h : Pow m) (hm : m ≤ 4096) : Pow (2 * m) := by
  obtain ⟨e, he, rfl⟩ := h
  refine ⟨e + 1, ?_, by rw [Nat.pow_succ, Nat.mul_comm]⟩
  rcases Nat.lt_or_ge e 62 with h' | h'
  · omega
  · have := Nat.pow_le_pow_right (n := 2) (by omega) h'
    have hp2 : (2 : Nat) ^ 62 = 4611686018427387904 := by decide
    omega
theorem pow16 : Pow 16 := ⟨4, by omega, rfl⟩
end Go.Proofs.Ybulkdksm.Tb
