/-
  Counts in decimal digits, plain: no Go in sight.
-/
import Derived.WalkKit
namespace Go.Proofs.Ybulkdkto.Ct

def good (c : UInt8) : Bool := decide (48 ≤ c.toNat) && decide (c.toNat ≤ 57)
theorem good_iff (c : UInt8) : good c = true ↔ 48 ≤ c.toNat ∧ c.toNat ≤ 57 := by simp [good]

def step (n : Nat) (c : UInt8) : Nat := if n ≤ 64 then n * 10 + (c.toNat - 48) else n
def run (l : List UInt8) : Nat := l.foldl step 0

theorem step_le (n : Nat) (c : UInt8) (hn : n ≤ 649) (hc : good c = true) : step n c ≤ 649 := by
  rw [good_iff] at hc
  unfold step
  split <;> omega
theorem foldl_le : ∀ (l : List UInt8) (n : Nat), n ≤ 649 → (∀ c ∈ l, good c = true) → l.foldl step n ≤ 649
  | [], _, h, _ => h
  | c :: l, n, h, hg => foldl_le l _ (step_le n c h (hg c (by simp))) (fun d hd => hg d (by simp [hd]))
theorem run_le (l : List UInt8) (h : ∀ c ∈ l, good c = true) : run l ≤ 649 := foldl_le l 0 (by omega) h
theorem run_snoc (l : List UInt8) (c : UInt8) : run (l ++ [c]) = step (run l) c := by simp [run, List.foldl_append]
theorem foldl_stays (l : List UInt8) (n : Nat) (h : 64 < n) : l.foldl step n = n := by
  induction l with
  | nil => rfl
  | cons c l ih => rw [List.foldl_cons]; have : step n c = n := by unfold step; rw [if_neg (by omega)]
                   rw [this]; exact ih

/-- Leading zeros count for nothing. -/
theorem run_zeros : ∀ (k : Nat) (r : List UInt8), run (List.replicate k 48 ++ r) = run r
  | 0, r => by simp
  | k + 1, r => by
    have h : run (List.replicate (k + 1) 48 ++ r) = run (List.replicate k 48 ++ r) := by
      simp [run, List.replicate_succ, step]
    rw [h, run_zeros k r]

/-- What the law's model reads off the significant digits. -/
def lead : List UInt8 → Nat
  | [] => 0
  | [a] => a.toNat - 48
  | [a, b] => (a.toNat - 48) * 10 + (b.toNat - 48)
  | a :: b :: c :: _ => if 64 < (a.toNat - 48) * 10 + (b.toNat - 48) then (a.toNat - 48) * 10 + (b.toNat - 48) else ((a.toNat - 48) * 10 + (b.toNat - 48)) * 10 + (c.toNat - 48)

theorem run_lead (r : List UInt8) (hg : ∀ c ∈ r, good c = true) (hz : ∀ c, r.head? = some c → c.toNat ≠ 48) : run r = lead r := by
  match r, hg, hz with
  | [], _, _ => rfl
  | [a], _, _ => simp [run, lead, step]
  | [a, b], hg, _ =>
    have ha := (good_iff a).1 (hg a (by simp))
    simp [run, lead, step]
    omega
  | a :: b :: c :: t, hg, hz =>
    have ha := (good_iff a).1 (hg a (by simp))
    have hb := (good_iff b).1 (hg b (by simp))
    have hc := (good_iff c).1 (hg c (by simp))
    have hz' := hz a rfl
    have e1 : step 0 a = a.toNat - 48 := by simp [step]
    have e2 : step (a.toNat - 48) b = (a.toNat - 48) * 10 + (b.toNat - 48) := by unfold step; rw [if_pos (by omega)]
    show (a :: b :: c :: t).foldl step 0 = _
    rw [List.foldl_cons, List.foldl_cons, List.foldl_cons, e1, e2]
    show _ = if 64 < (a.toNat - 48) * 10 + (b.toNat - 48) then (a.toNat - 48) * 10 + (b.toNat - 48) else ((a.toNat - 48) * 10 + (b.toNat - 48)) * 10 + (c.toNat - 48)
    by_cases h : 64 < (a.toNat - 48) * 10 + (b.toNat - 48)
    · have e3 : step ((a.toNat - 48) * 10 + (b.toNat - 48)) c = (a.toNat - 48) * 10 + (b.toNat - 48) := by unfold step; rw [if_neg (by omega)]
      rw [if_pos h, e3, foldl_stays _ _ h]
    · have e3 : step ((a.toNat - 48) * 10 + (b.toNat - 48)) c = ((a.toNat - 48) * 10 + (b.toNat - 48)) * 10 + (c.toNat - 48) := by unfold step; rw [if_pos (by omega)]
      rw [if_neg h, e3, foldl_stays _ _ (by omega)]

/-! ### strings -/
def ok (s : ByteArray) : Bool := !s.data.toList.isEmpty && s.data.toList.all good
/-- The count and whether there is one, each behind a name. -/
def num (s : ByteArray) : Int := if ok s then (run s.data.toList : Nat) else 0
def rn (s : ByteArray) (k : Nat) : Int := (run (s.data.toList.take k) : Nat)

theorem take_snoc (s : ByteArray) (k : Nat) (h : k < s.size) : s.data.toList.take (k + 1) = s.data.toList.take k ++ [s[k]] := by
  rw [List.take_succ_eq_append_getElem (by simpa using h)]; rfl
theorem rn_zero (s : ByteArray) : rn s 0 = 0 := by simp [rn, run]
/-- The first k bytes are digits. -/
def Upto (s : ByteArray) (k : Nat) : Prop := ∀ j (h : j < s.size), j < k → good s[j] = true
theorem upto_mem {s : ByteArray} {k : Nat} (h : Upto s k) : ∀ c ∈ s.data.toList.take k, good c = true := by
  intro c hc
  obtain ⟨j, hj, e⟩ := List.mem_iff_getElem.1 hc
  have h1 : j < k := by have := List.length_take_le k s.data.toList; omega
  have h2 : j < s.size := by rw [List.length_take] at hj; have : s.data.toList.length = s.size := by simp
                             omega
  have := h j h2 h1
  rw [← e, List.getElem_take]
  exact this
theorem rn_lo (s : ByteArray) (k : Nat) : 0 ≤ rn s k := Int.natCast_nonneg _
theorem rn_hi {s : ByteArray} {k : Nat} (h : Upto s k) : rn s k ≤ 649 := by
  unfold rn
  have := run_le _ (upto_mem h)
  omega
theorem rn_small {s : ByteArray} {k : Nat} (hk : k < s.size) (hg : good s[k] = true) (h : rn s k ≤ 64) : rn s k * 10 + ((s[k].toNat : Int) - 48) = rn s (k + 1) := by
  have hc := (good_iff _).1 hg
  unfold rn at *
  rw [take_snoc s k hk, run_snoc]
  unfold step
  rw [if_pos (by omega)]
  omega
theorem rn_big {s : ByteArray} {k : Nat} (hk : k < s.size) (h : ¬ rn s k ≤ 64) : rn s k = rn s (k + 1) := by
  unfold rn at *
  rw [take_snoc s k hk, run_snoc]
  unfold step
  rw [if_neg (by omega)]
theorem Upto.step {s : ByteArray} {k : Nat} (h : Upto s k) (hk : k < s.size) (hg : good s[k] = true) : Upto s (k + 1) := fun j hj hlt => by
  by_cases e : j = k
  · subst e; exact hg
  · exact h j hj (by omega)
theorem ok_all {s : ByteArray} (h0 : 0 < s.size) (h : Upto s s.size) : ok s = true := by
  unfold ok
  have e : s.data.toList.isEmpty = false := by
    rw [List.isEmpty_eq_false_iff]
    intro e
    have : s.data.toList.length = 0 := by rw [e]; rfl
    have e2 : s.data.toList.length = s.size := by simp
    omega
  rw [e]
  simp only [Bool.not_false, Bool.true_and, List.all_eq_true]
  have h2 := upto_mem h
  rw [List.take_of_length_le (by simp)] at h2
  exact h2
theorem num_all {s : ByteArray} (h0 : 0 < s.size) (h : Upto s s.size) : rn s s.size = num s := by
  unfold num rn
  rw [if_pos (ok_all h0 h), List.take_of_length_le (by simp)]
theorem ok_bad {s : ByteArray} {k : Nat} (hk : k < s.size) (h : good s[k] = false) : ok s = false := by
  unfold ok
  have : s.data.toList.all good = false := by
    rw [List.all_eq_false]
    exact ⟨s[k], by show s.data[k] ∈ _; simp, by simp [h]⟩
  rw [this, Bool.and_false]
theorem num_bad {s : ByteArray} (h : ok s = false) : num s = 0 := by unfold num; rw [h]; rfl
theorem ok_empty {s : ByteArray} (h : s.size = 0) : ok s = false := by
  unfold ok
  have : s.data.toList = [] := List.eq_nil_of_length_eq_zero (by simpa using h)
  rw [this]; rfl
end Go.Proofs.Ybulkdkto.Ct
