/-
  Of package slices: Index (35), Contains (22), Clone (13, 15), Equal (17, 18).
-/
import Derived.Test.YbulkdkucRows2
namespace Go.Proofs.Ybulkdkuc.Sc
open Go.RowKit Go.Maps

set_option maxHeartbeats 400000 in
theorem index_walk (A : Option Addr) (C k : Nat) (xs : List Nat) (w : World) (hl : xs.length ≤ 100000) (hI : IntsAt w A xs) :
    Calls Yba.prog 35 #[.slice A xs.length C, .int .i64 (k : Int)] w fun e w' => (∃ r : Int, e = .returned (.int .i64 r) ∧ ((k ∈ xs ∧ 0 ≤ r) ∨ (k ∉ xs ∧ r = -1))) ∧ w' = w := by
  have HI : Hid (IntsAt w A xs) := hI
  obtain ⟨len, hlen⟩ : ∃ len, len = xs.length := ⟨_, rfl⟩
  have HL : Hid (len = xs.length) := hlen
  rw [← hlen] at hl ⊢
  clear hI hlen
  go_enter Yba.func35, Yba.ntmps35
  go_wp2
  go_loop [8] (fun i => ∃ j : Nat, j ≤ len ∧ i = .int .i64 j ∧ Hid (∀ j', j' < j → xs.getD j' 0 ≠ k)) (fun i => len - (intOf i).toNat)
  case atStart => exact ⟨0, Nat.zero_le _, rfl, fun j' h => absurd h (Nat.not_lt_zero _)⟩
  case round =>
    obtain ⟨j, hj, rfl, hb⟩ := hrel
    by_cases hlt : j < len
    · have hlt' : (j : Int) < (len : Int) := by omega
      obtain ⟨g, rfl, hcj⟩ := HI.out j (by rw [← HL.out]; exact hlt)
      obtain ⟨y, hy⟩ : ∃ y, y = xs.getD j 0 := ⟨_, rfl⟩
      have HY : Hid (y = xs.getD j 0) := hy
      rw [← hy] at hcj
      clear hy
      by_cases e : k = y
      · have e' : ((k : Int) == (y : Int)) = true := bt e
        have E : Hid (k = y) := e
        clear e
        go_wp2
        go_ret
        refine ⟨⟨_, rfl, .inl ⟨?_, by omega⟩⟩, rfl⟩
        rw [E.out, HY.out]
        exact getD_mem (by rw [← HL.out]; exact hlt)
      · have e' : ((k : Int) == (y : Int)) = false := bf e
        go_wp2
        go_round
        case rel =>
          refine ⟨j + 1, by omega, by go_num, fun j' hj' => ?_⟩
          by_cases ej : j' = j
          · subst ej; rw [← HY.out]; exact fun h => e h.symm
          · exact hb.out j' (by omega)
        case measure => simp [intOf]; omega
    · have hlt' : ¬ (j : Int) < (len : Int) := by omega
      go_wp2
      go_ret
      refine ⟨⟨_, rfl, .inr ⟨fun hm => ?_, rfl⟩⟩, rfl⟩
      obtain ⟨i, hi, e⟩ := mem_getD hm
      exact hb.out i (by have := HL.out; omega) e

theorem contains_walk (A : Option Addr) (C k : Nat) (xs : List Nat) (w : World) (hl : xs.length ≤ 100000) (hI : IntsAt w A xs) :
    Calls Yba.prog 22 #[.slice A xs.length C, .int .i64 (k : Int)] w fun e w' => e = .returned (.bool (decide (k ∈ xs))) ∧ w' = w := by
  have H : Hid (Calls Yba.prog 35 #[.slice A xs.length C, .int .i64 (k : Int)] w fun e w' => (∃ r : Int, e = .returned (.int .i64 r) ∧ ((k ∈ xs ∧ 0 ≤ r) ∨ (k ∉ xs ∧ r = -1))) ∧ w' = w) := index_walk A C k xs w hl hI
  clear hI
  by_cases hm : k ∈ xs
  · have HM : Hid (k ∈ xs) := hm
    rw [decide_eq_true hm]
    clear hm
    go_enter Yba.func22, Yba.ntmps22
    go_wp2_with (first
      | (go_at_call 35
         refine (H.out).mono ?_
         rintro e w' ⟨⟨r, rfl, hr⟩, rfl⟩
         have hr' : 0 ≤ r := hr.elim (fun h => h.2) (fun h => absurd HM.out h.1)
         clear hr))
    go_ret
    exact ⟨rfl, rfl⟩
  · have HM : Hid (k ∉ xs) := hm
    rw [decide_eq_false hm]
    clear hm
    go_enter Yba.func22, Yba.ntmps22
    go_wp2_with (first
      | (go_at_call 35
         refine (H.out).mono ?_
         rintro e w' ⟨⟨r, rfl, hr⟩, rfl⟩
         have hr' : r = -1 := hr.elim (fun h => absurd h.1 HM.out) (fun h => h.2)
         clear hr
         subst hr'))
    go_ret
    exact ⟨rfl, rfl⟩

theorem intVals_one (xs : List Nat) : ∀ u ∈ intVals xs, u.oneCell' = true := by
  intro u hu
  obtain ⟨x, _, rfl⟩ := List.mem_map.1 hu
  rfl

theorem clone13_news {w : World} {g : Nat} {n : Nat} {O : Nat → Opr} (h : OpsAt w (some ⟨g, 0, none⟩) n O) : ∀ j u, (opVals O n)[j]? = some u → (w.alloc (.cells #[] 45)).cell? ((⟨g, 0, none⟩ : Addr).add j) = some u :=
  fun j u hj => by
    have hjn : j < n * 6 := by rw [← opVals_length O n]; exact (List.getElem?_eq_some_iff.1 hj).1
    obtain ⟨g', hg', c0, c1, c2, c3, c4, c5⟩ := h (j / 6) (by omega)
    cases hg'
    have hj' := opVals_get O n (j / 6) (j % 6) (by omega) (by omega)
    rw [show j / 6 * 6 + j % 6 = j by omega, hj] at hj'
    rw [add_at, Nat.zero_add]
    refine (Kept.alloc (fun _ => False) w (.cells #[] 45)).cell id ?_
    rcases (show j = j / 6 * 6 ∨ j = j / 6 * 6 + 1 ∨ j = j / 6 * 6 + 2 ∨ j = j / 6 * 6 + 3 ∨ j = j / 6 * 6 + 4 ∨ j = j / 6 * 6 + 5 by omega) with e | e | e | e | e | e
    · rw [show j % 6 = 0 by omega] at hj'; rw [e, c0, hj']; rfl
    · rw [show j % 6 = 1 by omega] at hj'; rw [e, c1, hj']; rfl
    · rw [show j % 6 = 2 by omega] at hj'; rw [e, c2, hj']; rfl
    · rw [show j % 6 = 3 by omega] at hj'; rw [e, c3, hj']; rfl
    · rw [show j % 6 = 4 by omega] at hj'; rw [e, c4, hj']; rfl
    · rw [show j % 6 = 5 by omega] at hj'; rw [e, c5, hj']; rfl
set_option maxHeartbeats 400000 in
theorem clone13_walk (A : Option Addr) (C : Nat) (n : Nat) (O : Nat → Opr) (w : World) (hb : n ≤ 100000) (h0 : n = 0 → A = none ∧ C = 0) (h : OpsAt w A n O) :
    Calls Yba.prog 13 #[.slice A n C] w fun e w' => ∃ A' C', e = .returned (.slice A' n C') ∧ OpsAt w' A' n O ∧ A'.isNone = (n == 0) ∧ Below w.heap.size w w' := by
  have eq0 := fun W A L C => Lib.run_eql_slice_nil (P := Yba.prog) W 35 45 A L C 0 0 Yba.underlying35
  by_cases hz : n = 0
  · obtain ⟨rfl, rfl⟩ := h0 hz
    clear h0
    rw [hz]
    go_enter Yba.func13, Yba.ntmps13
    go_wp2
    go_ret
    exact ⟨none, 0, rfl, fun i hi => absurd hi (by omega), rfl, Below.refl _ _⟩
  · obtain ⟨g, rfl, _⟩ := h 0 (by omega)
    obtain ⟨i, hi, hzz⟩ := Option.map_eq_some_iff.1 info45
    simp only [Prod.mk.injEq] at hzz
    have HN : Hid (∀ j u, (opVals O n)[j]? = some u → (w.alloc (.cells #[] 45)).cell? ((⟨g, 0, none⟩ : Addr).add j) = some u) := clone13_news h
    have HI : Hid (Yba.prog.info? 45 = some i) := hi
    have HZ : Hid (i.zero = some (.agg #[.int .u8 0, .int .i64 0, .string ByteArray.empty, .int .i64 0, .int .i64 0, .bool false]) ∧ i.size = 6 ∧ i.bytes = 56) := hzz
    have HE : Hid ((w.alloc (.cells #[] 45)).ownsRow w.heap.size 45 6 (.slice (some ⟨w.heap.size, 0, none⟩) 0 0) 0 []) :=
      ⟨rfl, .inr ⟨w.heap.size, 0, #[], rfl, Nat.le_refl _, (MapKept.heap_alloc w _).1, Nat.le_refl _, Nat.zero_le _, rfl, rfl⟩⟩
    have HB : Hid (n ≤ 100000) := hb
    obtain ⟨m, hm⟩ : ∃ m, m = n := ⟨_, rfl⟩
    have HM : Hid (m = n) := hm
    rw [← hm] at hb hz ⊢
    have HLN : Hid ((opVals O n).length = m * 6) := by rw [hm]; exact opVals_length O n
    clear hzz hi h0 h hm
    go_enter Yba.func13, Yba.ntmps13
    go_wp2_with (first
      | (at_builtin
         refine wpList_append_own _ rfl (.tmp 5) (.tmp 6) 35 rfl w.heap.size 45 i _ 6 56 Yba.underlying35 HI.out HZ.out.1 HZ.out.2.1 HZ.out.2.2 rfl (by decide) _ 0 [] rfl HE.out ⟨g, 0, none⟩ m C (opVals O n) rfl HLN.out HN.out (opVals_one O n) (by unfold maxLen; omega) (by omega) (by simp) ?_
         intro v' w1 hown hg hnil
         have HOW : Hid (OwnO w1 w.heap.size v' m O) := by unfold OwnO; rw [HM.out]; rw [HM.out, Nat.zero_add, List.nil_append] at hown; exact hown
         have HG : Hid ((w.alloc (.cells #[] 45)).grownBy w1 (some w.heap.size)) := hg
         have HNIL : Hid (v' ≠ .slice none 0 0) := fun e => by have := (hnil.1 e).1; cases this
         clear hown hg hnil))
    go_ret
    obtain ⟨A', C', hv, hat⟩ := HOW.out.shape
    have hA : A'.isNone = (m == 0) := by
      rw [show (m == 0) = false by simpa using hz]
      obtain ⟨g2, e2, _⟩ := hat 0 (by have := HM.out; omega)
      rw [e2]; rfl
    refine ⟨A', C', ?_, hat, hA, ((Below.refl _ _).alloc (Nat.le_refl _) _).grown HG.out (by simp) (fun k e => by cases e; exact Nat.le_refl _)⟩
    show Ending.returned v' = _
    rw [hv]

theorem clone15_news {w : World} {g : Nat} {xs : List Nat} (h : IntsAt w (some ⟨g, 0, none⟩) xs) : ∀ j u, (intVals xs)[j]? = some u → (w.alloc (.cells #[] 3)).cell? ((⟨g, 0, none⟩ : Addr).add j) = some u :=
  fun j u hj => by
    have hjn : j < xs.length := by have := (List.getElem?_eq_some_iff.1 hj).1; simpa [intVals] using this
    obtain ⟨g', hg', c0⟩ := h j hjn
    cases hg'
    rw [add_at, Nat.zero_add]
    refine (Kept.alloc (fun _ => False) w (.cells #[] 3)).cell id ?_
    rw [c0, ← hj]
    simp [intVals, hjn]
set_option maxHeartbeats 400000 in
theorem clone15_walk (A : Option Addr) (C : Nat) (xs : List Nat) (w : World) (hb : xs.length ≤ 100000) (h0 : xs.length = 0 → A = none ∧ C = 0) (h : IntsAt w A xs) :
    Calls Yba.prog 15 #[.slice A xs.length C] w fun e w' => ∃ A' C', e = .returned (.slice A' xs.length C') ∧ IntsAt w' A' xs ∧ A'.isNone = (xs.length == 0) ∧ Below w.heap.size w w' := by
  have eq0 := fun W A L C => Lib.run_eql_slice_nil (P := Yba.prog) W 48 3 A L C 0 0 Yba.underlying48
  by_cases hz : xs.length = 0
  · obtain ⟨rfl, rfl⟩ := h0 hz
    clear h0
    rw [hz]
    go_enter Yba.func15, Yba.ntmps15
    go_wp2
    go_ret
    exact ⟨none, 0, rfl, fun i hi => absurd hi (by omega), rfl, Below.refl _ _⟩
  · obtain ⟨g, rfl, _⟩ := h 0 (by omega)
    obtain ⟨i, hi, hzz⟩ := Option.map_eq_some_iff.1 info3
    simp only [Prod.mk.injEq] at hzz
    have HN : Hid (∀ j u, (intVals xs)[j]? = some u → (w.alloc (.cells #[] 3)).cell? ((⟨g, 0, none⟩ : Addr).add j) = some u) := clone15_news h
    have HI : Hid (Yba.prog.info? 3 = some i) := hi
    have HZ : Hid (i.zero = some (.int .i64 0) ∧ i.size = 1 ∧ i.bytes = 8) := hzz
    have HE : Hid ((w.alloc (.cells #[] 3)).ownsRow w.heap.size 3 1 (.slice (some ⟨w.heap.size, 0, none⟩) 0 0) 0 []) :=
      ⟨rfl, .inr ⟨w.heap.size, 0, #[], rfl, Nat.le_refl _, (MapKept.heap_alloc w _).1, Nat.le_refl _, Nat.zero_le _, rfl, rfl⟩⟩
    have HB : Hid (xs.length ≤ 100000) := hb
    obtain ⟨m, hm⟩ : ∃ m, m = xs.length := ⟨_, rfl⟩
    have HM : Hid (m = xs.length) := hm
    rw [← hm] at hb hz ⊢
    have HLN : Hid ((intVals xs).length = m * 1) := by rw [hm]; exact (by simp [intVals] : (intVals xs).length = xs.length * 1)
    clear hzz hi h0 h hm
    go_enter Yba.func15, Yba.ntmps15
    go_wp2_with (first
      | (at_builtin
         refine wpList_append_own _ rfl (.tmp 5) (.tmp 6) 48 rfl w.heap.size 3 i _ 1 8 Yba.underlying48 HI.out HZ.out.1 HZ.out.2.1 HZ.out.2.2 rfl (by decide) _ 0 [] rfl HE.out ⟨g, 0, none⟩ m C (intVals xs) rfl HLN.out HN.out (intVals_one xs) (by unfold maxLen; omega) (by omega) (by simp) ?_
         intro v' w1 hown hg hnil
         have HOW : Hid (OwnI w1 w.heap.size v' xs) := by unfold OwnI; rw [HM.out, Nat.zero_add, List.nil_append] at hown; exact hown
         have HG : Hid ((w.alloc (.cells #[] 3)).grownBy w1 (some w.heap.size)) := hg
         have HNIL : Hid (v' ≠ .slice none 0 0) := fun e => by have := (hnil.1 e).1; cases this
         clear hown hg hnil))
    go_ret
    obtain ⟨A', C', hv, hat⟩ := HOW.out.shape
    have hA : A'.isNone = (m == 0) := by
      rw [show (m == 0) = false by simpa using hz]
      obtain ⟨g2, e2, _⟩ := hat 0 (by have := HM.out; omega)
      rw [e2]; rfl
    refine ⟨A', C', ?_, hat, hA, ((Below.refl _ _).alloc (Nat.le_refl _) _).grown HG.out (by simp) (fun k e => by cases e; exact Nat.le_refl _)⟩
    show Ending.returned v' = _
    rw [hv, HM.out]

set_option maxHeartbeats 800000 in
theorem equal17_walk (A A2 : Option Addr) (C C2 : Nat) (n : Nat) (O : Nat → Opr) (w : World) (hb : n ≤ 100000) (h1 : OpsAt w A n O) (h2 : OpsAt w A2 n O) :
    Calls Yba.prog 17 #[.slice A n C, .slice A2 n C2] w fun e w' => e = .returned (.bool true) ∧ ∃ n, w' = w.drewN n := by
  have H1 : Hid (OpsAt w A n O) := h1
  have H2 : Hid (OpsAt w A2 n O) := h2
  obtain ⟨m, hm⟩ : ∃ m, m = n := ⟨_, rfl⟩
  have HM : Hid (m = n) := hm
  rw [← hm] at hb ⊢
  clear h1 h2 hm
  go_enter Yba.func17, Yba.ntmps17
  go_wp2
  go_loopw [13] (fun i wr => ∃ j n : Nat, j ≤ m ∧ i = .int .i64 j ∧ wr = w.drewN n) (fun i _ => m - (intOf i).toNat)
  case atStart => exact ⟨0, 0, Nat.zero_le _, rfl, rfl⟩
  case round =>
    obtain ⟨j, n', hj, rfl, hw⟩ := hrel
    have HW : Hid (wr = w.drewN n') := hw
    have r1 : OpsAt wr A n O := by rw [hw]; exact H1.out
    have r2 : OpsAt wr A2 n O := by rw [hw]; exact H2.out
    clear hw
    by_cases hlt : j < m
    · have hlt' : (j : Int) < (m : Int) := by omega
      obtain ⟨g, rfl, a0, a1, a2, a3, a4, a5⟩ := r1 j (by rw [← HM.out]; exact hlt)
      obtain ⟨g2, rfl, b0, b1, b2, b3, b4, b5⟩ := r2 j (by rw [← HM.out]; exact hlt)
      clear r1 r2
      go_wp2
      go_quiet (fail)
      go_wp2
      go_roundw
      case rel => exact ⟨j + 1, n' + nq, by omega, by go_num, by rw [HW.out]; simp [World.drewN, Nat.add_assoc]⟩
      case measure => simp [intOf]; omega
    · have hlt' : ¬ (j : Int) < (m : Int) := by omega
      go_wp2
      go_ret
      exact ⟨rfl, n', HW.out⟩

set_option maxHeartbeats 800000 in
theorem equal18_walk (A A2 : Option Addr) (C C2 : Nat) (xs : List Nat) (w : World) (hb : xs.length ≤ 100000) (h1 : IntsAt w A xs) (h2 : IntsAt w A2 xs) :
    Calls Yba.prog 18 #[.slice A xs.length C, .slice A2 xs.length C2] w fun e w' => e = .returned (.bool true) ∧ ∃ n, w' = w.drewN n := by
  have H1 : Hid (IntsAt w A xs) := h1
  have H2 : Hid (IntsAt w A2 xs) := h2
  obtain ⟨m, hm⟩ : ∃ m, m = xs.length := ⟨_, rfl⟩
  have HM : Hid (m = xs.length) := hm
  rw [← hm] at hb ⊢
  clear h1 h2 hm
  go_enter Yba.func18, Yba.ntmps18
  go_wp2
  go_loopw [13] (fun i wr => ∃ j n : Nat, j ≤ m ∧ i = .int .i64 j ∧ wr = w.drewN n) (fun i _ => m - (intOf i).toNat)
  case atStart => exact ⟨0, 0, Nat.zero_le _, rfl, rfl⟩
  case round =>
    obtain ⟨j, n', hj, rfl, hw⟩ := hrel
    have HW : Hid (wr = w.drewN n') := hw
    have r1 : IntsAt wr A xs := by rw [hw]; exact H1.out
    have r2 : IntsAt wr A2 xs := by rw [hw]; exact H2.out
    clear hw
    by_cases hlt : j < m
    · have hlt' : (j : Int) < (m : Int) := by omega
      obtain ⟨g, rfl, a0⟩ := r1 j (by rw [← HM.out]; exact hlt)
      obtain ⟨g2, rfl, b0⟩ := r2 j (by rw [← HM.out]; exact hlt)
      clear r1 r2
      go_wp2
      go_quiet (fail)
      go_wp2
      go_roundw
      case rel => exact ⟨j + 1, n' + nq, by omega, by go_num, by rw [HW.out]; simp [World.drewN, Nat.add_assoc]⟩
      case measure => simp [intOf]; omega
    · have hlt' : ¬ (j : Int) < (m : Int) := by omega
      go_wp2
      go_ret
      exact ⟨rfl, n', HW.out⟩
end Go.Proofs.Ybulkdkuc.Sc
