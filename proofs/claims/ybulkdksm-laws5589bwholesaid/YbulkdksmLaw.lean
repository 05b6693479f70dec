/-
  LawS5589BWhole (function 3), walked.
-/
import Derived.Test.YbulkdksmRows
import Derived.Test.YbulkdksmPlain
import Derived.Test.YbulkdksmMem
import Derived.Test.YbulkdksmInsert
import Derived.Test.YbulkdksmFind
import Derived.Test.YbulkdksmContains
import Derived.Test.YbulkdksmClone
import Derived.Test.YbulkdksmEqual
import Derived.WalkKit
import Derived.WalkSpells
import Derived.WalkLawsBesides
import Derived.Deep.QuietTactic
import Derived.BigQuiet
import Derived.Deep.LoopGhost
namespace Go.Proofs.Ybulkdksm.Tb
open Go.RowKit

set_option maxHeartbeats 400000 in
theorem law_long (a : Option Addr) (len cap : Nat) (q : Int) (w : World) (h : 2048 < len) :
    Calls Yba.prog 3 #[.slice a len cap, .int .u64 q] w fun e w' => e = .returned (.bool true) ∧ Below w.heap.size w w' := by
  have h' : (2048 : Int) < (len : Int) := by omega
  go_enter Yba.func3, Yba.ntmps3
  go_wp2
  go_ret
  exact ⟨rfl, Below.refl _ _⟩

/-- What the walk is told of the keys that came in. -/
def IsKeys (w : World) (a : Option Addr) (len : Nat) (Z : Nat → Nat) : Prop :=
  (0 < len → ∃ b off, a = some ⟨b, off, none⟩ ∧ ∀ i, i < len → w.cell? ⟨b, off + i, none⟩ = some (.int .u64 (Z i))) ∧ ∀ i, Z i < 18446744073709551616

theorem hid_of {p : Prop} (h : p) : Hid p := h

/-! ### the keys gathered so far -/
def vals (xs : List Nat) : List Value := xs.map fun (x : Nat) => Value.int .u64 (x : Int)
theorem vals_length (xs : List Nat) : (vals xs).length = xs.length := by simp [vals]
theorem vals_snoc (xs : List Nat) (z : Nat) : vals xs ++ [.int .u64 (z : Int)] = vals (xs ++ [z]) := by simp [vals]

/-- v is the call's own slice of the keys xs. -/
def Own (w : World) (B : Nat) (v : Value) (xs : List Nat) : Prop := w.ownsRow B 23 1 v xs.length (vals xs)

theorem Own.reads {w : World} {B : Nat} {v : Value} {xs : List Nat} (h : Own w B v xs) : Reads w v xs := by
  obtain ⟨_, ⟨rfl, h0⟩ | ⟨g, cap, cur, rfl, hb, hg, h1, h2, h3, h4⟩⟩ := h
  · exact .inl ⟨rfl, List.eq_nil_of_length_eq_zero h0⟩
  · refine .inr ⟨g, cap, rfl, fun i hi => ?_⟩
    rw [cell_of hg]
    have h5 := congrArg (fun l : List Value => l[i]?) h4
    simp only [Nat.mul_one, List.getElem?_take, hi, if_true, Array.getElem?_toList, vals] at h5
    rw [h5]
    simp [hi]

theorem Own.shape {w : World} {B : Nat} {v : Value} {xs : List Nat} (h : Own w B v xs) : ∃ A C, v = .slice A xs.length C := by
  obtain ⟨_, ⟨rfl, h0⟩ | ⟨g, cap, cur, rfl, _⟩⟩ := h
  · exact ⟨none, 0, by rw [h0]⟩
  · exact ⟨_, cap, rfl⟩

theorem Own.kept {S : Nat → Prop} {w w' : World} {B : Nat} {v : Value} {xs : List Nat} (h : Own w B v xs) (hk : Kept S w w') (hn : ∀ g cur, w.heap[g]? = some (.cells cur 23 (0, 0)) → ¬ S g) : Own w' B v xs := by
  obtain ⟨hl, h0 | ⟨g, cap, cur, e, hb, hg, r⟩⟩ := h
  · exact ⟨hl, .inl h0⟩
  · exact ⟨hl, .inr ⟨g, cap, cur, e, hb, (hk.block g (lt_of hg) (hn g cur hg)).trans hg, r⟩⟩

theorem Own.block {w : World} {B : Nat} {v : Value} {xs : List Nat} (h : Own w B v xs) (g : Nat) (e : v.ownBlock = some g) : B ≤ g ∧ ∃ cur, w.heap[g]? = some (.cells cur 23 (0, 0)) := by
  obtain ⟨_, ⟨rfl, _⟩ | ⟨g', cap, cur, rfl, hb, hg, _⟩⟩ := h
  · cases e
  · cases e; exact ⟨hb, cur, hg⟩

theorem TabOk.kept {S : Nat → Prop} {w w' : World} {bt n m bs : Nat} {T : Nat → Slot} (h : TabOk w bt n m bs T) (hk : Kept S w w') (h1 : ¬ S bt) (h2 : 0 < m → ¬ S bs) : TabOk w' bt n m bs T :=
  ⟨h.hdr.kept hk h1, fun hm => (h.row hm).kept hk (h2 hm), h.pow, h.wf, h.cnt, h.load, h.big⟩

/-- No block of keys is a block of the table. -/
theorem TabOk.apart {w : World} {bt n m bs g : Nat} {T : Nat → Slot} {cur : Array Value} (h : TabOk w bt n m bs T) (hg : w.heap[g]? = some (.cells cur 23 (0, 0))) : ¬ (g = bt ∨ (0 < m ∧ g = bs)) := by
  rintro (rfl | ⟨hm, rfl⟩)
  · have := h.hdr; unfold Hdr at this; rw [hg] at this; simp at this
  · obtain ⟨C, hC, _⟩ := h.row hm; rw [hg] at hC; simp at hC

theorem info23 : (Yba.prog.info? 23).map (fun i => (i.zero, i.size, i.bytes)) = some (some (.int .u64 0), 1, 8) := by kernel_rfl

theorem one_u64 (x : Int) : ∀ u ∈ [Value.int .u64 x], u.oneCell' = true := fun u hu => by rw [List.mem_singleton] at hu; subst hu; rfl
theorem len_ok {n : Nat} (h : n < 2048) : n + 1 ≤ maxLen := by unfold maxLen; omega
theorem len_bytes {n : Nat} (h : n < 2048) : (n + 1) * 8 ≤ 140737488355328 := by omega

/-- What holds at the head of each round: the keys xs so far, each once and not 0, in the call's own slice v and in the table. -/
structure Rel (w : World) (j : Nat) (xs : List Nat) (m bs : Nat) (T : Nat → Slot) (v : Value) (wr : World) : Prop where
  few : xs.length ≤ j
  own : Own wr w.heap.size v xs
  tab : TabOk wr w.heap.size xs.length m bs T
  has : ∀ k, k ≠ 0 → (Has m T k ↔ k ∈ xs)
  nz : 0 ∉ xs
  emp : xs = [] → m = 0
  below : Below w.heap.size w wr
  new : 0 < m → w.heap.size ≤ bs

theorem rel_start (w : World) : Rel w 0 [] 0 0 (fun _ => nilSlot) (.slice none 0 0) (w.alloc (.cells #[.slice none 0 0, .int .i64 0, .int .u64 0, .int .i64 0] 30)) where
  few := Nat.le_refl _
  own := ⟨rfl, .inl ⟨rfl, rfl⟩⟩
  tab := { hdr := (by show (w.heap.push _)[w.heap.size]? = _; simp [slv]), row := fun h => by omega, pow := .inl rfl, wf := WF.none 0, cnt := rfl, load := by simp, big := by omega }
  has := fun k _ => ⟨fun ⟨_, h, _⟩ => by omega, fun h => by cases h⟩
  nz := by simp
  emp := fun _ => rfl
  below := (Below.refl _ _).alloc (Nat.le_refl _) _
  new := fun h => by omega

theorem Rel.skip {w wr : World} {j m bs : Nat} {xs : List Nat} {T : Nat → Slot} {v : Value} (h : Rel w j xs m bs T v wr) : Rel w (j + 1) xs m bs T v wr :=
  { h with few := by have := h.few; omega }

/-- A new key: inserted, then appended. -/
theorem Rel.step {w wr w1 w2 : World} {j m bs m' bs' z : Nat} {xs : List Nat} {T T' : Nat → Slot} {v v' : Value} {o : Obj} (h : Rel w j xs m bs T v wr)
    (hz : z ≠ 0) (h1 : TabOk w1 w.heap.size (xs.length + 1) m' bs' T') (h2 : ∀ k', k' ≠ 0 → (Has m' T' k' ↔ Has m T k' ∨ k' = z)) (h3 : Kept (fun x => x = w.heap.size ∨ (0 < m ∧ x = bs)) wr w1) (h4 : bs' = bs ∧ m' = m ∨ wr.heap.size ≤ bs')
    (h5 : w2.ownsRow w.heap.size 23 1 v' (xs.length + 1) (vals xs ++ [.int .u64 (z : Int)])) (h6 : (w1.alloc o).grownBy w2 v.ownBlock) : Rel w (j + 1) (xs ++ [z]) m' bs' T' v' w2 := by
  have hown1 : Own w1 w.heap.size v xs := h.own.kept h3 (fun g cur hg => h.tab.apart hg)
  have hown2 : Own (w1.alloc o) w.heap.size v xs := hown1.kept (Kept.alloc (fun _ => False) _ _) (fun _ _ _ h => h)
  have htab2 : TabOk (w1.alloc o) w.heap.size (xs.length + 1) m' bs' T' := h1.kept (Kept.alloc (fun _ => False) _ _) (fun h => h) (fun _ h => h)
  have kg : Kept (fun x => v.ownBlock = some x) (w1.alloc o) w2 := Kept.grown h6 (fun k e => e)
  have hnot : ∀ x, v.ownBlock = some x → ¬ (x = w.heap.size ∨ (0 < m' ∧ x = bs')) := fun x e => by
    obtain ⟨_, cur, hc⟩ := hown2.block x e
    exact htab2.apart hc
  have hsz := h.below.size
  refine ⟨by have := h.few; simp; omega, ?_, ?_, fun k hk => ?_, ?_, by simp, ?_, fun hm' => ?_⟩
  · show w2.ownsRow w.heap.size 23 1 v' (xs ++ [z]).length (vals (xs ++ [z]))
    rw [← vals_snoc]
    simpa using h5
  · have := htab2.kept kg (fun e => hnot _ e (.inl rfl)) (fun hm e => hnot _ e (.inr ⟨hm, rfl⟩))
    simpa using this
  · rw [h2 k hk, h.has k hk]; simp
  · simp; exact ⟨h.nz, fun e => hz e.symm⟩
  · have b1 : Below w.heap.size wr w1 := h3.below hsz (fun k hk => by
      rcases hk with rfl | ⟨hm, rfl⟩
      · exact Nat.le_refl _
      · exact h.new hm)
    have b2 : Below w.heap.size w (w1.alloc o) := (h.below.trans b1).alloc (by have := b1.size; omega) o
    exact b2.trans (kg.below (by have := b2.size; omega) (fun k e => (hown2.block k e).1))
  · rcases h4 with ⟨rfl, rfl⟩ | h4
    · exact h.new hm'
    · omega

set_option maxHeartbeats 1000000 in
theorem law_short (a : Option Addr) (len cap q : Nat) (Z : Nat → Nat) (w : World) (hl : len ≤ 2048) (hq : q < 18446744073709551616) (hk : IsKeys w a len Z) :
    Calls Yba.prog 3 #[.slice a len cap, .int .u64 q] w fun e w' => e = .returned (.bool true) ∧ Below w.heap.size w w' := by
  have hl' : ¬ (2048 : Int) < (len : Int) := by omega
  have HK : Hid (IsKeys w a len Z) := hk
  obtain ⟨ti, hti, hzz⟩ := Option.map_eq_some_iff.1 info23
  simp only [Prod.mk.injEq] at hzz
  have HI : Hid (Yba.prog.info? 23 = some ti ∧ ti.zero = some (.int .u64 0) ∧ ti.size = 1 ∧ ti.bytes = 8) := ⟨hti, hzz⟩
  clear hk hti hzz
  go_enter Yba.func3, Yba.ntmps3
  go_wp2
  go_loopg [6, 26] len (fun g v i wr => ∃ (j : Nat) (xs : List Nat) (m bs : Nat) (T : Nat → Slot), Hid (j + g = len) ∧ i = .int .i64 j ∧ Hid (Rel w j xs m bs T v wr))
  case atStart => exact ⟨0, [], 0, 0, _, show 0 + len = len by omega, rfl, rel_start w⟩
  case round =>
    obtain ⟨j, xs, m, bs, T, hg, rfl, hR⟩ := hrel
    have hj : j ≤ len := by have := hg.out; omega
    by_cases hlt : j < len
    · have hlt' : (j : Int) < (len : Int) := by omega
      obtain ⟨b, off, ha, hcell⟩ := HK.out.1 (by omega)
      have hcj : wr.cell? ⟨b, off + j, none⟩ = some (.int .u64 (Z j)) := (hR.out.below.cell (World.block_lt_of_cell? w _ (hcell j hlt))).trans (hcell j hlt)
      have hzj := HK.out.2 j
      subst ha
      clear hcell
      have hxl : xs.length ≤ 2048 := by have := hR.out.few; omega
      by_cases hz : Z j = 0
      · have hz' : ((Z j : Int) == 0) = true := by simp; omega
        go_wp2
        go_roundg (len - (j + 1))
        case rel => exact ⟨j + 1, xs, m, bs, T, show j + 1 + (len - (j + 1)) = len by omega, by go_num, hR.out.skip⟩
        case measure => have := hg.out; omega
      · have hz' : ((Z j : Int) == 0) = false := by simp; omega
        by_cases hin : Z j ∈ xs
        · have hin' : decide (Z j ∈ xs) = true := decide_eq_true hin
          have HCt : Hid (Reads wr u6 xs) := hR.out.own.reads
          clear hin
          go_wp2_with (first
            | (go_at_call 4
               refine (contains_any _ xs _ _ hxl HCt.out).mono ?_
               rintro e w1 ⟨rfl, rfl⟩))
          go_roundg (len - (j + 1))
          case rel => exact ⟨j + 1, xs, m, bs, T, show j + 1 + (len - (j + 1)) = len by omega, by go_num, hR.out.skip⟩
          case measure => have := hg.out; omega
        · have hin' : decide (Z j ∈ xs) = false := decide_eq_false hin
          have HCt : Hid (Reads wr u6 xs) := hR.out.own.reads
          have hnh : ¬ Has m T (Z j) := fun h => hin ((hR.out.has _ hz).1 h)
          have HN : Hid (¬ Has m T (Z j)) := hnh
          obtain ⟨A, C, hv⟩ := hR.out.own.shape
          subst hv
          have hx2 : xs.length < 2048 := by have := hR.out.few; omega
          clear hin hnh
          go_wp2_with (first
            | (go_at_call 4
               refine (contains_any _ xs _ _ hxl HCt.out).mono ?_
               rintro e w0 ⟨rfl, hw0⟩
               have hw0' := hw0.symm
               clear hw0
               subst hw0')
            | (go_at_call 5
               refine (insert_any _ bs m xs.length _ T _ _ _ _ hR.out.tab hz hzj hx2 HN.out).mono ?_
               rintro e w1 ⟨rfl, m', bs', T', h1, h2, h3, h4⟩
               have H1 : Hid (TabOk w1 w.heap.size (xs.length + 1) m' bs' T') := h1
               have H2 : Hid (∀ k', k' ≠ 0 → (Has m' T' k' ↔ Has m T k' ∨ k' = Z j)) := h2
               have H3 : Hid (Kept (fun x => x = w.heap.size ∨ (0 < m ∧ x = bs)) wr w1) := h3
               have H4 : Hid (bs' = bs ∧ m' = m ∨ wr.heap.size ≤ bs') := h4
               have HO : Hid ((w1.alloc (.cells #[.int .u64 (Z j : Int)] 23)).ownsRow w.heap.size 23 1 (.slice A xs.length C) xs.length (vals xs)) := (hR.out.own.kept h3 (fun g cur hg => hR.out.tab.apart hg)).kept (Kept.alloc (fun _ => False) _ _) (fun _ _ _ h => h)
               have HB : Hid (w.heap.size ≤ (w1.alloc (.cells #[.int .u64 (Z j : Int)] 23)).heap.size) := Nat.le_trans (Nat.le_trans hR.out.below.size h3.size) (Kept.alloc (fun _ => False) w1 _).size
               clear h1 h2 h3 h4)
            | (at_builtin
               refine wpList_append_own _ rfl (.tmp 45) (.tmp 47) 22 rfl w.heap.size 23 ti _ 1 8 Yba.underlying22 HI.out.1 HI.out.2.1 HI.out.2.2.1 HI.out.2.2.2 rfl (by decide) _ xs.length (vals xs) rfl HO.out ⟨w1.heap.size, 0, none⟩ 1 1 [.int .u64 (Z j : Int)] rfl rfl (cell_one_new _ _ _) (one_u64 _) (len_ok hx2) (len_bytes hx2) HB.out ?_
               intro v' w2 hown hgb hnil
               clear hnil
               have HOW : Hid (w2.ownsRow w.heap.size 23 1 v' (xs.length + 1) (vals xs ++ [.int .u64 (Z j : Int)])) := hown
               have HG : Hid ((w1.alloc (.cells #[.int .u64 (Z j : Int)] 23)).grownBy w2 (Value.slice A xs.length C).ownBlock) := hgb
               clear hown hgb
               refine Hid.out ?_))
          refine hid_of ?_
          go_wp2
          go_roundg (len - (j + 1))
          case rel => exact ⟨j + 1, xs ++ [Z j], m', bs', T', show j + 1 + (len - (j + 1)) = len by omega, by go_num, hR.out.step hz H1.out H2.out H3.out H4.out HOW.out HG.out⟩
          case measure => have := hg.out; omega
    · have hlt' : ¬ (j : Int) < (len : Int) := by omega
      have hxl : xs.length ≤ 2048 := by have := hR.out.few; omega
      obtain ⟨A, C, hv⟩ := hR.out.own.shape
      subst hv
      by_cases hxs : xs = []
      · obtain rfl : m = 0 := hR.out.emp hxs
        subst hxs
        have hh : Hid (Hdr wr w.heap.size (.slice none 0 0) 0) := hR.out.tab.hdr
        obtain ⟨c0, c1, c2, c3⟩ := hh.out.cells
        go_wp2_with (first
          | (go_at_call 6
             refine (clone_nil _).mono ?_
             rintro e w0 ⟨rfl, hw0⟩
             have hw0' := hw0.symm
             clear hw0
             subst hw0')
          | (go_at_call 7
             refine (find_none _ _ _ _ (hh.out.kept (Kept.alloc (fun _ => False) _ _) (fun h => h))).mono ?_
             rintro e w1 ⟨rfl, hw1⟩
             refine Hid.out ?_))
        have hX : Hdr (wr.alloc (.cells #[.int .u64 0] 27)) w.heap.size (.slice none 0 0) 0 := hh.out.kept (Kept.alloc (fun _ => False) _ _) (fun h => h)
        obtain ⟨d0, d1, d2, d3⟩ := hX.cells
        have sX : (wr.alloc (.cells #[.int .u64 0] 27)).cell? ⟨wr.heap.size, 0, none⟩ = some (.int .u64 0) := by simp
        have kX : Hid (Below w.heap.size w (wr.alloc (.cells #[.int .u64 0] 27))) := hR.out.below.alloc hR.out.below.size _
        clear hw1 hX c0 c1 c2 c3
        generalize wr.alloc (.cells #[.int .u64 0] 27) = X at *
        refine hid_of ?_
        go_wp2
        go_quiet ((go_at_call 8; exact Calls.quiet_of_same (equal_nil _)))
        go_wp2
        go_ret
        exact ⟨rfl, kX.out.trans ⟨rfl, rfl, rfl, Nat.le_refl _, fun _ _ => rfl⟩⟩
      · have hpos : 0 < xs.length := List.length_pos_iff.2 hxs
        have hload := hR.out.tab.load
        have hm : 0 < m := by omega
        have hbig := hR.out.tab.big
        have HT : Hid (TabOk wr w.heap.size xs.length m bs T) := hR.out.tab
        have hh : Hid (Hdr wr w.heap.size (.slice (some ⟨bs, 0, none⟩) m m) xs.length) := by rw [← slv_pos bs hm]; exact HT.out.hdr
        obtain ⟨c0, c1, c2, c3⟩ := hh.out.cells
        have hl1 : ((xs.length : Int) == 0) = false := by simp; exact hxs
        clear hload
        go_wp2_with (first
          | (go_at_call 6
             refine (clone_row bs m T _ hm hbig (HT.out.row hm)).mono ?_
             rintro e w1 ⟨⟨g, cap1, rfl, hg1, hrd, hgl⟩, hk1⟩
             have HT1 : Hid (TabOk w1 w.heap.size xs.length m bs T) := HT.out.kept hk1 (fun h => h) (fun _ h => h)
             have hh1 : Hid (Hdr w1 w.heap.size (.slice (some ⟨bs, 0, none⟩) m m) xs.length) := hh.out.kept hk1 (fun h => h)
             have HRD : Hid (RdRow w1 g m T) := hrd
             obtain ⟨d0, d1, d2, d3⟩ := hh1.out.cells
             have HO1 : Hid (Own w1 w.heap.size (.slice A xs.length C) xs) := hR.out.own.kept hk1 (fun _ _ _ h => h)
             have HB1 : Hid (Below w.heap.size w w1) := hR.out.below.trans (hk1.below hR.out.below.size (fun _ h => h.elim))
             clear hrd hk1)
          | (go_at_call 7
             refine (find_any _ bs m xs.length q T _ (HT1.out.kept (Kept.alloc (fun _ => False) _ _) (fun h => h) (fun _ h => h)) hpos hq).mono ?_
             rintro e w2 ⟨ri, rok, rfl, hans, hw2⟩
             have HA : Hid (Answer m T q ri rok) := hans
             clear hans
             refine Hid.out ?_))
        have kX : Kept (fun _ => False) w1 (w1.alloc (.cells #[.int .u64 0] 27)) := Kept.alloc _ _ _
        have hX : Hid (Hdr (w1.alloc (.cells #[.int .u64 0] 27)) w.heap.size (.slice (some ⟨bs, 0, none⟩) m m) xs.length) := hh1.out.kept kX (fun h => h)
        have sX : (w1.alloc (.cells #[.int .u64 0] 27)).cell? ⟨w1.heap.size, 0, none⟩ = some (.int .u64 0) := by simp
        have RG : Hid (RdRow (w1.alloc (.cells #[.int .u64 0] 27)) g m T) := fun i hi => by
          obtain ⟨e0, e1, e2, e3⟩ := HRD.out i hi
          have hb := ((Below.refl w1.heap.size w1).alloc (Nat.le_refl _) (.cells #[.int .u64 0] 27))
          exact ⟨(hb.cell hgl).trans e0, (hb.cell hgl).trans e1, (hb.cell hgl).trans e2, (hb.cell hgl).trans e3⟩
        have RS : Hid (RdRow (w1.alloc (.cells #[.int .u64 0] 27)) bs m T) := fun i hi => ((HT1.out.row hm).kept kX (fun h => h)).cells i hi
        have BX : Hid (Below w.heap.size w (w1.alloc (.cells #[.int .u64 0] 27))) := HB1.out.alloc HB1.out.size _
        have OX : Hid (Own (w1.alloc (.cells #[.int .u64 0] 27)) w.heap.size (.slice A xs.length C) xs) := (HO1.out).kept kX (fun _ _ _ h => h)
        have HHas : Hid (∀ k, k ≠ 0 → (Has m T k ↔ k ∈ xs)) := hR.out.has
        clear kX hw2 d0 d1 d2 d3 c0 c1 c2 c3 hh hh1 HT HT1 HRD HB1 HO1 hR hgl hg1
        generalize w1.alloc (.cells #[.int .u64 0] 27) = X at *
        obtain ⟨d0, d1, d2, d3⟩ := hX.out.cells
        have hpos' : (0 : Int) < (xs.length : Int) := by omega
        clear hX
        by_cases h0 : q = 0
        · have h0' : ((q : Int) == 0) = true := by simp; omega
          obtain ⟨rfl, hri, hkey, hfst⟩ : rok = true ∧ ri < m ∧ (T ri).key = q ∧ ∀ j, j < ri → (T j).key ≠ q := HA.out.resolve_right (fun h => h.2.2.1 h0)
          have HF : Hid ((T ri).key = q ∧ ∀ j, j < ri → (T j).key ≠ q) := ⟨hkey, hfst⟩
          clear hkey hfst HA
          refine hid_of ?_
          go_wp2
          go_quiet ((go_at_call 8; exact Calls.quiet_of (equal_row g cap1 bs m m T _ hbig (RG.out.drew _) (RS.out.drew _))))
          have RQ : Hid (RdRow (X.drewN nq) g m T) := RG.out.drew _
          have BQ : Hid (Below w.heap.size w (X.drewN nq)) := BX.out.trans ⟨rfl, rfl, rfl, Nat.le_refl _, fun _ _ => rfl⟩
          clear RG RS BX OX d0 d1 d2 d3 sX
          generalize X.drewN nq = Y at *
          go_wp2
          go_loop [15, 16, 118] (fun wi wok i => ∃ k : Nat, k ≤ ri ∧ i = .int .i64 k ∧ wi = .int .i64 0 ∧ wok = .bool false) (fun _ _ i => m - (intOf i).toNat)
          case atStart => exact ⟨0, Nat.zero_le _, rfl, rfl, rfl⟩
          case round =>
            obtain ⟨k, hk, rfl, rfl, rfl⟩ := hrel
            have hkm : (k : Int) < (m : Int) := by omega
            have hck := (RQ.out k (by omega)).1
            by_cases e : k = ri
            · subst e
              have hz : (((T k).key : Int) == 0) = true := by have := HF.out.1; simp; omega
              go_wp2
              go_ret
              exact ⟨rfl, BQ.out⟩
            · have hz : (((T k).key : Int) == 0) = false := by have := HF.out.2 k (by omega); simp; omega
              go_wp2
              go_round
              case rel => exact ⟨k + 1, by omega, by go_num, rfl, rfl⟩
              case measure => simp [intOf]; omega
        · have h0' : ((q : Int) == 0) = false := by simp; omega
          by_cases hin : q ∈ xs
          · have hin' : decide (q ∈ xs) = true := decide_eq_true hin
            obtain ⟨rfl, hri, hkey, hfst⟩ : rok = true ∧ ri < m ∧ (T ri).key = q ∧ ∀ j, j < ri → (T j).key ≠ q := HA.out.resolve_right (fun h => h.2.2.2 ((HHas.out q h0).2 hin))
            have HF : Hid ((T ri).key = q ∧ ∀ j, j < ri → (T j).key ≠ q) := ⟨hkey, hfst⟩
            clear hkey hfst HA hin
            refine hid_of ?_
            go_wp2
            go_quiet ((go_at_call 8; exact Calls.quiet_of (equal_row g cap1 bs m m T _ hbig (RG.out.drew _) (RS.out.drew _))))
            have RQ : Hid (RdRow (X.drewN nq) g m T) := RG.out.drew _
            have BQ : Hid (Below w.heap.size w (X.drewN nq)) := BX.out.trans ⟨rfl, rfl, rfl, Nat.le_refl _, fun _ _ => rfl⟩
            have OQ : Hid (Reads (X.drewN nq) (.slice A xs.length C) xs) := (OX.out.kept (Kept.drew (fun _ => False) X nq) (fun _ _ _ h => h)).reads
            clear RG RS BX OX d0 d1 d2 d3 sX
            generalize X.drewN nq = Y at *
            go_wp2_with (first
              | (go_at_call 4
                 refine (contains_any _ xs _ _ hxl OQ.out).mono ?_
                 rintro e w0 ⟨rfl, hw0⟩
                 have hw0' := hw0.symm
                 clear hw0
                 subst hw0'))
            go_loop [15, 16, 134] (fun wi wok i => ∃ k : Nat, k ≤ ri ∧ i = .int .i64 k ∧ wi = .int .i64 0 ∧ wok = .bool false) (fun _ _ i => m - (intOf i).toNat)
            case atStart => exact ⟨0, Nat.zero_le _, rfl, rfl, rfl⟩
            case round =>
              obtain ⟨k, hk, rfl, rfl, rfl⟩ := hrel
              have hkm : (k : Int) < (m : Int) := by omega
              have hck := (RQ.out k (by omega)).1
              by_cases e : k = ri
              · subst e
                have hz : (((T k).key : Int) == (q : Int)) = true := by have := HF.out.1; simp; omega
                go_wp2
                go_ret
                exact ⟨rfl, BQ.out⟩
              · have hz : (((T k).key : Int) == (q : Int)) = false := by have := HF.out.2 k (by omega); simp; omega
                go_wp2
                go_round
                case rel => exact ⟨k + 1, by omega, by go_num, rfl, rfl⟩
                case measure => simp [intOf]; omega
          · have hin' : decide (q ∈ xs) = false := decide_eq_false hin
            obtain ⟨rfl, rfl, _, _⟩ : rok = false ∧ ri = 0 ∧ q ≠ 0 ∧ ¬ Has m T q := HA.out.resolve_left (fun h => hin ((HHas.out q h0).1 ⟨ri, h.2.1, h.2.2.1⟩))
            clear HA hin
            refine hid_of ?_
            go_wp2
            go_quiet ((go_at_call 8; exact Calls.quiet_of (equal_row g cap1 bs m m T _ hbig (RG.out.drew _) (RS.out.drew _))))
            have BQ : Hid (Below w.heap.size w (X.drewN nq)) := BX.out.trans ⟨rfl, rfl, rfl, Nat.le_refl _, fun _ _ => rfl⟩
            have OQ : Hid (Reads (X.drewN nq) (.slice A xs.length C) xs) := (OX.out.kept (Kept.drew (fun _ => False) X nq) (fun _ _ _ h => h)).reads
            clear RG RS BX OX d0 d1 d2 d3 sX
            generalize X.drewN nq = Y at *
            go_wp2_with (first
              | (go_at_call 4
                 refine (contains_any _ xs _ _ hxl OQ.out).mono ?_
                 rintro e w0 ⟨rfl, hw0⟩
                 have hw0' := hw0.symm
                 clear hw0
                 subst hw0'))
            go_ret
            exact ⟨rfl, BQ.out⟩
end Go.Proofs.Ybulkdksm.Tb
