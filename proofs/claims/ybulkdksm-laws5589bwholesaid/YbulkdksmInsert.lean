/-
  insert (function 5), walked: with room, and where the table grows.
-/
import Derived.Test.YbulkdksmRows
import Derived.Test.YbulkdksmPlain
import Derived.Test.YbulkdksmMem
import Derived.Test.YbulkdksmPlace
import Derived.WalkKit
import Derived.WalkSpells
import Derived.WalkLawsBesides
import Derived.Deep.QuietTactic
import Derived.BigQuiet
namespace Go.Proofs.Ybulkdksm.Tb
open Go.RowKit

def slv (m bs : Nat) : Value := if m = 0 then .slice none 0 0 else .slice (some ⟨bs, 0, none⟩) m m
theorem slv_pos {m : Nat} (bs : Nat) (h : 0 < m) : slv m bs = .slice (some ⟨bs, 0, none⟩) m m := by unfold slv; rw [if_neg (by omega)]

/-- The table whole: in memory, in order, with n of its m slots taken. -/
structure TabOk (w : World) (bt n m bs : Nat) (T : Nat → Slot) : Prop where
  hdr : Hdr w bt (slv m bs) n
  row : 0 < m → Row w bs m T
  pow : m = 0 ∨ (16 ≤ m ∧ Pow m)
  wf : WF m T
  cnt : cnt T m = n
  load : 4 * n ≤ 3 * m
  big : m ≤ 8192

/-- The table behind place and 'used++'. -/
theorem tab_after {w : World} {bt bs n m D : Nat} {T : Nat → Slot} {s : Slot} (H : Hdr w bt (.slice (some ⟨bs, 0, none⟩) m m) n) (R : Row w bs m (upd T ((s.key + D) % m) s)) (hp : 16 ≤ m ∧ Pow m) (hw : WF m T) (hc : Tb.cnt T m = n)
    (hl : 4 * (n + 1) ≤ 3 * m) (hb : m ≤ 8192) (hf : Free m T s.key D) (h0 : s.key ≠ 0) (hs : s.key < 18446744073709551616) (hn : ¬ Has m T s.key) :
    TabOk (w.setCell ⟨bt, 1, none⟩ (.int .i64 ((n : Int) + 1))) bt (n + 1) m bs (upd T ((s.key + D) % m) s) where
  hdr := by rw [slv_pos bs hp.2.pos]; exact H.used (n + 1)
  row := fun _ => R.of_block (Below.heap_setCell _ _ _ _ (H.ne R).symm)
  pow := .inr hp
  wf := hw.place hf h0 hs hn
  cnt := by rw [cnt_place hf h0, hc]
  load := hl
  big := hb

set_option maxHeartbeats 1000000 in
theorem insert_room (bt bs m n k : Nat) (T : Nat → Slot) (a b c : Int) (w : World) (hT : TabOk w bt n m bs T) (hroom : 4 * (n + 1) ≤ 3 * m) (hk0 : k ≠ 0) (hk : k < 18446744073709551616) (hn : n < 2048) (hh : ¬ Has m T k) :
    Calls Yba.prog 5 #[.pointer (some ⟨bt, 0, none⟩), .int .u64 k, .agg #[.int .u64 a, .int .u32 b, .int .u32 c]] w fun e w' =>
      e = .returned (.tuple #[]) ∧ ∃ T', TabOk w' bt (n + 1) m bs T' ∧ (∀ k', k' ≠ 0 → (Has m T' k' ↔ Has m T k' ∨ k' = k)) ∧ Kept (fun x => x = bt ∨ x = bs) w w' := by
  have hm : 0 < m := by omega
  obtain ⟨hm16, hp⟩ := hT.pow.resolve_left (by omega)
  obtain ⟨D, hD⟩ := free_of (T := T) (m := m) (by rw [hT.cnt]; omega) k
  have hhd : Hdr w bt (.slice (some ⟨bs, 0, none⟩) m m) n := by rw [← slv_pos bs hm]; exact hT.hdr
  have hrow := hT.row hm
  have hbig := hT.big
  obtain ⟨W, hW⟩ : ∃ W, W = w.alloc (.cells #[.int .u64 a, .int .u32 b, .int .u32 c] 35) := ⟨_, rfl⟩
  have kW : Kept (fun _ => False) w W := by rw [hW]; exact Kept.alloc _ _ _
  have hhW := hhd.kept kW (fun h => h)
  have hrW := hrow.kept kW (fun h => h)
  obtain ⟨c0, c1, _, _⟩ := hhW.cells
  have b0 : W.cell? ⟨w.heap.size, 0, none⟩ = some (.int .u64 a) := by rw [hW]; simp
  have b1 : W.cell? ⟨w.heap.size, 1, none⟩ = some (.int .u32 b) := by rw [hW]; simp
  have b2 : W.cell? ⟨w.heap.size, 2, none⟩ = some (.int .u32 c) := by rw [hW]; simp
  have hr1 : ¬ (3 : Int) * (m : Int) < 4 * ((n : Int) + 1) := by omega
  have hne : ¬ bt = bs := hhW.ne hrW
  have HT : Hid (TabOk w bt n m bs T) := hT
  have HD : Hid (Free m T k D) := hD
  have HP : Hid (Pow m) := hp
  have H1 : Hid (Hdr W bt (.slice (some ⟨bs, 0, none⟩) m m) n) := hhW
  have H2 : Hid (Row W bs m T) := hrW
  have H3 : Hid (¬ Has m T k) := hh
  have KW : Hid (Kept (fun _ => False) w W) := kW
  clear hT hD hp hhW hrW hhd hrow hh kW
  go_enter Yba.func5, Yba.ntmps5
  go_wp2
  rw [← hW]
  clear hW
  go_quiet (fail)
  go_wp2_with (first
    | (go_at_call 10
       refine (place_any bt bs m n T ⟨k, a, b, c⟩ D _ HP.out hbig hk HD.out (H1.out.kept (Kept.drew (fun _ => False) _ _) (fun h => h)) (H2.out.kept (Kept.drew (fun _ => False) _ _) (fun h => h))).mono ?_
       rintro e w1 ⟨rfl, hR1, hk1⟩
       have HH1 : Hid (Hdr w1 bt (.slice (some ⟨bs, 0, none⟩) m m) n) := (H1.out.kept (Kept.drew (fun _ => False) _ _) (fun h => h)).kept hk1 hne
       have d1 := HH1.out.cells.2.1
       have f1 := HH1.out.frozen 1))
  go_end0
  refine ⟨rfl, _, tab_after (s := ⟨k, a, b, c⟩) HH1.out hR1 ⟨hm16, HP.out⟩ HT.out.wf HT.out.cnt hroom hbig HD.out hk0 hk H3.out, fun k' hk' => has_place (s := ⟨k, a, b, c⟩) HD.out hk', ?_⟩
  exact (((KW.out.mono (fun _ _ h => h.elim)).trans (Kept.drew _ _ _)).trans (hk1.mono (fun _ _ h => .inr h))).trans (Kept.setCell _ _ _ (.inl rfl))

/-! ### the table grows -/
/-- The new table while the old one is put into it, slot by slot. -/
structure Mid (m' : Nat) (T' T : Nat → Slot) (j : Nat) : Prop where
  wf : WF m' T'
  cnt : Tb.cnt T' m' = Tb.cnt T j
  has : ∀ k, k ≠ 0 → (Has m' T' k ↔ ∃ i, i < j ∧ (T i).key = k)

theorem Mid.start (m' : Nat) (T : Nat → Slot) : Mid m' (fun _ => nilSlot) T 0 where
  wf := WF.none m'
  cnt := cnt_none m'
  has := fun k hk => ⟨fun ⟨_, _, e⟩ => absurd e.symm hk, fun ⟨_, h, _⟩ => by omega⟩
theorem Mid.skip {m' j : Nat} {T' T : Nat → Slot} (h : Mid m' T' T j) (h0 : (T j).key = 0) : Mid m' T' T (j + 1) where
  wf := h.wf
  cnt := by rw [h.cnt]; show _ = Tb.cnt T j + _; rw [if_pos h0]; rfl
  has := fun k hk => (h.has k hk).trans ⟨fun ⟨i, hi, e⟩ => ⟨i, by omega, e⟩, fun ⟨i, hi, e⟩ => ⟨i, by
    rcases Nat.lt_or_ge i j with h' | h'
    · exact h'
    · obtain rfl : i = j := by omega
      exact absurd (e.symm.trans h0) hk, e⟩⟩
theorem Mid.place {m m' j D : Nat} {T' T : Nat → Slot} (h : Mid m' T' T j) (hw : WF m T) (hj : j < m) (h0 : (T j).key ≠ 0) (hf : Free m' T' (T j).key D) : Mid m' (upd T' (((T j).key + D) % m') (T j)) T (j + 1) where
  wf := h.wf.place hf h0 (hw.small j hj) (fun hh => by
    obtain ⟨i, hi, e⟩ := (h.has _ h0).1 hh
    have := hw.one i j (by omega) hj e (by rw [e]; exact h0)
    omega)
  cnt := by rw [cnt_place hf h0, h.cnt]; show _ = Tb.cnt T j + _; rw [if_neg h0]
  has := fun k hk => by
    rw [has_place hf hk, h.has k hk]
    constructor
    · rintro (⟨i, hi, e⟩ | rfl)
      · exact ⟨i, by omega, e⟩
      · exact ⟨j, by omega, rfl⟩
    · rintro ⟨i, hi, e⟩
      by_cases ei : i = j
      · subst ei; exact .inr e.symm
      · exact .inl ⟨i, by omega, e⟩

theorem info38 : (Yba.prog.info? 38).map (fun i => (i.zero, i.size, i.bytes)) = some (some (.agg #[.int .u64 0, .int .u64 0, .int .u32 0, .int .u32 0]), 4, 24) := by kernel_rfl

/-- A new row's cells. -/
def zeros (m : Nat) : Array Value := madeCells #[.int .u64 0, .int .u64 0, .int .u32 0, .int .u32 0] (m * 4)

theorem run_made (m : Nat) (hm : m ≤ 20000) (W : World) :
    (Instr.makeSlice 25 (.int .i64 m) (.int .i64 m)).run Yba.prog W = .ok (.slice (some ⟨W.heap.size, 0, none⟩) m m) (W.alloc (.cells (zeros m) 38)) := by
  obtain ⟨i, hi, hzz⟩ := Option.map_eq_some_iff.1 info38
  simp only [Prod.mk.injEq] at hzz
  obtain ⟨hz, hs, hb⟩ := hzz
  have h := run_make (P := Yba.prog) W 25 38 i _ Yba.underlying25 hi hz .i64 .i64 m m (by omega) (Int.le_refl _) (by rw [hb]; omega) (by omega)
  rw [hs, Int.toNat_natCast] at h
  exact h

theorem row_made (w : World) (m : Nat) : Row (w.alloc (.cells (zeros m) 38)) w.heap.size m (fun _ => nilSlot) := by
  refine ⟨zeros m, ?_, by unfold zeros; rw [size_madeCells], fun i hi => ?_⟩
  · show (w.heap.push _)[w.heap.size]? = _
    simp
  · have e : ∀ f, f < 4 → (zeros m)[i * 4 + f]? = some ((#[.int .u64 0, .int .u64 0, .int .u32 0, .int .u32 0] : Array Value)[f]!) := fun f hf => by
      have h1 : i * 4 + f < m * 4 := by omega
      have h2 : (i * 4 + f) % 4 = f := by omega
      simp [zeros, madeCells, h1, h2]
    exact ⟨e 0 (by omega), e 1 (by omega), e 2 (by omega), e 3 (by omega)⟩

set_option maxHeartbeats 1000000 in
theorem insert_grow (bt bs m n k : Nat) (T : Nat → Slot) (a b c : Int) (w : World) (hT : TabOk w bt n m bs T) (hm : 0 < m) (hroom : 3 * m < 4 * (n + 1)) (hk0 : k ≠ 0) (hk : k < 18446744073709551616) (hn : n < 2048) (hh : ¬ Has m T k) :
    Calls Yba.prog 5 #[.pointer (some ⟨bt, 0, none⟩), .int .u64 k, .agg #[.int .u64 a, .int .u32 b, .int .u32 c]] w fun e w' =>
      e = .returned (.tuple #[]) ∧ ∃ T', TabOk w' bt (n + 1) (2 * m) (w.heap.size + 1) T' ∧ (∀ k', k' ≠ 0 → (Has (2 * m) T' k' ↔ Has m T k' ∨ k' = k)) ∧ Kept (fun x => x = bt) w w' := by
  obtain ⟨hm16, hp⟩ := hT.pow.resolve_left (by omega)
  have hhd : Hdr w bt (.slice (some ⟨bs, 0, none⟩) m m) n := by rw [← slv_pos bs hm]; exact hT.hdr
  have hrow := hT.row hm
  have hbig := hT.big
  obtain ⟨W, hW⟩ : ∃ W, W = w.alloc (.cells #[.int .u64 a, .int .u32 b, .int .u32 c] 35) := ⟨_, rfl⟩
  have kW : Kept (fun _ => False) w W := by rw [hW]; exact Kept.alloc _ _ _
  have hhW := hhd.kept kW (fun h => h)
  have hrW := hrow.kept kW (fun h => h)
  have sW : W.heap.size = w.heap.size + 1 := by rw [hW]; simp
  have bW : W.heap[w.heap.size]? = some (.cells #[.int .u64 a, .int .u32 b, .int .u32 c] 35 (0, 0)) := by rw [hW]; show (w.heap.push _)[w.heap.size]? = _; simp
  obtain ⟨c0, c1, _, _⟩ := hhW.cells
  have f0 := hhW.frozen 0
  have hr1 : (3 : Int) * (m : Int) < 4 * ((n : Int) + 1) := by omega
  have hmk : ∀ W, (Instr.makeSlice 25 (.int .i64 (2 * (m : Int))) (.int .i64 (2 * (m : Int)))).run Yba.prog W = .ok (.slice (some ⟨W.heap.size, 0, none⟩) (2 * m) (2 * m)) (W.alloc (.cells (zeros (2 * m)) 38)) := fun W => by
    have h := run_made (2 * m) (by omega) W
    rw [show ((2 * m : Nat) : Int) = 2 * (m : Int) by omega] at h
    exact h
  have HT : Hid (TabOk w bt n m bs T) := hT
  have HP : Hid (Pow m) := hp
  have H1 : Hid (Hdr W bt (.slice (some ⟨bs, 0, none⟩) m m) n) := hhW
  have H2 : Hid (Row W bs m T) := hrW
  have H3 : Hid (¬ Has m T k) := hh
  have KW : Hid (Kept (fun _ => False) w W) := kW
  have BW : Hid (W.heap[w.heap.size]? = some (.cells #[.int .u64 a, .int .u32 b, .int .u32 c] 35 (0, 0))) := bW
  have SW : Hid (W.heap.size = w.heap.size + 1) := sW
  clear hT hp hhW hrW hhd hrow hh kW bW sW
  go_enter Yba.func5, Yba.ntmps5
  go_wp2
  rw [← hW]
  clear hW
  go_quiet (fail)
  have kX : Kept (fun _ => False) w (W.drewN nq) := KW.out.trans (Kept.drew _ _ _)
  have HX : Hid (Hdr (W.drewN nq) bt (.slice (some ⟨bs, 0, none⟩) m m) n) := H1.out
  have RX : Hid (Row (W.drewN nq) bs m T) := H2.out
  have BX : Hid ((W.drewN nq).heap[w.heap.size]? = some (.cells #[.int .u64 a, .int .u32 b, .int .u32 c] 35 (0, 0))) := BW.out
  have SX : Hid ((W.drewN nq).heap.size = w.heap.size + 1) := SW.out
  have KX : Hid (Kept (fun _ => False) w (W.drewN nq)) := kX
  clear kX H1 H2 KW BW SW
  generalize W.drewN nq = X at *
  have d0 : X.cell? ⟨bt, 0, none⟩ = some (.slice (some ⟨bs, 0, none⟩) m m) := HX.out.cells.1
  have d1 : ∀ o, (X.alloc o).cell? ⟨bt, 0, none⟩ = some (.slice (some ⟨bs, 0, none⟩) m m) := fun o => (HX.out.kept (Kept.alloc (fun _ => False) X o) (fun h => h)).cells.1
  have d2 : ∀ o, (X.alloc o).frozen? ⟨bt, 0, none⟩ = false := fun o => (HX.out.kept (Kept.alloc (fun _ => False) X o) (fun h => h)).frozen 0
  go_wp2
  obtain ⟨B, hB⟩ : ∃ B, B = X.heap.size := ⟨_, rfl⟩
  have hY0 : Hdr (X.alloc (.cells (zeros (2 * m)) 38)) bt (.slice (some ⟨bs, 0, none⟩) m m) n := HX.out.kept (Kept.alloc (fun _ => False) _ _) (fun h => h)
  have HY : Hid (Hdr ((X.alloc (.cells (zeros (2 * m)) 38)).setCell ⟨bt, 0, none⟩ (.slice (some ⟨B, 0, none⟩) (2 * m) (2 * m))) bt (.slice (some ⟨B, 0, none⟩) (2 * m) (2 * m)) n) := hY0.slots _
  have hbtX : bt < X.heap.size := HX.out.lt
  have hbsX : bs < X.heap.size := RX.out.lt
  have hne : bt ≠ bs := HX.out.ne RX.out
  have kY : Kept (fun x => x = bt) X ((X.alloc (.cells (zeros (2 * m)) 38)).setCell ⟨bt, 0, none⟩ (.slice (some ⟨B, 0, none⟩) (2 * m) (2 * m))) := (Kept.alloc _ _ _).trans (Kept.setCell _ _ _ rfl)
  have RY : Hid (Row ((X.alloc (.cells (zeros (2 * m)) 38)).setCell ⟨bt, 0, none⟩ (.slice (some ⟨B, 0, none⟩) (2 * m) (2 * m))) bs m T) := RX.out.kept kY (fun e => hne e.symm)
  have NY : Hid (Row ((X.alloc (.cells (zeros (2 * m)) 38)).setCell ⟨bt, 0, none⟩ (.slice (some ⟨B, 0, none⟩) (2 * m) (2 * m))) B (2 * m) (fun _ => nilSlot)) := by
    rw [hB]; exact (row_made X (2 * m)).of_block (Below.heap_setCell _ _ _ _ (by show X.heap.size ≠ bt; omega))
  have hcnt : bt ≠ w.heap.size := by rintro rfl; have h1 := HX.out; have h2 := BX.out; unfold Hdr at h1; rw [h1] at h2; simp at h2
  have BY : Hid (((X.alloc (.cells (zeros (2 * m)) 38)).setCell ⟨bt, 0, none⟩ (.slice (some ⟨B, 0, none⟩) (2 * m) (2 * m))).heap[w.heap.size]? = some (.cells #[.int .u64 a, .int .u32 b, .int .u32 c] 35 (0, 0))) := by
    refine Eq.trans (kY.block _ ?_ ?_) BX.out
    · rw [SX.out]; omega
    · exact fun e => hcnt e.symm
  have KY : Hid (Kept (fun x => x = bt) w ((X.alloc (.cells (zeros (2 * m)) 38)).setCell ⟨bt, 0, none⟩ (.slice (some ⟨B, 0, none⟩) (2 * m) (2 * m)))) := (KX.out.mono (fun _ _ h => h.elim)).trans kY
  have sB : B = w.heap.size + 1 := by rw [hB]; exact SX.out
  rw [← hB]
  clear kY hY0 d0 d1 d2 HX RX BX SX KX hmk
  have hbt : bt < B := by omega
  have hbs : bs < B := by omega
  clear hB hbtX hbsX
  generalize (X.alloc (.cells (zeros (2 * m)) 38)).setCell ⟨bt, 0, none⟩ (.slice (some ⟨B, 0, none⟩) (2 * m) (2 * m)) = Y at *
  have SB : Hid (B = w.heap.size + 1) := sB
  clear sB
  have hp2 : Pow (2 * m) := HP.out.double (by omega)
  have HP2 : Hid (Pow (2 * m)) := hp2
  clear hp2
  have hcn := HT.out.cnt
  have hw := HT.out.wf
  have HW : Hid (WF m T) := hw
  have HC : Hid (Tb.cnt T m = n) := hcn
  clear hw hcn
  go_loopw [36] (fun i wr => ∃ (j : Nat) (T' : Nat → Slot), j ≤ m ∧ i = .int .i64 j ∧ Hid (Mid (2 * m) T' T j) ∧ Hid (Row wr B (2 * m) T') ∧ Hid (Kept (fun x => x = B) Y wr)) (fun i _ => m - (intOf i).toNat)
  case atStart => exact ⟨0, _, Nat.zero_le _, rfl, Mid.start (2 * m) T, NY.out, Kept.refl _ _⟩
  case round =>
    obtain ⟨j, T', hj, rfl, hM, hR, hK⟩ := hrel
    have hH : Hid (Hdr wr bt (.slice (some ⟨B, 0, none⟩) (2 * m) (2 * m)) n) := HY.out.kept hK.out (by omega)
    have hfree : ∀ k', ∃ D, Free (2 * m) T' k' D := fun k' => free_of (by rw [hM.out.cnt]; have := cnt_mono T j m hj; have := HC.out; have := HT.out.load; omega) k'
    have HF : Hid (∀ k', ∃ D, Free (2 * m) T' k' D) := hfree
    clear hfree
    by_cases hlt : j < m
    · have hlt' : (j : Int) < (m : Int) := by omega
      obtain ⟨q0, q1, q2, q3⟩ := (RY.out.kept hK.out (show ¬ bs = B by omega)).cells j hlt
      by_cases hz : (T j).key = 0
      · have hz' : ((T j).key : Int) = 0 := by omega
        go_wp2
        go_roundw
        case rel => exact ⟨j + 1, T', by omega, by go_num, hM.out.skip hz, hR.out.kept (Kept.alloc (fun _ => False) _ _) (fun h => h), hK.out.trans (Kept.alloc _ _ _)⟩
        case measure => simp [intOf]; omega
      · have hz' : ¬ ((T j).key : Int) = 0 := by omega
        obtain ⟨D, hD⟩ := HF.out (T j).key
        have HD : Hid (Free (2 * m) T' (T j).key D) := hD
        have hks := HW.out.small j hlt
        clear hD
        go_wp2_with (first
          | (go_at_call 10
             refine (place_any bt B (2 * m) n T' (T j) D _ HP2.out (by omega) hks HD.out (hH.out.kept (Kept.alloc (fun _ => False) _ _) (fun h => h)) (hR.out.kept (Kept.alloc (fun _ => False) _ _) (fun h => h))).mono ?_
             rintro e w1 ⟨rfl, hR1, hk1⟩))
        go_roundw
        case rel => exact ⟨j + 1, _, by omega, by go_num, hM.out.place HW.out hlt hz HD.out, hR1, (hK.out.trans (Kept.alloc _ _ _)).trans hk1⟩
        case measure => simp [intOf]; omega
    · have hlt' : ¬ (j : Int) < (m : Int) := by omega
      obtain rfl : j = m := by omega
      have hbw : ¬ w.heap.size = B := by have := SB.out; omega
      have hbx : wr.heap[w.heap.size]? = some (.cells #[.int .u64 a, .int .u32 b, .int .u32 c] 35 (0, 0)) := (hK.out.block _ (lt_of BY.out) hbw).trans BY.out
      have x0 : wr.cell? ⟨w.heap.size, 0, none⟩ = some (.int .u64 a) := by rw [cell_of hbx]; rfl
      have x1 : wr.cell? ⟨w.heap.size, 1, none⟩ = some (.int .u32 b) := by rw [cell_of hbx]; rfl
      have x2 : wr.cell? ⟨w.heap.size, 2, none⟩ = some (.int .u32 c) := by rw [cell_of hbx]; rfl
      clear hbx
      obtain ⟨D, hD⟩ := HF.out k
      have HD : Hid (Free (2 * j) T' k D) := hD
      clear hD
      go_wp2_with (first
        | (go_at_call 10
           refine (place_any bt B (2 * j) n T' ⟨k, a, b, c⟩ D _ HP2.out (by omega) hk HD.out hH.out hR.out).mono ?_
           rintro e w1 ⟨rfl, hR1, hk1⟩
           have HH1 : Hid (Hdr w1 bt (.slice (some ⟨B, 0, none⟩) (2 * j) (2 * j)) n) := hH.out.kept hk1 (by omega)
           have d1 := HH1.out.cells.2.1
           have f1 := HH1.out.frozen 1))
      go_end0
      have hhas : ∀ k', k' ≠ 0 → (Has (2 * j) T' k' ↔ Has j T k') := fun k' hk' => hM.out.has k' hk'
      have hload := HT.out.load
      have hM2 := hM.out
      refine ⟨rfl, _, (show TabOk _ bt (n + 1) (2 * j) (w.heap.size + 1) _ from SB.out ▸ tab_after (s := ⟨k, a, b, c⟩) HH1.out hR1 ⟨by omega, HP2.out⟩ hM2.wf (hM2.cnt.trans HC.out) (by omega) (by omega) HD.out hk0 hk (fun h => H3.out ((hhas k hk0).1 h))), fun k' hk' => ?_, ?_⟩
      · rw [has_place (s := ⟨k, a, b, c⟩) HD.out hk', hhas k' hk']
      · have e := SB.out
        exact ((KY.out.on hK.out (fun x hx hs => by omega)).on hk1 (fun x hx hs => by omega)).trans (Kept.setCell _ _ _ rfl)

set_option maxHeartbeats 1000000 in
theorem insert_first (bt bs k : Nat) (T : Nat → Slot) (a b c : Int) (w : World) (hT : TabOk w bt 0 0 bs T) (hk0 : k ≠ 0) (hk : k < 18446744073709551616) :
    Calls Yba.prog 5 #[.pointer (some ⟨bt, 0, none⟩), .int .u64 k, .agg #[.int .u64 a, .int .u32 b, .int .u32 c]] w fun e w' =>
      e = .returned (.tuple #[]) ∧ ∃ T', TabOk w' bt 1 16 (w.heap.size + 1) T' ∧ (∀ k', k' ≠ 0 → (Has 16 T' k' ↔ k' = k)) ∧ Kept (fun x => x = bt) w w' := by
  have hhd : Hdr w bt (.slice none 0 0) 0 := hT.hdr
  obtain ⟨W, hW⟩ : ∃ W, W = w.alloc (.cells #[.int .u64 a, .int .u32 b, .int .u32 c] 35) := ⟨_, rfl⟩
  have kW : Kept (fun _ => False) w W := by rw [hW]; exact Kept.alloc _ _ _
  have hhW := hhd.kept kW (fun h => h)
  have sW : W.heap.size = w.heap.size + 1 := by rw [hW]; simp
  have bW : W.heap[w.heap.size]? = some (.cells #[.int .u64 a, .int .u32 b, .int .u32 c] 35 (0, 0)) := by rw [hW]; show (w.heap.push _)[w.heap.size]? = _; simp
  obtain ⟨c0, c1, _, _⟩ := hhW.cells
  have f0 := hhW.frozen 0
  have hmk : ∀ W, (Instr.makeSlice 25 (.int .i64 16) (.int .i64 16)).run Yba.prog W = .ok (.slice (some ⟨W.heap.size, 0, none⟩) 16 16) (W.alloc (.cells (zeros 16) 38)) := fun W => run_made 16 (by omega) W
  have H1 : Hid (Hdr W bt (.slice none 0 0) 0) := hhW
  have KW : Hid (Kept (fun _ => False) w W) := kW
  have BW : Hid (W.heap[w.heap.size]? = some (.cells #[.int .u64 a, .int .u32 b, .int .u32 c] 35 (0, 0))) := bW
  have SW : Hid (W.heap.size = w.heap.size + 1) := sW
  clear hT hhW hhd kW bW sW
  go_enter Yba.func5, Yba.ntmps5
  go_wp2
  rw [← hW]
  clear hW
  go_quiet (fail)
  have kX : Kept (fun _ => False) w (W.drewN nq) := KW.out.trans (Kept.drew _ _ _)
  have HX : Hid (Hdr (W.drewN nq) bt (.slice none 0 0) 0) := H1.out
  have BX : Hid ((W.drewN nq).heap[w.heap.size]? = some (.cells #[.int .u64 a, .int .u32 b, .int .u32 c] 35 (0, 0))) := BW.out
  have SX : Hid ((W.drewN nq).heap.size = w.heap.size + 1) := SW.out
  have KX : Hid (Kept (fun _ => False) w (W.drewN nq)) := kX
  clear kX H1 KW BW SW
  generalize W.drewN nq = X at *
  have d0 : X.cell? ⟨bt, 0, none⟩ = some (.slice none 0 0) := HX.out.cells.1
  have d1 : ∀ o, (X.alloc o).cell? ⟨bt, 0, none⟩ = some (.slice none 0 0) := fun o => (HX.out.kept (Kept.alloc (fun _ => False) X o) (fun h => h)).cells.1
  have d2 : ∀ o, (X.alloc o).frozen? ⟨bt, 0, none⟩ = false := fun o => (HX.out.kept (Kept.alloc (fun _ => False) X o) (fun h => h)).frozen 0
  go_wp2
  obtain ⟨B, hB⟩ : ∃ B, B = X.heap.size := ⟨_, rfl⟩
  have hY0 : Hdr (X.alloc (.cells (zeros 16) 38)) bt (.slice none 0 0) 0 := HX.out.kept (Kept.alloc (fun _ => False) _ _) (fun h => h)
  have HY : Hid (Hdr ((X.alloc (.cells (zeros 16) 38)).setCell ⟨bt, 0, none⟩ (.slice (some ⟨B, 0, none⟩) 16 16)) bt (.slice (some ⟨B, 0, none⟩) 16 16) 0) := hY0.slots _
  have hbtX : bt < X.heap.size := HX.out.lt
  have kY : Kept (fun x => x = bt) X ((X.alloc (.cells (zeros 16) 38)).setCell ⟨bt, 0, none⟩ (.slice (some ⟨B, 0, none⟩) 16 16)) := (Kept.alloc _ _ _).trans (Kept.setCell _ _ _ rfl)
  have NY : Hid (Row ((X.alloc (.cells (zeros 16) 38)).setCell ⟨bt, 0, none⟩ (.slice (some ⟨B, 0, none⟩) 16 16)) B 16 (fun _ => nilSlot)) := by
    rw [hB]; exact (row_made X 16).of_block (Below.heap_setCell _ _ _ _ (by show X.heap.size ≠ bt; omega))
  have hcnt : bt ≠ w.heap.size := by rintro rfl; have h1 := HX.out; have h2 := BX.out; unfold Hdr at h1; rw [h1] at h2; simp at h2
  have hbx : ((X.alloc (.cells (zeros 16) 38)).setCell ⟨bt, 0, none⟩ (.slice (some ⟨B, 0, none⟩) 16 16)).heap[w.heap.size]? = some (.cells #[.int .u64 a, .int .u32 b, .int .u32 c] 35 (0, 0)) := by
    refine Eq.trans (kY.block _ ?_ ?_) BX.out
    · rw [SX.out]; omega
    · exact fun e => hcnt e.symm
  have KY : Hid (Kept (fun x => x = bt) w ((X.alloc (.cells (zeros 16) 38)).setCell ⟨bt, 0, none⟩ (.slice (some ⟨B, 0, none⟩) 16 16))) := (KX.out.mono (fun _ _ h => h.elim)).trans kY
  have sB : B = w.heap.size + 1 := by rw [hB]; exact SX.out
  rw [← hB]
  clear kY hY0 d0 d1 d2 HX BX SX KX hmk
  have hbt : bt < B := by omega
  clear hB hbtX
  generalize (X.alloc (.cells (zeros 16) 38)).setCell ⟨bt, 0, none⟩ (.slice (some ⟨B, 0, none⟩) 16 16) = Y at *
  have SB : Hid (B = w.heap.size + 1) := sB
  clear sB
  have x0 : Y.cell? ⟨w.heap.size, 0, none⟩ = some (.int .u64 a) := by rw [cell_of hbx]; rfl
  have x1 : Y.cell? ⟨w.heap.size, 1, none⟩ = some (.int .u32 b) := by rw [cell_of hbx]; rfl
  have x2 : Y.cell? ⟨w.heap.size, 2, none⟩ = some (.int .u32 c) := by rw [cell_of hbx]; rfl
  clear hbx
  obtain ⟨D, hD⟩ := free_of (T := fun _ => nilSlot) (m := 16) (by rw [cnt_none]; omega) k
  have HD : Hid (Free 16 (fun _ => nilSlot) k D) := hD
  clear hD
  go_loop [36] (fun i => i = .int .i64 0) (fun _ => 0)
  case atStart => rfl
  case round =>
    subst hrel
    go_wp2_with (first
      | (go_at_call 10
         refine (place_any bt B 16 0 (fun _ => nilSlot) ⟨k, a, b, c⟩ D _ pow16 (by omega) hk HD.out HY.out NY.out).mono ?_
         rintro e w1 ⟨rfl, hR1, hk1⟩
         have HH1 : Hid (Hdr w1 bt (.slice (some ⟨B, 0, none⟩) 16 16) 0) := HY.out.kept hk1 (by omega)
         have d1 := HH1.out.cells.2.1
         have f1 := HH1.out.frozen 1))
    go_end0
    have e := SB.out
    have hno : ∀ k', k' ≠ 0 → ¬ Has 16 (fun _ => nilSlot) k' := fun k' hk' ⟨_, _, h⟩ => hk' h.symm
    refine ⟨rfl, _, (show TabOk _ bt 1 16 (w.heap.size + 1) _ from e ▸ tab_after (s := ⟨k, a, b, c⟩) (n := 0) HH1.out hR1 ⟨by omega, pow16⟩ (WF.none 16) (cnt_none 16) (by omega) (by omega) HD.out hk0 hk (hno k hk0)), fun k' hk' => ?_, ?_⟩
    · rw [has_place (s := ⟨k, a, b, c⟩) HD.out hk']
      exact ⟨fun h => h.resolve_left (hno k' hk'), .inr⟩
    · exact (KY.out.on hk1 (fun x hx hs => by omega)).trans (Kept.setCell _ _ _ rfl)

/-- insert, whatever the table: one key more, and no other. -/
theorem insert_any (bt bs m n k : Nat) (T : Nat → Slot) (a b c : Int) (w : World) (hT : TabOk w bt n m bs T) (hk0 : k ≠ 0) (hk : k < 18446744073709551616) (hn : n < 2048) (hh : ¬ Has m T k) :
    Calls Yba.prog 5 #[.pointer (some ⟨bt, 0, none⟩), .int .u64 k, .agg #[.int .u64 a, .int .u32 b, .int .u32 c]] w fun e w' =>
      e = .returned (.tuple #[]) ∧ ∃ m' bs' T', TabOk w' bt (n + 1) m' bs' T' ∧ (∀ k', k' ≠ 0 → (Has m' T' k' ↔ Has m T k' ∨ k' = k)) ∧ Kept (fun x => x = bt ∨ (0 < m ∧ x = bs)) w w' ∧ (bs' = bs ∧ m' = m ∨ w.heap.size ≤ bs') := by
  by_cases hroom : 4 * (n + 1) ≤ 3 * m
  · refine (insert_room bt bs m n k T a b c w hT hroom hk0 hk hn hh).mono fun e w' ⟨he, T', h1, h2, h3⟩ => ?_
    exact ⟨he, m, bs, T', h1, h2, h3.mono (fun x _ h => h.imp id fun h => ⟨by omega, h⟩), .inl ⟨rfl, rfl⟩⟩
  · by_cases hm : 0 < m
    · refine (insert_grow bt bs m n k T a b c w hT hm (by omega) hk0 hk hn hh).mono fun e w' ⟨he, T', h1, h2, h3⟩ => ?_
      exact ⟨he, 2 * m, w.heap.size + 1, T', h1, h2, h3.mono (fun x _ h => .inl h), .inr (by omega)⟩
    · obtain rfl : m = 0 := by omega
      obtain rfl : n = 0 := by have := hT.load; omega
      refine (insert_first bt bs k T a b c w hT hk0 hk).mono fun e w' ⟨he, T', h1, h2, h3⟩ => ?_
      refine ⟨he, 16, w.heap.size + 1, T', h1, fun k' hk' => ?_, h3.mono (fun x _ h => .inl h), .inr (by omega)⟩
      rw [h2 k' hk']
      exact ⟨.inr, fun h => h.resolve_left fun ⟨_, h, _⟩ => by omega⟩
end Go.Proofs.Ybulkdksm.Tb
