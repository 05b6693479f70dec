/-
  The schedule's builder (11), walked.
-/
import Derived.Test.YbulkdkucBd3
import Derived.Test.YbulkdkucDg
import Derived.Deep.LoopGhost
import Derived.Deep.CutBlock
import Derived.Deep.DeepCutAuto
import Derived.RegionTactic
namespace Go.Proofs.Ybulkdkuc.Sc
open Go.RowKit Go.Maps

/-- What the builder hands back. -/
def BuildPost (w : World) (e : Ending) (w' : World) : Prop :=
  ∃ S A C bv nv bs ns be ne, e = .returned (.tuple #[.slice A S.n C, .map (some bv), .map (some bs), .map (some be)]) ∧ Good S ∧ Dat w' S A bv nv bs ns be ne ∧ (S.n = 0 → A = none ∧ C = 0) ∧ nv ≤ 1000 ∧ Below w.heap.size w w'

/-- The builder's first loop: behind j steps. -/
def B1 (w : World) (bk j n : Nat) (A : Option Addr) (C : Nat) (wr : World) : Prop :=
  ∃ O ns st ne en W vs, BR w bk ns ne n O st en W (.slice A n C) vs wr ∧ BP j n O st en W ∧ ns ≤ j ∧ ne ≤ j

theorem B1.start {w w1 : World} (hb : Below w.heap.size w w1) :
    B1 w w1.heap.size 0 0 none 0 ((((w1.alloc (.cells #[.string (kn 0), .string (kn 1), .string (kn 2)] 46)).alloc (.map #[] 0)).alloc (.map #[] 0)).alloc (.cells #[.slice none 0 0, .slice none 0 0, .slice none 0 0] 49)) := by
  have e1 : (w1.alloc (.cells #[.string (kn 0), .string (kn 1), .string (kn 2)] 46)).heap.size = w1.heap.size + 1 := by simp
  have e2 : ((w1.alloc (.cells #[.string (kn 0), .string (kn 1), .string (kn 2)] 46)).alloc (.map #[] 0)).heap.size = w1.heap.size + 2 := by simp
  have e3 : (((w1.alloc (.cells #[.string (kn 0), .string (kn 1), .string (kn 2)] 46)).alloc (.map #[] 0)).alloc (.map #[] 0)).heap.size = w1.heap.size + 3 := by simp
  have hs := hb.size
  refine ⟨_, 0, fun _ => none, 0, fun _ => none, fun _ => [], fun _ => .slice none 0 0, ⟨?_, hb.size, ?_, ?_, ?_, ?_, OwnO.nil _ _ _, fun _ => rfl, fun k _ => OwnI.nil _ _, fun k k' g _ _ h => by simp [Value.ownBlock] at h⟩, BP.start, Nat.le_refl _, Nat.le_refl _⟩
  · exact (((hb.alloc hb.size _).alloc (by simp; omega) _).alloc (by simp; omega) _).alloc (by simp; omega) _
  · rw [Below.heap_alloc _ _ _ (by omega), Below.heap_alloc _ _ _ (by omega), Below.heap_alloc _ _ _ (by omega)]
    exact (MapKept.heap_alloc w1 _).1
  · have := ((IMap.made (w1.alloc (.cells #[.string (kn 0), .string (kn 1), .string (kn 2)] 46))).kept (Kept.alloc (fun _ => False) _ (.map #[] 0)) id).kept (Kept.alloc (fun _ => False) _ (.cells #[.slice none 0 0, .slice none 0 0, .slice none 0 0] 49)) id
    rw [e1] at this; exact this
  · have := (IMap.made ((w1.alloc (.cells #[.string (kn 0), .string (kn 1), .string (kn 2)] 46)).alloc (.map #[] 0))).kept (Kept.alloc (fun _ => False) _ (.cells #[.slice none 0 0, .slice none 0 0, .slice none 0 0] 49)) id
    rw [e2] at this; exact this
  · have := (MapKept.heap_alloc (((w1.alloc (.cells #[.string (kn 0), .string (kn 1), .string (kn 2)] 46)).alloc (.map #[] 0)).alloc (.map #[] 0)) (.cells #[.slice none 0 0, .slice none 0 0, .slice none 0 0] 49)).1
    rw [e3] at this; exact this

set_option maxRecDepth 1000000 in
set_option maxHeartbeats 80000000 in
theorem build_walk (a : Option Addr) (len cap : Nat) (R : Nat → Raw) (w : World) (hl : len ≤ 4096) (hR : RawAt w a len R) (hok : RawOk len R) : Calls Yba.prog 11 #[.slice a len cap] w (BuildPost w) := by
  have HR : Hid (RawAt w a len R) := hR
  have HK : Hid (RawOk len R) := hok
  have hmm := @run_makeMap Yba.prog
  clear hR hok
  go_enter Yba.func11, Yba.ntmps11
  go_wp2_with (first
    | (go_at_call 14
       refine (keys_walk _).mono ?_
       rintro e w1 ⟨rfl, hb1⟩
       have HB1 : Hid (Below w.heap.size w w1) := hb1
       clear hb1)
    | go_in)
  obtain ⟨W, hW⟩ : ∃ W, W = ((((w1.alloc (.cells #[.string (kn 0), .string (kn 1), .string (kn 2)] 46)).alloc (.map #[] 0)).alloc (.map #[] 0)).alloc (.cells #[.slice none 0 0, .slice none 0 0, .slice none 0 0] 49)) := ⟨_, rfl⟩
  obtain ⟨bk, hbk⟩ : ∃ b, b = w1.heap.size := ⟨_, rfl⟩
  have HS : Hid (B1 w bk 0 0 none 0 W) := by rw [hW, hbk]; exact B1.start HB1.out
  rw [← hW, ← hbk]
  clear hW hbk HB1
  go_loopg [2, 32] len (fun g a b wr => ∃ (j n : Nat) (A : Option Addr) (C : Nat), j + g = len ∧ a = .slice A n C ∧ b = .int .i64 j ∧ Hid (B1 w bk j n A C wr))
  case atStart => exact ⟨0, 0, none, 0, Nat.zero_add _, rfl, rfl, HS⟩
  case round =>
    obtain ⟨j, n, A, C, hjg, rfl, rfl, HB⟩ := hrel
    by_cases hjl : j < len
    · have hjl' : (j : Int) < (len : Int) := by omega
      obtain ⟨O, ns, st, ne, en, W, vs, hbr, hbp, hns, hne⟩ := HB.out
      have HBR : Hid (BR w bk ns ne n O st en W (.slice A n C) vs wr) := hbr
      have HBP : Hid (BP j n O st en W) := hbp
      obtain ⟨b, o, rfl, r0, r1, r2, r3⟩ := HR.out.below hbr.bel j hjl
      obtain ⟨ok0, ok1, ok2, ok3⟩ := HK.out j hjl
      obtain ⟨rk, hrk⟩ : ∃ z, z = (R j).kind := ⟨_, rfl⟩
      obtain ⟨rt, hrt⟩ : ∃ z, z = (R j).txn := ⟨_, rfl⟩
      obtain ⟨rx, hrx⟩ : ∃ z, z = (R j).key := ⟨_, rfl⟩
      obtain ⟨rf, hrf⟩ : ∃ z, z = (R j).frm := ⟨_, rfl⟩
      rw [← hrk] at r0 ok0
      rw [← hrt] at r1 ok1
      rw [← hrx] at r2 ok2
      rw [← hrf] at r3 ok3
      clear hbr hbp hrk hrt hrx hrf HB
      go_upto_region 9 with fail
      obtain ⟨t, ht⟩ : ∃ t : Nat, t = rt % 5 + 1 := ⟨_, rfl⟩
      have ht5 : 1 ≤ t ∧ t ≤ 5 := by omega
      have et : ((rt : Int) % 5 + 1) = (t : Int) := by omega
      obtain ⟨cb, hcb⟩ : ∃ cb, cb = wr.heap.size := ⟨_, rfl⟩
      refine name_world (fun X => Hid (XB w bk ns ne n O st en W A C vs cb rk rt rx rf X)) (by rw [hcb]; exact XB.made HBR.out) ?_
      intro X HX
      rw [et, ← hcb]
      clear hcb et r0 r1 r2 r3 HBR ht
      have eEn := HX.out.br.en.run_ok (t := t) (by omega)
      have eSt := HX.out.br.st.run_ok (t := t) (by omega)
      cases hen : en t with
      | some e0 =>
        rw [hen] at eEn
        simp only [Option.isSome_some] at eEn
        go_wp2
        go_roundg (len - (j + 1))
        case measure => omega
        case rel => exact ⟨j + 1, n, A, C, by omega, rfl, by go_num, _, _, _, _, _, _, _, HX.out.br, HBP.out.later, by omega, by omega⟩
      | none =>
        rw [hen] at eEn
        simp only [Option.isSome_none] at eEn
        go_upto_if 55 with fail
        go_cut [13, 14] (fun _ _ wx => ∃ ns' st', Hid (XB w bk ns' ne n O st' en W A C vs cb rk rt rx rf wx) ∧ Hid (BP j n O st' en W) ∧ ns' ≤ j + 1)
        case first =>
          cases hst : st t with
          | some s0 =>
            rw [hst] at eSt
            simp only [Option.isSome_some] at eSt
            go_wp2
            go_meet
            case rel => exact ⟨_, _, HX, HBP, by omega⟩
          | none =>
            rw [hst] at eSt
            simp only [Option.isSome_none] at eSt
            go_wp2_with (first
              | (at_mapUpdate
                 refine wpList_store_i _ rfl _ _ _ rfl (bk + 1) ns st rfl HX.out.br.st (by omega) t n rfl _ rfl rfl ht5.2 ?_
                 intro w3 him hg3
                 have HX3 : Hid (XB w bk (ns + 1) ne n O (upd st t n) en W A C vs cb rk rt rx rf w3) := HX.out.setSt him hg3
                 clear him hg3
                 refine Hid.out ?_)
              | go_in)
            refine hid_of ?_
            go_wp2
            go_meet
            case rel => exact ⟨_, _, HX3, HBP.out.starts, by omega⟩
        case rest =>
          obtain ⟨ns', st', HX2, HB2, hns'⟩ := hcut
          clear HX HBP eEn eSt
          obtain ⟨k0, k1, k2, k3⟩ := HX2.out.cells
          go_upto_region 15 with fail
          obtain ⟨k, hk⟩ : ∃ k : Nat, k = rx % 3 := ⟨_, rfl⟩
          have hk3 : k < 3 := by omega
          have ek : ((rx : Int) % 3) = (k : Int) := by omega
          rw [ek]
          clear ek hk
          obtain ⟨Ak, Ck, hvk, hIk⟩ := (HX2.out.br.rows k hk3).shape
          have hwk : wc.cell? ⟨bk + 1 + 1 + 1, k, none⟩ = some (vs k) := by
            rw [cell_of HX2.out.br.wrote]
            rcases (show k = 0 ∨ k = 1 ∨ k = 2 by omega) with rfl | rfl | rfl <;> rfl
          have hkk : wc.cell? ⟨bk, k, none⟩ = some (.string (kn k)) := by
            rw [cell_of HX2.out.br.keys]
            rcases (show k = 0 ∨ k = 1 ∨ k = 2 by omega) with rfl | rfl | rfl <;> rfl
          obtain ⟨L, hL⟩ : ∃ L, L = (W k).length := ⟨_, rfl⟩
          have hLj : L ≤ j := by rw [hL]; exact HB2.out.len k
          rw [hvk, ← hL] at hwk
          have HIK : Hid (IntsAt wc Ak (W k)) := hIk
          have HVK : Hid (vs k = .slice Ak L Ck) := by rw [hL]; exact hvk
          have HL : Hid (L = (W k).length) := hL
          clear hvk hIk hL
          have hk3' : (k : Int) < 3 := by omega
          rcases (show rk % 6 < 2 ∨ (rk % 6 = 2 ∨ rk % 6 = 3) ∨ rk % 6 = 4 ∨ rk % 6 = 5 by omega) with hq | hq | hq | hq
          · have hq2 : (rk : Int) % 6 = 0 ∨ (rk : Int) % 6 = 1 := by omega
            rcases hq2 with hq2 | hq2
            · go_upto_region 21 with fail
              go_quiet (fail)
              go_upto_region 22 with fail
              rw [modc]
              obtain ⟨i, hi⟩ : ∃ i : Nat, i = rf % (L + 1) := ⟨_, rfl⟩
              have hiL : i ≤ L := by rw [hi]; exact Nat.le_of_lt_succ (Nat.mod_lt _ (Nat.succ_pos _))
              rw [← hi]
              refine name_world (fun X => Hid (XB w bk ns' ne n O st' en W A C vs cb rk rt rx rf X) ∧ Hid (IntsAt X Ak (W k))) ⟨HX2.out.kept (Kept.drew _ _ _), HIK.out⟩ ?_
              rintro X3 ⟨HX3, HI3⟩
              have hwk3 : X3.cell? ⟨bk + 1 + 1 + 1, k, none⟩ = some (.slice Ak L Ck) := by
                rw [← HVK.out, cell_of HX3.out.br.wrote]
                rcases (show k = 0 ∨ k = 1 ∨ k = 2 by omega) with rfl | rfl | rfl <;> rfl
              have hkk3 : X3.cell? ⟨bk, k, none⟩ = some (.string (kn k)) := by
                rw [cell_of HX3.out.br.keys]
                rcases (show k = 0 ∨ k = 1 ∨ k = 2 by omega) with rfl | rfl | rfl <;> rfl
              have hnj := HB2.out.n_le
              clear hi k0 k1 k2 k3 hwk hkk HX2 HIK
              cases i with
              | zero =>
                go_wp2_with (first
                  | (at_builtin
                     refine wpList_opapp _ rfl _ _ rfl (HX3.out.br.kept (Kept.alloc _ _ (.cells (opC ⟨1, t, kn k, 0⟩).toArray 45))) rfl _ rfl ⟨1, t, kn k, 0⟩ (news6 _ _) (by omega) ?_
                     intro A' C' w4 hbr4
                     have HB4 : Hid (BR w bk ns' ne (n + 1) (addO O n ⟨1, t, kn k, 0⟩) st' en W (.slice A' (n + 1) C') vs w4) := hbr4
                     clear hbr4
                     refine Hid.out ?_)
                  | go_in)
                refine hid_of ?_
                go_wp2
                go_roundg (len - (j + 1))
                case measure => omega
                case rel => exact ⟨j + 1, n + 1, A', C', by omega, rfl, by go_num, _, _, _, _, _, _, _, HB4.out, HB2.out.op ⟨ht5, Nat.zero_le _, kn_size k⟩, by omega, by omega⟩
              | succ i' =>
                have hiL2 : i' < (W k).length := by rw [← HL.out]; omega
                obtain ⟨gk', rfl, hcy⟩ := HI3.out i' hiL2
                obtain ⟨y, hy⟩ : ∃ y, y = (W k).getD i' 0 := ⟨_, rfl⟩
                rw [← hy] at hcy
                have hy5 : y ≤ 5 := by rw [hy]; exact (HB2.out.five k _ (getD_mem hiL2)).2
                have hiL3 : (i' : Int) < (L : Int) := by omega
                clear hy hiL2
                go_wp2_with (first
                  | (at_builtin
                     refine wpList_opapp _ rfl _ _ rfl (HX3.out.br.kept (Kept.alloc _ _ (.cells (opC ⟨1, t, kn k, y⟩).toArray 45))) rfl _ rfl ⟨1, t, kn k, y⟩ (news6 _ _) (by omega) ?_
                     intro A' C' w4 hbr4
                     have HB4 : Hid (BR w bk ns' ne (n + 1) (addO O n ⟨1, t, kn k, y⟩) st' en W (.slice A' (n + 1) C') vs w4) := hbr4
                     clear hbr4
                     refine Hid.out ?_)
                  | go_in)
                refine hid_of ?_
                go_wp2
                go_roundg (len - (j + 1))
                case measure => omega
                case rel => exact ⟨j + 1, n + 1, A', C', by omega, rfl, by go_num, _, _, _, _, _, _, _, HB4.out, HB2.out.op ⟨ht5, hy5, kn_size k⟩, by omega, by omega⟩
            · go_upto_region 21 with fail
              go_quiet (fail)
              go_upto_region 22 with fail
              rw [modc]
              obtain ⟨i, hi⟩ : ∃ i : Nat, i = rf % (L + 1) := ⟨_, rfl⟩
              have hiL : i ≤ L := by rw [hi]; exact Nat.le_of_lt_succ (Nat.mod_lt _ (Nat.succ_pos _))
              rw [← hi]
              refine name_world (fun X => Hid (XB w bk ns' ne n O st' en W A C vs cb rk rt rx rf X) ∧ Hid (IntsAt X Ak (W k))) ⟨HX2.out.kept (Kept.drew _ _ _), HIK.out⟩ ?_
              rintro X3 ⟨HX3, HI3⟩
              have hwk3 : X3.cell? ⟨bk + 1 + 1 + 1, k, none⟩ = some (.slice Ak L Ck) := by
                rw [← HVK.out, cell_of HX3.out.br.wrote]
                rcases (show k = 0 ∨ k = 1 ∨ k = 2 by omega) with rfl | rfl | rfl <;> rfl
              have hkk3 : X3.cell? ⟨bk, k, none⟩ = some (.string (kn k)) := by
                rw [cell_of HX3.out.br.keys]
                rcases (show k = 0 ∨ k = 1 ∨ k = 2 by omega) with rfl | rfl | rfl <;> rfl
              have hnj := HB2.out.n_le
              clear hi k0 k1 k2 k3 hwk hkk HX2 HIK
              cases i with
              | zero =>
                go_wp2_with (first
                  | (at_builtin
                     refine wpList_opapp _ rfl _ _ rfl (HX3.out.br.kept (Kept.alloc _ _ (.cells (opC ⟨1, t, kn k, 0⟩).toArray 45))) rfl _ rfl ⟨1, t, kn k, 0⟩ (news6 _ _) (by omega) ?_
                     intro A' C' w4 hbr4
                     have HB4 : Hid (BR w bk ns' ne (n + 1) (addO O n ⟨1, t, kn k, 0⟩) st' en W (.slice A' (n + 1) C') vs w4) := hbr4
                     clear hbr4
                     refine Hid.out ?_)
                  | go_in)
                refine hid_of ?_
                go_wp2
                go_roundg (len - (j + 1))
                case measure => omega
                case rel => exact ⟨j + 1, n + 1, A', C', by omega, rfl, by go_num, _, _, _, _, _, _, _, HB4.out, HB2.out.op ⟨ht5, Nat.zero_le _, kn_size k⟩, by omega, by omega⟩
              | succ i' =>
                have hiL2 : i' < (W k).length := by rw [← HL.out]; omega
                obtain ⟨gk', rfl, hcy⟩ := HI3.out i' hiL2
                obtain ⟨y, hy⟩ : ∃ y, y = (W k).getD i' 0 := ⟨_, rfl⟩
                rw [← hy] at hcy
                have hy5 : y ≤ 5 := by rw [hy]; exact (HB2.out.five k _ (getD_mem hiL2)).2
                have hiL3 : (i' : Int) < (L : Int) := by omega
                clear hy hiL2
                go_wp2_with (first
                  | (at_builtin
                     refine wpList_opapp _ rfl _ _ rfl (HX3.out.br.kept (Kept.alloc _ _ (.cells (opC ⟨1, t, kn k, y⟩).toArray 45))) rfl _ rfl ⟨1, t, kn k, y⟩ (news6 _ _) (by omega) ?_
                     intro A' C' w4 hbr4
                     have HB4 : Hid (BR w bk ns' ne (n + 1) (addO O n ⟨1, t, kn k, y⟩) st' en W (.slice A' (n + 1) C') vs w4) := hbr4
                     clear hbr4
                     refine Hid.out ?_)
                  | go_in)
                refine hid_of ?_
                go_wp2
                go_roundg (len - (j + 1))
                case measure => omega
                case rel => exact ⟨j + 1, n + 1, A', C', by omega, rfl, by go_num, _, _, _, _, _, _, _, HB4.out, HB2.out.op ⟨ht5, hy5, kn_size k⟩, by omega, by omega⟩
          · have hnj := HB2.out.n_le
            have HC : Hid (Calls Yba.prog 22 #[.slice Ak L Ck, .int .i64 (t : Int)] wc fun e w' => e = .returned (.bool (decide (t ∈ W k))) ∧ w' = wc) := by rw [HL.out]; exact contains_walk Ak Ck t (W k) wc (by rw [← HL.out]; omega) HIK.out
            by_cases hin : t ∈ W k
            · have HIN : Hid (t ∈ W k) := hin
              rw [decide_eq_true hin] at HC
              have hq2 : (rk : Int) % 6 = 2 ∨ (rk : Int) % 6 = 3 := by omega
              clear hin HIK hq
              rcases hq2 with hq2 | hq2
              · go_wp2_with (first
                  | (go_at_call 22
                     refine (HC.out).mono ?_
                     rintro e w2 ⟨rfl, h9⟩
                     have h9' := h9.symm
                     clear h9
                     subst h9')
                  | (at_builtin
                     refine wpList_opapp _ rfl _ _ rfl (HX2.out.br.kept (Kept.alloc _ _ (.cells (opC ⟨2, t, kn k, 0⟩).toArray 45))) rfl _ rfl ⟨2, t, kn k, 0⟩ (news6 _ _) (by omega) ?_
                     intro A' C' w4 hbr4
                     have HB4 : Hid (BR w bk ns' ne (n + 1) (addO O n ⟨2, t, kn k, 0⟩) st' en W (.slice A' (n + 1) C') vs w4) := hbr4
                     clear hbr4
                     refine Hid.out ?_)
                  | go_in)
                refine hid_of ?_
                go_wp2
                go_roundg (len - (j + 1))
                case measure => omega
                case rel => exact ⟨j + 1, n + 1, A', C', by omega, rfl, by go_num, _, _, _, _, _, _, _, HB4.out, HB2.out.op ⟨ht5, Nat.zero_le _, kn_size k⟩, by omega, by omega⟩
              · go_wp2_with (first
                  | (go_at_call 22
                     refine (HC.out).mono ?_
                     rintro e w2 ⟨rfl, h9⟩
                     have h9' := h9.symm
                     clear h9
                     subst h9')
                  | (at_builtin
                     refine wpList_opapp _ rfl _ _ rfl (HX2.out.br.kept (Kept.alloc _ _ (.cells (opC ⟨2, t, kn k, 0⟩).toArray 45))) rfl _ rfl ⟨2, t, kn k, 0⟩ (news6 _ _) (by omega) ?_
                     intro A' C' w4 hbr4
                     have HB4 : Hid (BR w bk ns' ne (n + 1) (addO O n ⟨2, t, kn k, 0⟩) st' en W (.slice A' (n + 1) C') vs w4) := hbr4
                     clear hbr4
                     refine Hid.out ?_)
                  | go_in)
                refine hid_of ?_
                go_wp2
                go_roundg (len - (j + 1))
                case measure => omega
                case rel => exact ⟨j + 1, n + 1, A', C', by omega, rfl, by go_num, _, _, _, _, _, _, _, HB4.out, HB2.out.op ⟨ht5, Nat.zero_le _, kn_size k⟩, by omega, by omega⟩
            · have HIN : Hid (t ∉ W k) := hin
              rw [decide_eq_false hin] at HC
              have hq2 : (rk : Int) % 6 = 2 ∨ (rk : Int) % 6 = 3 := by omega
              have hlw : (W k).length ≤ 100000 := by rw [← HL.out]; omega
              clear hin HIK hq
              rcases hq2 with hq2 | hq2
              · go_wp2_with (first
                  | (go_at_call 22
                     refine (HC.out).mono ?_
                     rintro e w2 ⟨rfl, h9⟩
                     have h9' := h9.symm
                     clear h9
                     subst h9')
                  | (at_builtin
                     refine wpList_wapp _ rfl _ _ rfl (HX2.out.br.kept (Kept.alloc _ _ (.cells #[.int .i64 (t : Int)] 3))) hk3 HVK.out.symm _ rfl t (news1 _ _) hlw ?_
                     intro A' C' w4 hbr4 hwr4 hbl4
                     have HB4 : Hid (BR w bk ns' ne n O st' en (addW W k t) (.slice A n C) (updV vs k (.slice A' ((W k).length + 1) C')) (w4.setCell ⟨bk + 3, k, none⟩ (.slice A' ((W k).length + 1) C'))) := hbr4
                     have c4 : w4.cell? ⟨bk + 1 + 1 + 1, k, none⟩ = some (.slice Ak L Ck) := by
                       rw [← HVK.out, cell_of hwr4]
                       rcases (show k = 0 ∨ k = 1 ∨ k = 2 by omega) with rfl | rfl | rfl <;> rfl
                     have f4 : w4.frozen? ⟨bk + 1 + 1 + 1, k, none⟩ = false := frozen_of hwr4
                     clear hbr4 hwr4 hbl4
                     refine Hid.out ?_)
                  | go_in)
                refine hid_of ?_
                go_upto_region 29 with fail
                refine name_world (fun X => Hid (BR w bk ns' ne n O st' en (addW W k t) (.slice A n C) (updV vs k (.slice A' ((W k).length + 1) C')) X)) HB4.out ?_
                intro X5 HB5
                have hkk5 := kk_cell HB5.out hk3
                clear HB4 c4 f4 hkk hwk k0 k1 k2 k3
                go_wp2_with (first
                  | (at_builtin
                     refine wpList_opapp _ rfl _ _ rfl (HB5.out.kept (Kept.alloc _ _ (.cells (opC ⟨2, t, kn k, 0⟩).toArray 45))) rfl _ rfl ⟨2, t, kn k, 0⟩ (news6 _ _) (by omega) ?_
                     intro A2 C2 w6 hbr6
                     have HB6 : Hid (BR w bk ns' ne (n + 1) (addO O n ⟨2, t, kn k, 0⟩) st' en (addW W k t) (.slice A2 (n + 1) C2) (updV vs k (.slice A' ((W k).length + 1) C')) w6) := hbr6
                     clear hbr6
                     refine Hid.out ?_)
                  | go_in)
                refine hid_of ?_
                go_wp2
                go_roundg (len - (j + 1))
                case measure => omega
                case rel => exact ⟨j + 1, n + 1, A2, C2, by omega, rfl, by go_num, _, _, _, _, _, _, _, HB6.out, HB2.out.write ⟨ht5, Nat.zero_le _, kn_size k⟩ ht5 HIN.out, by omega, by omega⟩
              · go_wp2_with (first
                  | (go_at_call 22
                     refine (HC.out).mono ?_
                     rintro e w2 ⟨rfl, h9⟩
                     have h9' := h9.symm
                     clear h9
                     subst h9')
                  | (at_builtin
                     refine wpList_wapp _ rfl _ _ rfl (HX2.out.br.kept (Kept.alloc _ _ (.cells #[.int .i64 (t : Int)] 3))) hk3 HVK.out.symm _ rfl t (news1 _ _) hlw ?_
                     intro A' C' w4 hbr4 hwr4 hbl4
                     have HB4 : Hid (BR w bk ns' ne n O st' en (addW W k t) (.slice A n C) (updV vs k (.slice A' ((W k).length + 1) C')) (w4.setCell ⟨bk + 3, k, none⟩ (.slice A' ((W k).length + 1) C'))) := hbr4
                     have c4 : w4.cell? ⟨bk + 1 + 1 + 1, k, none⟩ = some (.slice Ak L Ck) := by
                       rw [← HVK.out, cell_of hwr4]
                       rcases (show k = 0 ∨ k = 1 ∨ k = 2 by omega) with rfl | rfl | rfl <;> rfl
                     have f4 : w4.frozen? ⟨bk + 1 + 1 + 1, k, none⟩ = false := frozen_of hwr4
                     clear hbr4 hwr4 hbl4
                     refine Hid.out ?_)
                  | go_in)
                refine hid_of ?_
                go_upto_region 29 with fail
                refine name_world (fun X => Hid (BR w bk ns' ne n O st' en (addW W k t) (.slice A n C) (updV vs k (.slice A' ((W k).length + 1) C')) X)) HB4.out ?_
                intro X5 HB5
                have hkk5 := kk_cell HB5.out hk3
                clear HB4 c4 f4 hkk hwk k0 k1 k2 k3
                go_wp2_with (first
                  | (at_builtin
                     refine wpList_opapp _ rfl _ _ rfl (HB5.out.kept (Kept.alloc _ _ (.cells (opC ⟨2, t, kn k, 0⟩).toArray 45))) rfl _ rfl ⟨2, t, kn k, 0⟩ (news6 _ _) (by omega) ?_
                     intro A2 C2 w6 hbr6
                     have HB6 : Hid (BR w bk ns' ne (n + 1) (addO O n ⟨2, t, kn k, 0⟩) st' en (addW W k t) (.slice A2 (n + 1) C2) (updV vs k (.slice A' ((W k).length + 1) C')) w6) := hbr6
                     clear hbr6
                     refine Hid.out ?_)
                  | go_in)
                refine hid_of ?_
                go_wp2
                go_roundg (len - (j + 1))
                case measure => omega
                case rel => exact ⟨j + 1, n + 1, A2, C2, by omega, rfl, by go_num, _, _, _, _, _, _, _, HB6.out, HB2.out.write ⟨ht5, Nat.zero_le _, kn_size k⟩ ht5 HIN.out, by omega, by omega⟩
          · have hq2 : (rk : Int) % 6 = 4 := by omega
            have hnj := HB2.out.n_le
            clear HIK hq hwk hkk HVK HL hk3' hLj
            go_wp2_with (first
              | (at_mapUpdate
                 refine wpList_store_i _ rfl _ _ _ rfl (bk + 2) ne en rfl HX2.out.br.en (by omega) t n rfl _ rfl rfl ht5.2 ?_
                 intro w3 him hg3
                 have HB3 : Hid (BR w bk ns' (ne + 1) n O st' (upd en t n) W (.slice A n C) vs w3) := HX2.out.br.setEn him hg3
                 clear him hg3
                 refine Hid.out ?_)
              | go_in)
            refine hid_of ?_
            go_wp2_with (first
              | (at_builtin
                 refine wpList_opapp _ rfl _ _ rfl (HB3.out.kept (Kept.alloc _ _ (.cells (opC ⟨3, t, ByteArray.empty, 0⟩).toArray 45))) rfl _ rfl ⟨3, t, ByteArray.empty, 0⟩ (news6 _ _) (by omega) ?_
                 intro A' C' w4 hbr4
                 have HB4 : Hid (BR w bk ns' (ne + 1) (n + 1) (addO O n ⟨3, t, ByteArray.empty, 0⟩) st' (upd en t n) W (.slice A' (n + 1) C') vs w4) := hbr4
                 clear hbr4
                 refine Hid.out ?_)
              | go_in)
            refine hid_of ?_
            go_wp2
            go_roundg (len - (j + 1))
            case measure => omega
            case rel => exact ⟨j + 1, n + 1, A', C', by omega, rfl, by go_num, _, _, _, _, _, _, _, HB4.out, HB2.out.end_ ⟨ht5, Nat.zero_le _, Nat.zero_le _⟩, by omega, by omega⟩
          · have hq2 : (rk : Int) % 6 = 5 := by omega
            have hnj := HB2.out.n_le
            clear HIK hq hwk hkk HVK HL hk3' hLj
            go_wp2_with (first
              | (at_mapUpdate
                 refine wpList_store_i _ rfl _ _ _ rfl (bk + 2) ne en rfl HX2.out.br.en (by omega) t n rfl _ rfl rfl ht5.2 ?_
                 intro w3 him hg3
                 have HB3 : Hid (BR w bk ns' (ne + 1) n O st' (upd en t n) W (.slice A n C) vs w3) := HX2.out.br.setEn him hg3
                 clear him hg3
                 refine Hid.out ?_)
              | go_in)
            refine hid_of ?_
            go_wp2_with (first
              | (at_builtin
                 refine wpList_opapp _ rfl _ _ rfl (HB3.out.kept (Kept.alloc _ _ (.cells (opC ⟨4, t, ByteArray.empty, 0⟩).toArray 45))) rfl _ rfl ⟨4, t, ByteArray.empty, 0⟩ (news6 _ _) (by omega) ?_
                 intro A' C' w4 hbr4
                 have HB4 : Hid (BR w bk ns' (ne + 1) (n + 1) (addO O n ⟨4, t, ByteArray.empty, 0⟩) st' (upd en t n) W (.slice A' (n + 1) C') vs w4) := hbr4
                 clear hbr4
                 refine Hid.out ?_)
              | go_in)
            refine hid_of ?_
            go_wp2
            go_roundg (len - (j + 1))
            case measure => omega
            case rel => exact ⟨j + 1, n + 1, A', C', by omega, rfl, by go_num, _, _, _, _, _, _, _, HB4.out, HB2.out.end_ ⟨ht5, Nat.zero_le _, Nat.zero_le _⟩, by omega, by omega⟩
    · have hjl' : ¬ (j : Int) < (len : Int) := by omega
      have hje : j = len := by omega
      have HB0 : Hid (B1 w bk len n A C wr) := by rw [← hje]; exact HB.out
      clear HR HK HS HB hje
      go_wp2
      go_loopg [2, 18] 5 (fun g a b wr => ∃ (t j n : Nat) (A : Option Addr) (C : Nat), t + g = 6 ∧ 1 ≤ t ∧ j + 1 = len + t ∧ a = .slice A n C ∧ b = .int .i64 t ∧ Hid (B1 w bk j n A C wr))
      case atStart => exact ⟨1, len, n, A, C, rfl, Nat.le_refl _, rfl, rfl, rfl, HB0⟩
      case round =>
        clear HB0
        obtain ⟨t, j2, n2, A2, C2, htg, ht1, hj2, rfl, rfl, HB2⟩ := hrel
        obtain ⟨O, ns, st, ne, en, W, vs, hbr, hbp, hns, hne⟩ := HB2.out
        have HBR : Hid (BR w bk ns ne n2 O st en W (.slice A2 n2 C2) vs wr) := hbr
        have HBP : Hid (BP j2 n2 O st en W) := hbp
        have hnj := hbp.n_le
        clear hbr hbp HB2
        by_cases ht6 : t ≤ 5
        · have ht6' : (t : Int) ≤ 5 := by omega
          have eEn := HBR.out.en.run_ok (t := t) (by omega)
          have eSt := HBR.out.st.run_ok (t := t) (by omega)
          cases hst : st t with
          | none =>
            rw [hst] at eSt
            simp only [Option.isSome_none] at eSt
            go_wp2
            go_roundg (5 - t)
            case measure => omega
            case rel => exact ⟨t + 1, j2 + 1, n2, A2, C2, by omega, by omega, by omega, rfl, by go_num, _, _, _, _, _, _, _, HBR.out, HBP.out.later, by omega, by omega⟩
          | some s0 =>
            rw [hst] at eSt
            simp only [Option.isSome_some] at eSt
            cases hen : en t with
            | some e0 =>
              rw [hen] at eEn
              simp only [Option.isSome_some] at eEn
              go_wp2
              go_roundg (5 - t)
              case measure => omega
              case rel => exact ⟨t + 1, j2 + 1, n2, A2, C2, by omega, by omega, by omega, rfl, by go_num, _, _, _, _, _, _, _, HBR.out, HBP.out.later, by omega, by omega⟩
            | none =>
              rw [hen] at eEn
              simp only [Option.isSome_none] at eEn
              go_wp2_with (first
                | (at_mapUpdate
                   refine wpList_store_i _ rfl _ _ _ rfl (bk + 2) ne en rfl HBR.out.en (by omega) t n2 rfl _ rfl rfl ht6 ?_
                   intro w3 him hg3
                   have HB3 : Hid (BR w bk ns (ne + 1) n2 O st (upd en t n2) W (.slice A2 n2 C2) vs w3) := HBR.out.setEn him hg3
                   clear him hg3
                   refine Hid.out ?_)
                | go_in)
              refine hid_of ?_
              go_wp2_with (first
                | (at_builtin
                   refine wpList_opapp _ rfl _ _ rfl (HB3.out.kept (Kept.alloc _ _ (.cells (opC ⟨3, t, ByteArray.empty, 0⟩).toArray 45))) rfl _ rfl ⟨3, t, ByteArray.empty, 0⟩ (news6 _ _) (by omega) ?_
                   intro A' C' w4 hbr4
                   have HB4 : Hid (BR w bk ns (ne + 1) (n2 + 1) (addO O n2 ⟨3, t, ByteArray.empty, 0⟩) st (upd en t n2) W (.slice A' (n2 + 1) C') vs w4) := hbr4
                   clear hbr4
                   refine Hid.out ?_)
                | go_in)
              refine hid_of ?_
              go_wp2
              go_roundg (5 - t)
              case measure => omega
              case rel => exact ⟨t + 1, j2 + 1, n2 + 1, A', C', by omega, by omega, by omega, rfl, by go_num, _, _, _, _, _, _, _, HB4.out, HBP.out.end_ ⟨⟨ht1, ht6⟩, Nat.zero_le _, Nat.zero_le _⟩, by omega, by omega⟩
        · have ht6' : ¬ (t : Int) ≤ 5 := by omega
          have hj4 : j2 ≤ 4101 := by omega
          obtain ⟨Wv, hWv⟩ : ∃ X, X = wr := ⟨_, rfl⟩
          subst hWv
          have HV0 : Hid (BV Wv W 0 0 (fun _ => []) (Wv.alloc (.map #[] 0))) := BV.start Wv W
          go_wp2
          go_loopg [23] 3 (fun g a wx => ∃ (k nv : Nat) (V : ByteArray → List Nat), k + g = 3 ∧ a = .int .i64 k ∧ Hid (BV Wv W k nv V wx))
          case atStart => exact ⟨0, 0, _, rfl, rfl, HV0⟩
          case round =>
            clear HV0
            obtain ⟨k, nv, V, hkg, rfl, HV⟩ := hrel
            by_cases hk3 : k < 3
            · have hk3' : (k : Int) < 3 := by omega
              obtain ⟨Ak, Ck, hvk, hIk⟩ := (HBR.out.rows k hk3).shape
              have hwk := wk_cell (HBR.out.kept (Kept.of_below HV.out.bel)) hk3
              have hLj : (W k).length ≤ j2 := HBP.out.len k
              obtain ⟨L, hL⟩ : ∃ L, L = (W k).length := ⟨_, rfl⟩
              rw [hvk, ← hL] at hwk
              rw [← hL] at hLj
              have HIK : Hid (IntsAt wr Ak (W k)) := hIk.below HV.out.bel
              have HL : Hid (L = (W k).length) := hL
              clear hvk hIk hL
              obtain ⟨Y, hY⟩ : ∃ X, X = wr := ⟨_, rfl⟩
              subst hY
              have HC0 : Hid (BC Y (W k) 0 (.slice none 0 0) [] Y) := BC.start Y (W k)
              go_wp2
              go_loopg [24, 180] L (fun g a b wx => ∃ (i m : Nat) (A : Option Addr) (C : Nat) (c : List Nat), i + g = L ∧ a = .slice A m C ∧ b = .int .i64 i ∧ Hid (m = c.length ∧ BC Y (W k) i (.slice A m C) c wx))
              case atStart => exact ⟨0, 0, none, 0, [], Nat.zero_add _, rfl, rfl, rfl, HC0.out⟩
              case round =>
                clear HC0
                obtain ⟨i, m, A3, C3, c, hig, rfl, rfl, HC⟩ := hrel
                have hmL : m ≤ L := by rw [HC.out.1, HL.out]; exact HC.out.2.len
                by_cases hiL : i < L
                · have hiL' : (i : Int) < (L : Int) := by omega
                  have hiL2 : i < (W k).length := by rw [← HL.out]; exact hiL
                  obtain ⟨g', rfl, hcy⟩ := (HIK.out.below HC.out.2.bel) i hiL2
                  obtain ⟨y, hy⟩ : ∃ y, y = (W k).getD i 0 := ⟨_, rfl⟩
                  rw [← hy] at hcy
                  have hy5 : y ≤ 5 := by rw [hy]; exact (HBP.out.five k _ (getD_mem hiL2)).2
                  have HY : Hid (y = (W k).getD i 0) := hy
                  have HBX := (HBR.out.kept (Kept.of_below HV.out.bel)).kept (Kept.of_below HC.out.2.bel)
                  have eEn := HBX.en.run (t := y) (by omega)
                  have hWk : W k ≠ [] := fun e => by rw [e] at hiL2; exact absurd hiL2 (Nat.not_lt_zero _)
                  have hen := en_lt HBP.out hWk y
                  obtain ⟨e0, he0⟩ : ∃ e0, e0 = gd en y := ⟨_, rfl⟩
                  rw [← he0] at hen eEn
                  obtain ⟨A4, C4, hA4, hO4⟩ := HBX.ops.shape
                  have hA5 := (Value.slice.inj hA4).1
                  clear hA4
                  obtain ⟨g4, hg4, hkd, _⟩ := hO4 e0 hen
                  rw [hg4] at hA5
                  subst hA5
                  obtain ⟨kd, hkd'⟩ : ∃ kd, kd = (O e0).kind := ⟨_, rfl⟩
                  rw [← hkd'] at hkd
                  have hen' : (e0 : Int) < (n2 : Int) := by omega
                  clear hkd' he0 hy HBX hWk hO4 hg4
                  by_cases h3 : kd = 3
                  · have b3 : ((kd : Int) == 3) = true := bt h3
                    go_wp2_with (first
                      | (at_builtin
                         refine wpList_capp _ rfl _ _ rfl (HC.out.2.kept (Kept.alloc _ _ (.cells #[.int .i64 (y : Int)] 3))) hiL2 rfl _ rfl (by rw [← HY.out]; exact news1 _ _) (by rw [← HC.out.1]; omega) ?_
                         intro A' C' w4 hbc4
                         have HC4 : Hid (m + 1 = (c ++ [(W k).getD i 0]).length ∧ BC Y (W k) (i + 1) (.slice A' (m + 1) C') (c ++ [(W k).getD i 0]) w4) := ⟨by rw [List.length_append, ← HC.out.1]; rfl, by rw [HC.out.1]; exact hbc4⟩
                         clear hbc4
                         rw [← HC.out.1]
                         refine Hid.out ?_)
                      | go_in)
                    refine hid_of ?_
                    go_wp2
                    go_roundg (L - (i + 1))
                    case measure => omega
                    case rel => exact ⟨i + 1, m + 1, A', C', _, by omega, rfl, by go_num, HC4⟩
                  · have b3 : ((kd : Int) == 3) = false := bf h3
                    go_wp2
                    go_roundg (L - (i + 1))
                    case measure => omega
                    case rel => exact ⟨i + 1, m, A3, C3, c, by omega, rfl, by go_num, HC.out.1, HC.out.2.skip hiL2⟩
                · have hiL' : ¬ (i : Int) < (L : Int) := by omega
                  have HV2 : Hid (BV Wv W k nv V wr) := HV.out.below HC.out.2.bel
                  have hkk := kk_cell ((HBR.out.kept (Kept.of_below HV.out.bel)).kept (Kept.of_below HC.out.2.bel)) hk3
                  have HSU : Hid (c.Sublist (W k)) := HC.out.2.sub.trans (List.take_sublist _ _)
                  have HM : Hid (m = c.length) := HC.out.1
                  obtain ⟨A5, C5, h5, hI5⟩ := HC.out.2.own.shape
                  have h5' := (Value.slice.inj h5).1
                  clear h5
                  subst h5'
                  have HI5 : Hid (IntsAt wr A3 c) := hI5
                  clear hI5 HIK hwk
                  by_cases hm0 : 0 < m
                  · have hm0' : (0 : Int) < (m : Int) := by omega
                    have HCN : Hid (c ≠ []) := fun e => by have := HM.out; rw [e] at this; rw [this] at hm0; exact absurd hm0 (Nat.lt_irrefl _)
                    go_wp2_with (first
                      | (at_mapUpdate
                         refine wpList_store_v _ rfl _ _ _ rfl HV2.out (by omega) rfl rfl HCN.out HSU.out (A := A3) (C := C3) (by rw [← HM.out]; rfl) HI5.out ?_
                         intro w6 hbv6
                         have HV6 : Hid (BV Wv W (k + 1) (nv + 1) (updS V (kn k) c) w6) := hbv6
                         clear hbv6
                         refine Hid.out ?_)
                      | go_in)
                    refine hid_of ?_
                    go_wp2
                    go_roundg (3 - (k + 1))
                    case measure => omega
                    case rel => exact ⟨k + 1, _, _, by omega, by go_num, HV6⟩
                  · have hm0' : ¬ (0 : Int) < (m : Int) := by omega
                    go_wp2
                    go_roundg (3 - (k + 1))
                    case measure => omega
                    case rel => exact ⟨k + 1, _, _, by omega, by go_num, HV2.out.skip⟩
            · have hk3' : ¬ (k : Int) < 3 := by omega
              obtain rfl : k = 3 := by omega
              obtain ⟨hdat, hnil, hbel⟩ := HV.out.dat HBR.out
              have hgood := HV.out.good HBP.out hj4
              have hnv : nv ≤ 1000 := by have := HV.out.nv_le; omega
              have HP : Hid (BuildPost w (.returned (.tuple #[.slice A2 n2 C2, .map (some Wv.heap.size), .map (some (bk + 1)), .map (some (bk + 1 + 1))])) wr) :=
                ⟨⟨n2, O, V, st, en⟩, A2, C2, Wv.heap.size, nv, bk + 1, ns, bk + 2, ne, rfl, hgood, hdat, hnil, hnv, hbel⟩
              clear hdat hnil hbel hgood
              go_wp2
              exact bodyPost_ret (v := .tuple #[.slice A2 n2 C2, .map (some Wv.heap.size), .map (some (bk + 1)), .map (some (bk + 1 + 1))]) (by simp [results, Yba.results11, go_sem]) rfl HP.out
end Go.Proofs.Ybulkdkuc.Sc
