/-
  The program's own search (16), walked.
-/
import Derived.Test.YbulkdkucDg2
import Derived.Test.YbulkdkucModel0
import Derived.Deep.LoopGhost
import Derived.Deep.CutBlock
import Derived.Deep.DeepCutAuto
import Derived.Deep.RegionWith
import Derived.RegionTactic
namespace Go.Proofs.Ybulkdkuc.Sc
open Go.RowKit Go.Maps

set_option maxRecDepth 1000000 in
set_option maxHeartbeats 80000000 in
theorem dg_walk (S : Sch) (hG : Good S) (A : Option Addr) (C bS bv nv bs ns be ne : Nat) (w : World) (hnv : nv ≤ 1000) (hD : Dat w S A bv nv bs ns be ne) (hS : SAt w bS A S.n C bv bs be) :
    Calls Yba.prog 16 #[.pointer (some ⟨bS, 0, none⟩)] w (AnsPost S w) := by
  have HG : Hid (Good S) := hG
  have HD0 : Hid (Dat w S A bv nv bs ns be ne) := hD
  have HS0 : Hid (SAt w bS A S.n C bv bs be) := hS
  have hn := hG.n_le
  have hmm := @run_makeMap Yba.prog
  clear hD hG hS
  go_enter Yba.func16, Yba.ntmps16
  go_wp2_with (first
    | (go_at_call 25
       refine (versions_walk bS bv nv S.V w HS0.out.2.1 HD0.out.vers hnv HG.out.V5 HG.out.nodup (fun x hx => by obtain ⟨i, _, rfl⟩ := HG.out.keys x hx; exact kn_size i) HG.out.len).mono ?_
       rintro e W ⟨rfl, hv1, hb1⟩
       have HB1 : Hid (Below w.heap.size w W) := hb1
       have HD : Hid (DD W S A C bS bv nv bs ns be ne w.heap.size (w.heap.size + 2)) := ⟨HD0.out.below hb1, HS0.out.below hb1, hv1⟩
       have s0 : (((W.alloc (.map #[] 0)).alloc (.map #[] 0)).alloc (.map #[] 0)).cell? ⟨bS, 0, none⟩ = some (.slice A S.n C) := ((HS0.out.below hb1).below (R1.start W S).bel).1
       clear hb1 hv1)
    | go_in)
  obtain ⟨W0, hW0⟩ : ∃ W0, W0 = ((W.alloc (.map #[] 0)).alloc (.map #[] 0)).alloc (.map #[] 0) := ⟨_, rfl⟩
  have HR0 : Hid (R1 W S 0 0 0 (fun _ => none) (fun _ _ => l2z) (.map []) W0) := by rw [hW0]; exact R1.start W S
  rw [← hW0]
  clear hW0 HD0 HS0 s0
  go_loopg [37] S.n (fun g a wr => ∃ (i : Nat) (G : ByteArray → Option Nat) (T : ByteArray → Nat → L2) (D : DataW Value), i + g = S.n ∧ a = .int .i64 i ∧ Hid (R1 W S i i i G T D wr))
  case atStart => exact ⟨0, _, _, _, Nat.zero_add _, rfl, HR0⟩
  case round =>
    obtain ⟨i, G, T, D, hig, rfl, HR⟩ := hrel
    by_cases hin : i < S.n
    · have hin' : (i : Int) < (S.n : Int) := by omega
      have HX := (HD.out.below HR.out.bel)
      obtain ⟨g, rfl, c0, c1, c2, c3, c4, c5⟩ := HX.dat.ops i hin
      have htx5 := HG.out.txn i hin
      have hf5 := HG.out.frm i hin
      have hk1 := HG.out.key i hin
      obtain ⟨kd, hkd⟩ : ∃ k, k = (S.O i).kind := ⟨_, rfl⟩
      obtain ⟨tx, htx⟩ : ∃ k, k = (S.O i).txn := ⟨_, rfl⟩
      obtain ⟨x, hx⟩ : ∃ k, k = (S.O i).key := ⟨_, rfl⟩
      obtain ⟨fr, hfr⟩ : ∃ k, k = (S.O i).frm := ⟨_, rfl⟩
      rw [← hkd] at c0
      rw [← htx] at c1 htx5
      rw [← hx] at c2 hk1
      rw [← hfr] at c3 hf5
      have HKD : Hid (kd = (S.O i).kind) := hkd
      have HTX : Hid (tx = (S.O i).txn) := htx
      have HXX : Hid (x = (S.O i).key) := hx
      have HFR : Hid (fr = (S.O i).frm) := hfr
      have HB2 : Hid (∀ o m, Below W.heap.size W ((wr.alloc o).drewN m)) := fun o m => (HR.out.alloc o m).bel
      obtain ⟨A', C', hV, hI⟩ := HD.out.dat.vers.runs hk1
      have HI : Hid (IntsAt W A' (S.V x)) := hI
      have hlen := HG.out.len x
      obtain ⟨L, hL⟩ : ∃ L, L = (S.V x).length := ⟨_, rfl⟩
      have eV : ∀ o m, (Instr.lookup 36 (.map (some bv)) (.string x) false).run Yba.prog ((wr.alloc o).drewN m) = .ok (.slice A' L C') ((wr.alloc o).drewN m) := fun o m => by rw [hV _ (HB2.out o m), ← hL]
      rw [← hL] at hlen
      have HL : Hid (L = (S.V x).length) := hL
      have HCW : Hid (∀ o m, Calls Yba.prog 26 #[.pointer (some ⟨bS, 0, none⟩), .int .i64 (tx : Int)] ((wr.alloc o).drewN m) fun e w' => e = .returned (.bool (com S tx)) ∧ w' = (wr.alloc o).drewN m) :=
        fun o m => Committed_walk bS _ C bv bs be ne tx S _ (by omega) HG.out.en (HD.out.below (HB2.out o m)).sat (HD.out.below (HB2.out o m)).dat.ops (HD.out.below (HB2.out o m)).dat.en
      have q1 : ∀ o, (wr.alloc o).cell? ⟨bS, 1, none⟩ = some (.map (some bv)) := fun o => (HD.out.below (HB2.out o 0)).sat.2.1
      have q2 : ∀ o, (wr.alloc o).cell? ⟨bS, 2, none⟩ = some (.map (some bs)) := fun o => (HD.out.below (HB2.out o 0)).sat.2.2.1
      have q3 : ∀ o, (wr.alloc o).cell? ⟨bS, 3, none⟩ = some (.map (some be)) := fun o => (HD.out.below (HB2.out o 0)).sat.2.2.2
      have eX : ∀ o m, (Instr.lookup 37 (.map (some be)) (.int .i64 (tx : Int)) false).run Yba.prog ((wr.alloc o).drewN m) = .ok (.int .i64 (gd S.en tx : Nat)) ((wr.alloc o).drewN m) := fun o m => (HD.out.below (HB2.out o m)).dat.en.run (by omega)
      clear hkd htx hx hfr hL hI hV HX
      by_cases h1 : kd = 1
      · have b1 : ((kd : Int) == 1) = true := bt h1
        by_cases hL0 : L = 0
        · have b2 : ((L : Int) == 0) = true := bt hL0
          have hVn : S.V x = [] := List.eq_nil_of_length_eq_zero (by rw [← HL.out]; exact hL0)
          as_aux_lemma =>
            go_wp2
            go_quiet (fail)
            go_wp2
            go_roundg (S.n - (i + 1))
            case measure => omega
            case rel => exact ⟨i + 1, G, T, D, by omega, by go_num, ((HR.out.skip (nxt_V (by rw [← HXX.out, hVn]; rfl)) (fun y hy h => hy (by rw [← h.2.1, ← HXX.out]; exact hVn))).alloc _ _)⟩
        have b2 : ((L : Int) == 0) = false := bf hL0
        have hVn : S.V x ≠ [] := fun e => hL0 (by rw [HL.out, e]; rfl)
        cases hc : com S tx with
        | false =>
          rw [hc] at HCW
          as_aux_lemma =>
            go_wp2
            go_quiet (fail)
            go_wp2_with (first
              | (go_at_call 26
                 refine (HCW.out _ _).mono ?_
                 rintro e1 w2 ⟨rfl, h9⟩
                 have h9' := h9.symm
                 clear h9
                 subst h9'))
            go_roundg (S.n - (i + 1))
            case measure => omega
            case rel => exact ⟨i + 1, G, T, D, by omega, by go_num, ((HR.out.skip (nxt_c (by rw [← HTX.out]; exact hc)) (fun y _ h => by have := h.2.2; rw [← HTX.out, hc] at this; cases this)).alloc _ _)⟩
        | true =>
          rw [hc] at HCW
          obtain ⟨b', hver⟩ := HD.out.ver.runs hk1 hVn (f := fr) (by omega)
          obtain ⟨v, hv⟩ : ∃ v, v = ver (S.V x) fr := ⟨_, rfl⟩
          rw [← hv] at hver
          have HV : Hid (v = ver (S.V x) fr) := hv
          have eA : ∀ o m, (Instr.lookup 74 (.map (some w.heap.size)) (.string x) false).run Yba.prog ((wr.alloc o).drewN m) = .ok (.map (some b')) ((wr.alloc o).drewN m) := fun o m => (hver _ (HB2.out o m)).1
          have eB : ∀ o m, (Instr.lookup 37 (.map (some b')) (.int .i64 (fr : Int)) false).run Yba.prog ((wr.alloc o).drewN m) = .ok (.int .i64 (v : Int)) ((wr.alloc o).drewN m) := fun o m => (hver _ (HB2.out o m)).2
          clear hver hv
          as_aux_lemma =>
            go_wp2
            go_quiet (fail)
            go_wp2_with (first
              | (go_at_call 26
                 refine (HCW.out _ _).mono ?_
                 rintro e1 w2 ⟨rfl, h9⟩
                 have h9' := h9.symm
                 clear h9
                 subst h9'))
            go_quiet (fail)
            go_upto_if 80 with fail
            obtain ⟨cb, hcb⟩ : ∃ cb, cb = wr.heap.size := ⟨_, rfl⟩
            have hcbW : W.heap.size + 3 ≤ cb := by rw [hcb]; exact HR.out.sz
            refine name_world (fun X => Hid (XF W S i i i G T D cb tx x X)) ⟨by first | exact (HR.out.alloc _ _) | exact ((HR.out.alloc _ _).drew _), by rw [hcb]; simp, by rw [hcb]; simp, hcbW⟩ ?_
            intro X HXF
            rw [← hcb]
            clear hcb eV eA eB eX q1 q2 q3 HCW c0 c1 c2 c3 c4 c5 HR HB2 hcbW
            go_cut [13] (fun _ wx => Hid (XF W S (i + 1) i i G T D cb tx x wx))
            case first =>
              have hbX := HD.out.below HXF.out.r1.bel
              have q2 := hbX.sat.2.2.1
              have q3 := hbX.sat.2.2.2
              have k1 := HXF.out.c1
              by_cases hvL : v < L
              · have hvL' : (v : Int) < (L : Int) := by omega
                have hvl2 : v < (S.V x).length := by rw [← HL.out]; exact hvL
                obtain ⟨g', rfl, hcy⟩ := (HI.out.below HXF.out.r1.bel) v hvl2
                obtain ⟨y, hy⟩ : ∃ y, y = (S.V x).getD v 0 := ⟨_, rfl⟩
                rw [← hy] at hcy
                have hy5 : y ≤ 5 := by rw [hy]; exact (HG.out.V5 x _ (getD_mem hvl2)).2
                have HY : Hid (y = (S.V x).getD v 0) := hy
                have eS : (Instr.lookup 37 (.map (some bs)) (.int .i64 (y : Int)) false).run Yba.prog X = .ok (.int .i64 (gd S.st y : Nat)) X := hbX.dat.st.run (by omega)
                have eY : (Instr.lookup 37 (.map (some be)) (.int .i64 (y : Int)) false).run Yba.prog X = .ok (.int .i64 (gd S.en y : Nat)) X := hbX.dat.en.run (by omega)
                have eY2 : (Instr.lookup 37 (.map (some be)) (.int .i64 (y : Int)) false).run Yba.prog X.drew = .ok (.int .i64 (gd S.en y : Nat)) X.drew := (HD.out.below HXF.out.drew1.r1.bel).dat.en.run (by omega)
                have eN : (Instr.lookup 37 (.map (some W.heap.size)) (.int .i64 (tx : Int)) true).run Yba.prog X = .ok (.tuple #[.int .i64 (og (nextTo S i tx) : Nat), .bool (nextTo S i tx).isSome]) X := HXF.out.r1.nx.run_ok (by omega)
                clear hy hvl2 hbX
                by_cases h5 : y = tx
                · have b5 : ((y : Int) == (tx : Int)) = true := bt h5
                  as_aux_lemma =>
                    go_wp2
                    go_meet
                    case rel => exact HXF.out.same (nxt_w (by rw [← HXX.out, ← HFR.out, ← HV.out, ← HY.out, ← HTX.out]; exact h5))
                have b5 : ((y : Int) == (tx : Int)) = false := bf h5
                by_cases h6 : gd S.st y < gd S.en tx
                · have b6 : ((gd S.st y : Nat) : Int) < ((gd S.en tx : Nat) : Int) := by omega
                  have HT : Hid (nxt S (S.O i) = some (gd S.en y)) := by
                    rw [HY.out, HV.out, HXX.out, HFR.out]
                    exact nxt_yes (by rw [← HKD.out]; exact h1) (by rw [← HXX.out, ← HL.out]; exact hL0) (by rw [← HTX.out]; exact hc) (by rw [← HXX.out, ← HFR.out, ← HV.out, ← HL.out]; exact hvL) (by rw [← HXX.out, ← HFR.out, ← HV.out, ← HY.out, ← HTX.out]; exact h5) (by rw [← HXX.out, ← HFR.out, ← HV.out, ← HY.out, ← HTX.out]; exact h6)
                  obtain ⟨r, hr⟩ : ∃ r, r = nextTo S i tx := ⟨_, rfl⟩
                  rw [← hr] at eN
                  have HRR : Hid (r = nextTo S i tx) := hr
                  clear hr
                  obtain ⟨w1, st1, im1, gr1⟩ := HXF.out.r1.nx.store (by omega) htx5.2 (gd S.en y)
                  obtain ⟨w2, st2, im2, gr2⟩ := HXF.out.drew1.r1.nx.store (by omega) htx5.2 (gd S.en y)
                  have HM1 : Hid (IMap w1 W.heap.size (i + 1) (upd (nextTo S i) tx (gd S.en y)) ∧ X.grownBy w1 (some W.heap.size)) := ⟨im1, gr1⟩
                  have HM2 : Hid (IMap w2 W.heap.size (i + 1) (upd (nextTo S i) tx (gd S.en y)) ∧ X.drew.grownBy w2 (some W.heap.size)) := ⟨im2, gr2⟩
                  clear im1 gr1 im2 gr2
                  cases hr0 : r.isSome with
                  | false =>
                    rw [hr0] at eN
                    as_aux_lemma =>
                      go_wp2
                      go_region
                      go_wp2
                      go_meet
                      case rel => exact HXF.out.drew1.next HM2.out.1 HM2.out.2 HTX.out.symm HT.out (.inl (by rw [← HRR.out]; exact hr0))
                  | true =>
                    rw [hr0] at eN
                    by_cases h7 : gd S.en y < og r
                    · have b7 : ((gd S.en y : Nat) : Int) < ((og r : Nat) : Int) := by omega
                      as_aux_lemma =>
                        go_wp2
                        go_region
                        go_wp2
                        go_meet
                        case rel => exact HXF.out.drew1.next HM2.out.1 HM2.out.2 HTX.out.symm HT.out (.inr (by rw [← HRR.out]; exact h7))
                    · have b7 : ¬ ((gd S.en y : Nat) : Int) < ((og r : Nat) : Int) := by omega
                      as_aux_lemma =>
                        go_wp2
                        go_meet
                        case rel => exact HXF.out.old HTX.out.symm HT.out (by rw [← HRR.out]; exact hr0) (by rw [← HRR.out]; exact h7)
                · have b6 : ¬ ((gd S.st y : Nat) : Int) < ((gd S.en tx : Nat) : Int) := by omega
                  as_aux_lemma =>
                    go_wp2
                    go_meet
                    case rel => exact HXF.out.same (nxt_s (by rw [← HXX.out, ← HFR.out, ← HV.out, ← HY.out, ← HTX.out]; exact h6))
              · have hvL' : ¬ (v : Int) < (L : Int) := by omega
                as_aux_lemma =>
                  go_wp2
                  go_meet
                  case rel => exact HXF.out.same (nxt_v (by rw [← HXX.out, ← HFR.out, ← HV.out, ← HL.out]; exact hvL))
            case rest =>
              have HXc : Hid (XF W S (i + 1) i i G T D cb tx x wc) := hcut
              clear hcut HXF
              have hn0 := fun W A L C => Lib.run_eql_slice_nil (P := Yba.prog) W 78 81 A L C 0 0 Yba.underlying78
              have k2 := HXc.out.c2
              have eR := HXc.out.r1.rm.run hk1
              cases hGx : G x with
              | none =>
                rw [hGx] at eR
                have eR' : (Instr.lookup 76 (.map (some (W.heap.size + 1 + 1))) (.string x) false).run Yba.prog wc = .ok (.slice none 0 0) wc := eR
                clear eR
                have hmk : ∀ W', (Instr.makeSlice 78 (.int .i64 ((L : Int) + 1)) (.int .i64 ((L : Int) + 1))).run Yba.prog W' = .ok (.slice (some ⟨W'.heap.size, 0, none⟩) (L + 1) (L + 1)) (W'.alloc (.cells (zeros (L + 1)) 81)) := fun W' => by
                  have e : ((L + 1 : Nat) : Int) = (L : Int) + 1 := by omega
                  rw [← e]
                  exact run_made (L + 1) (by omega) W'
                obtain ⟨w1, st1, D1, hx1⟩ := HXc.out.row (Y := (wc.alloc (.cells (zeros (L + 1)) 81)).drew) (by omega) hk1 hVn hGx (Kept.alloc _ _ _).drew1 (by rw [← HL.out]; exact (row_made wc (L + 1)).kept ((Kept.refl (fun _ => False) _).drew1) id)
                obtain ⟨w2, st2, D2, hx2⟩ := HXc.out.row (Y := wc.drew.alloc (.cells (zeros (L + 1)) 81)) (by omega) hk1 hVn hGx (((Kept.refl _ _).drew1).trans (Kept.alloc _ _ _)) (by rw [← HL.out]; exact row_made wc.drew (L + 1))
                rw [← HL.out] at st1 st2
                have HX1 : Hid (XF W S (i + 1) i (i + 1) (updG G x wc.heap.size) (zroT T x) D1 cb tx x w1) := hx1
                have HX2 : Hid (XF W S (i + 1) i (i + 1) (updG G x wc.heap.size) (zroT T x) D2 cb tx x w2) := hx2
                clear hx1 hx2
                have k3 : ∀ o, (wc.alloc o).cell? ⟨cb, 2, none⟩ = some (.string x) := fun o => (Kept.alloc (fun _ => False) wc o).cell id HXc.out.c2
                have k4 : ∀ o, (wc.drew.alloc o).cell? ⟨cb, 2, none⟩ = some (.string x) := fun o => (Kept.alloc (fun _ => False) wc.drew o).cell id HXc.out.c2
                as_aux_lemma =>
                  go_wp2
                  go_region
                  go_wp2
                  refine name_world (fun X => ∃ nr G' T' D' g0, Hid (XF W S (i + 1) i nr G' T' D' cb tx x X) ∧ Hid (G' x = some g0) ∧ nr ≤ i + 1) (by first | exact ⟨_, _, _, _, _, HX1, by unfold updG; exact if_pos rfl, Nat.le_refl _⟩ | exact ⟨_, _, _, _, _, HX2, by unfold updG; exact if_pos rfl, Nat.le_refl _⟩) ?_
                  clear hGx eR' k2 k3 k4 HXc st1 st2 HX1 HX2 hmk
                  rintro X2 ⟨nr, G', T', D', g0, HXd, HGx, hnr⟩
                  have k1 := HXd.out.c1
                  have k2 := HXd.out.c2
                  have eR1 : (Instr.lookup 76 (.map (some (W.heap.size + 1 + 1))) (.string x) false).run Yba.prog X2 = .ok (.slice (some ⟨g0, 0, none⟩) (L + 1) (L + 1)) X2 := by
                    have := HXd.out.r1.rm.run hk1
                    rw [HGx.out] at this
                    rw [HL.out]
                    exact this
                  have eR2 : (Instr.lookup 76 (.map (some (W.heap.size + 1 + 1))) (.string x) false).run Yba.prog X2.drew = .ok (.slice (some ⟨g0, 0, none⟩) (L + 1) (L + 1)) X2.drew := by
                    have := HXd.out.drew1.r1.rm.run hk1
                    rw [HGx.out] at this
                    rw [HL.out]
                    exact this
                  have HROW : Hid (L2Row X2.drew g0 (L + 1) (T' x)) := by rw [HL.out]; exact (HXd.out.drew1.r1.rm.row x g0 HGx.out).2
                  have hvL1 : v < L + 1 := by rw [HV.out, HL.out]; have := ver_le (S.V x) fr; omega
                  have hvL2 : (v : Int) < (L : Int) + 1 := by omega
                  go_region_with (go_at_call 27
                                  refine (add_walk g0 (L + 1) v (gd S.en tx) tx (T' x) _ hvL1 HROW.out).mono ?_
                                  rintro e1 w4 ⟨rfl, hr4, hk4⟩
                                  have HR4 : Hid (L2Row w4 g0 (L + 1) (updT (T' x) v (addL (T' x v) (gd S.en tx) tx)) ∧ Kept (fun k => k = g0) X2.drew w4) := ⟨hr4, hk4⟩
                                  clear hr4 hk4)
                  all_goals
                    (go_wp2
                     go_roundg (S.n - (i + 1))
                     case measure => omega
                     case rel =>
                       refine ⟨i + 1, G', _, D', by omega, by go_num, HXd.out.drew1.r1.added HGx.out ⟨by rw [← HKD.out]; exact h1, HXX.out.symm, by rw [← HTX.out]; exact hc⟩ (by rw [← HTX.out]; omega) ?_ HR4.out.2 hnr⟩
                       rw [← HFR.out, ← HV.out, ← HL.out, ← HTX.out]
                       exact HR4.out.1)
              | some g0 =>
                rw [hGx] at eR
                have eR' : (Instr.lookup 76 (.map (some (W.heap.size + 1 + 1))) (.string x) false).run Yba.prog wc = .ok (.slice (some ⟨g0, 0, none⟩) (L + 1) (L + 1)) wc := by rw [HL.out]; exact eR
                clear eR
                as_aux_lemma =>
                  go_wp2
                  refine name_world (fun X => ∃ nr G' T' D', Hid (XF W S (i + 1) i nr G' T' D' cb tx x X) ∧ Hid (G' x = some g0) ∧ nr ≤ i + 1) ⟨_, _, _, _, HXc, hGx, Nat.le_succ _⟩ ?_
                  clear hGx eR' k2 HXc
                  rintro X2 ⟨nr, G', T', D', HXd, HGx, hnr⟩
                  have k1 := HXd.out.c1
                  have k2 := HXd.out.c2
                  have eR1 : (Instr.lookup 76 (.map (some (W.heap.size + 1 + 1))) (.string x) false).run Yba.prog X2 = .ok (.slice (some ⟨g0, 0, none⟩) (L + 1) (L + 1)) X2 := by
                    have := HXd.out.r1.rm.run hk1
                    rw [HGx.out] at this
                    rw [HL.out]
                    exact this
                  have eR2 : (Instr.lookup 76 (.map (some (W.heap.size + 1 + 1))) (.string x) false).run Yba.prog X2.drew = .ok (.slice (some ⟨g0, 0, none⟩) (L + 1) (L + 1)) X2.drew := by
                    have := HXd.out.drew1.r1.rm.run hk1
                    rw [HGx.out] at this
                    rw [HL.out]
                    exact this
                  have HROW : Hid (L2Row X2.drew g0 (L + 1) (T' x)) := by rw [HL.out]; exact (HXd.out.drew1.r1.rm.row x g0 HGx.out).2
                  have hvL1 : v < L + 1 := by rw [HV.out, HL.out]; have := ver_le (S.V x) fr; omega
                  have hvL2 : (v : Int) < (L : Int) + 1 := by omega
                  go_region_with (go_at_call 27
                                  refine (add_walk g0 (L + 1) v (gd S.en tx) tx (T' x) _ hvL1 HROW.out).mono ?_
                                  rintro e1 w4 ⟨rfl, hr4, hk4⟩
                                  have HR4 : Hid (L2Row w4 g0 (L + 1) (updT (T' x) v (addL (T' x v) (gd S.en tx) tx)) ∧ Kept (fun k => k = g0) X2.drew w4) := ⟨hr4, hk4⟩
                                  clear hr4 hk4)
                  all_goals
                    (go_wp2
                     go_roundg (S.n - (i + 1))
                     case measure => omega
                     case rel =>
                       refine ⟨i + 1, G', _, D', by omega, by go_num, HXd.out.drew1.r1.added HGx.out ⟨by rw [← HKD.out]; exact h1, HXX.out.symm, by rw [← HTX.out]; exact hc⟩ (by rw [← HTX.out]; omega) ?_ HR4.out.2 hnr⟩
                       rw [← HFR.out, ← HV.out, ← HL.out, ← HTX.out]
                       exact HR4.out.1)
      · have b1 : ((kd : Int) == 1) = false := bf h1
        have b1' : ((kd : Int) != 1) = true := nb h1
        as_aux_lemma =>
          go_wp2
          go_quiet (fail)
          go_wp2
          go_roundg (S.n - (i + 1))
          case measure => omega
          case rel => exact ⟨i + 1, G, T, D, by omega, by go_num, ((HR.out.skip (nxt_k (by rw [← HKD.out]; exact h1)) (fun x _ h => h1 (by rw [HKD.out]; exact h.1))).alloc _ _)⟩
    · have hin' : ¬ (i : Int) < (S.n : Int) := by omega
      have ein : i = S.n := by omega
      have HRn : Hid (R1 W S S.n S.n S.n G T D wr) := by rw [← ein]; exact HR.out
      have q1 := (HD.out.below HR.out.bel).sat.2.1
      obtain ⟨D0, ho, hVD⟩ := HD.out.dat.vers
      have HO : Hid (W.ownsMap Yba.prog 9 Rv bv nv D0) := ho
      have HVD : Hid (VD W D0 S.V) := hVD
      have HOw : Hid (wr.ownsMap Yba.prog 9 Rv bv nv D0) := owns_below ho HR.out.bel
      clear ho hVD HR
      as_aux_lemma =>
        go_wp2_with (first
          | (at_range
             refine wpList_range_own _ rfl _ 36 rfl 9 48 K9 Yba.underlying36 Rv bv nv D0 rfl HOw.out ?_
             intro w0 hrg0 hg0 hs0)
          | go_in)
        try go_frame
        have HR2 : Hid (R2 W S bv nv wr.heap.size D0 G T D (Maps.has D0) (Maps.size D0) 0 (fun _ => none) w0) := R2.start HRn.out HO.out HVD.out hrg0 hg0 (fun x hx => by obtain ⟨i, _, rfl⟩ := HG.out.keys x hx; exact kn_size i)
        obtain ⟨r, hr⟩ : ∃ r, r = wr.heap.size := ⟨_, rfl⟩
        rw [← hr] at HR2 ⊢
        clear hr hrg0 hg0 hs0 HOw HRn q1
        go_loopg [16] (Maps.size D0) (fun g _ wr => ∃ left np P, Hid (R2 W S bv nv r D0 G T D left g np P wr))
        case atStart => exact ⟨_, _, _, HR2⟩
        case round =>
          obtain ⟨left, np, P, HQ⟩ := hrel
          as_aux_lemma =>
            go_wp2_with (first
              | (at_next
                 refine wpList_next_vers _ rfl _ rfl bv r nv D0 S.V left gk rfl HQ.out.rc.rg HVD.out ?_ ?_)
              | go_in)
            · intro hl0
              have HPM : Hid (∀ t, MaxIs (PC S t) (P t)) := fun t => q2_end (fun x _ => hl0 (slit x)) (HQ.out.pm t)
              obtain ⟨Dn, hon, him⟩ := HQ.out.rc.nx
              have HON : Hid (wr.ownsMap Yba.prog 3 Rv W.heap.size S.n Dn) := hon
              have HIM : Hid (IM Dn (nextTo S S.n)) := him
              clear hl0 hon him
              as_aux_lemma =>
                go_wp2_with (first
                  | (at_range
                     refine wpList_range_own _ rfl _ 37 rfl 3 3 K3 Yba.underlying37 Rv W.heap.size S.n Dn rfl HON.out ?_
                     intro w0 hrg0 hg0 hs0)
                  | go_in)
                try go_frame
                have HZ : Hid (R4 W S wr.heap.size Dn P np (Maps.has Dn) (Maps.size Dn) false w0) := R4.start HON.out HIM.out HQ.out.rc hrg0 hg0 (fun t a ha => by obtain ⟨k, hk, rfl⟩ := nextTo_txn ha; exact (HG.out.txn k hk).2)
                obtain ⟨r2, hr2⟩ : ∃ r2, r2 = wr.heap.size := ⟨_, rfl⟩
                rw [← hr2] at HZ ⊢
                clear hr2 hrg0 hg0 hs0 HON
                go_loopg [2, 3, 23] (Maps.size Dn) (fun g a _ _ wr => ∃ left f, a = .bool f ∧ Hid (R4 W S r2 Dn P np left g f wr))
                case atStart => exact ⟨_, _, rfl, HZ⟩
                case round =>
                  obtain ⟨left, f, rfl, HZ1⟩ := hrel
                  as_aux_lemma =>
                    go_wp2_with (first
                      | (at_next
                         refine wpList_next_im _ rfl _ rfl W.heap.size r2 S.n Dn (nextTo S S.n) left gk rfl HZ1.out.rg HIM.out ?_ ?_)
                      | go_in)
                    · intro hl0
                      as_aux_lemma =>
                        go_wp2
                        go_ret2
                        exact ⟨f, false, rfl, df_end HZ1.out.df HPM.out (fun t => hl0 _), HB1.out.trans (HZ1.out.bel.mono HB1.out.size)⟩
                    · intro t c w1 cnt1 hlx hmc ht5 hrg1 hlt hg1 hs1 hen
                      have HZ2 : Hid (R4s W S r2 Dn P np left cnt1 t f w1) := HZ1.out.step hrg1 hg1
                      have eP := HZ2.out.pv.run_ok (t := t) (by omega)
                      have eE := (HD.out.below HZ2.out.bel).dat.en.run (t := t) (by omega)
                      have q3 := (HD.out.below HZ2.out.bel).sat.2.2.2
                      have HMC : Hid (nextTo S S.n t = some c) := hmc
                      clear hlx hmc hrg1 hg1 hs1 HZ1
                      cases hP : P t with
                      | none =>
                        rw [hP] at eP
                        simp only [Option.isSome_none] at eP
                        as_aux_lemma =>
                          go_wp2
                          go_roundg cnt1
                          case measure => exact hlt
                          case rel => exact ⟨_, f, rfl, HZ2.out.no hP⟩
                      | some d =>
                        have hgd : gd P t = d := by unfold gd; rw [hP]; rfl
                        rw [hP, hgd] at eP
                        simp only [Option.isSome_some] at eP
                        by_cases h1 : c < gd S.en t
                        · have b1 : (c : Int) < ((gd S.en t : Nat) : Int) := by omega
                          by_cases h2 : c ≤ d
                          · have b2 : (c : Int) ≤ (d : Int) := by omega
                            as_aux_lemma =>
                              go_wp2
                              go_ret2
                              exact ⟨true, true, rfl, df_hit HPM.out HMC.out hP ⟨h1, h2⟩, HB1.out.trans (HZ2.out.bel.mono HB1.out.size)⟩
                          · have b2 : ¬ (c : Int) ≤ (d : Int) := by omega
                            as_aux_lemma =>
                              go_wp2
                              go_roundg cnt1
                              case measure => exact hlt
                              case rel => exact ⟨_, true, rfl, HZ2.out.yes HMC.out hP (fun h => h2 h.2)⟩
                        · have b1 : ¬ (c : Int) < ((gd S.en t : Nat) : Int) := by omega
                          as_aux_lemma =>
                            go_wp2
                            go_roundg cnt1
                            case measure => exact hlt
                            case rel => exact ⟨_, true, rfl, HZ2.out.yes HMC.out hP (fun h => h1 h.1)⟩
            · intro x A' C' w1 cnt1 hlx hVx hI hrg1 hlt hg1 hs1 hen
              have hx1 : x.size ≤ 1 := by obtain ⟨i, _, rfl⟩ := HG.out.keys x hVx; exact kn_size i
              have HI : Hid (IntsAt W A' (S.V x)) := hI
              have hlen := HG.out.len x
              have HR3 : Hid (R3 W S bv nv r D0 G T D left cnt1 np P x 0 0 w1.heap.size l2z (w1.alloc (.cells #[.int .i64 0, .int .i64 0, .int .i64 0, .int .i64 0] 81))) := HQ.out.inner hrg1 hlt hg1 (l2_new w1)
              obtain ⟨L, hL⟩ : ∃ L, L = (S.V x).length := ⟨_, rfl⟩
              rw [← hL] at hen hlen ⊢
              have HL : Hid (L = (S.V x).length) := hL
              have HVX : Hid (S.V x ≠ []) := hVx
              clear hI hrg1 hg1 hlx hVx hL hs1 HQ
              as_aux_lemma =>
                go_wp2
                obtain ⟨Wn, hWn⟩ : ∃ Wn, Wn = w1.alloc (.cells #[.int .i64 0, .int .i64 0, .int .i64 0, .int .i64 0] 81) := ⟨_, rfl⟩
                obtain ⟨cb, hcb⟩ : ∃ cb, cb = w1.heap.size := ⟨_, rfl⟩
                rw [← hWn, ← hcb] at HR3 ⊢
                clear hWn hcb hen
                go_loopg [162] L (fun g a wr => ∃ (j np : Nat) (P : Nat → Option Nat) (l : L2), a = .int .i64 j ∧ j + g = L ∧ Hid (R3 W S bv nv r D0 G T D left cnt1 np P x j j cb l wr))
                case atStart => exact ⟨0, _, _, _, rfl, Nat.zero_add _, HR3⟩
                case round =>
                  obtain ⟨j, np, P, l, rfl, hjg, HQ⟩ := hrel
                  by_cases hjL : j < L
                  · have hjL' : (j : Int) < (L : Int) := by omega
                    have hjl2 : j < (S.V x).length := by rw [← HL.out]; exact hjL
                    obtain ⟨g', rfl, hcy⟩ := (HI.out.below HQ.out.rc.bel) j hjl2
                    obtain ⟨y, hy⟩ : ∃ y, y = (S.V x).getD j 0 := ⟨_, rfl⟩
                    rw [← hy] at hcy
                    have hy5 : y ≤ 5 := by rw [hy]; exact (HG.out.V5 x _ (getD_mem hjl2)).2
                    have HY : Hid (y = (S.V x).getD j 0) := hy
                    have eR := HQ.out.rc.rm.run hx1
                    have hnn := fun W A L C => run_neq_slice_nil_any (P := Yba.prog) W 78 81 A L C 0 0 Yba.underlying78
                    clear hy hjl2
                    cases hGx : G x with
                    | none =>
                      rw [hGx] at eR
                      have eR' : (Instr.lookup 76 (.map (some (W.heap.size + 1 + 1))) (.string x) false).run Yba.prog wr = .ok (.slice none 0 0) wr := eR
                      have HQ1 : Hid (R3 W S bv nv r D0 G T D left cnt1 np P x j (j + 1) cb l wr) := HQ.out.gather (xb_none HQ.out.lt (HQ.out.rc.rp.no x HVX.out hGx)) HQ.out.row (Kept.refl _ _)
                      clear eR
                      go_upto_region 31 with fail
                      refine name_world (fun X => ∃ l', Hid (R3 W S bv nv r D0 G T D left cnt1 np P x j (j + 1) cb l' X)) ⟨_, HQ1⟩ ?_
                      clear eR' HQ1 HQ hGx hcy
                      rintro X ⟨l', HQ1⟩
                      have HOW : Hid (∀ X', L2Row X' cb 1 (fun _ => l') → Calls Yba.prog 29 #[.pointer (some ⟨cb, 0, none⟩), .int .i64 (y : Int)] X' fun e w' => e = .returned (.tuple #[.int .i64 (otherV l' y : Nat), .bool (otherB l' y)]) ∧ Below X'.heap.size X' w') := fun X' h => other0_walk cb y l' X' h
                      have hnp : np < 1000000000000 := by have h1 := HQ1.out.np; rw [mb, Nat.succ_mul] at h1; have h2 : nv * 100000 ≤ 1000 * 100000 := Nat.mul_le_mul_right _ hnv; omega
                      cases hob : otherB l' y with
                      | false =>
                        rw [hob] at HOW
                        as_aux_lemma =>
                          go_wp2_with (first
                            | (go_at_call 29
                               refine (HOW.out _ HQ1.out.row).mono ?_
                               rintro e1 w5 ⟨rfl, hb5⟩
                               have HQ5 : Hid (R3 W S bv nv r D0 G T D left cnt1 np P x j (j + 1) cb l' w5) := HQ1.out.kept hb5
                               have eS := (HD.out.below HQ5.out.rc.bel).dat.st.run (t := y) (by omega)
                               have q2 := (HD.out.below HQ5.out.rc.bel).sat.2.2.1
                               have eP := HQ5.out.rc.pv.run (t := y) (by omega)
                               clear hb5))
                          go_roundg (L - (j + 1))
                          case measure => omega
                          case rel => exact ⟨j + 1, np, P, l', by go_num, by omega, HQ5.out.skip HY.out.symm (.inl hob)⟩
                      | true =>
                        rw [hob] at HOW
                        by_cases hst : gd S.st y < otherV l' y
                        · have b1 : ((gd S.st y : Nat) : Int) < ((otherV l' y : Nat) : Int) := by omega
                          as_aux_lemma =>
                            go_wp2_with (first
                              | (go_at_call 29
                                 refine (HOW.out _ HQ1.out.row).mono ?_
                                 rintro e1 w5 ⟨rfl, hb5⟩
                                 have HQ5 : Hid (R3 W S bv nv r D0 G T D left cnt1 np P x j (j + 1) cb l' w5) := HQ1.out.kept hb5
                                 have eS := (HD.out.below HQ5.out.rc.bel).dat.st.run (t := y) (by omega)
                                 have q2 := (HD.out.below HQ5.out.rc.bel).sat.2.2.1
                                 have eP := HQ5.out.rc.pv.run (t := y) (by omega)
                                 clear hb5)
                              | (at_mapUpdate
                                 refine wpList_store_i2 _ rfl _ _ _ rfl (W.heap.size + 1) np P rfl HQ5.out.rc.pv hnp y (Nat.max (gd P y) (otherV l' y)) rfl _ rfl ?hcz hy5 ?_
                                 case hcz => exact imax (by simp)
                                 intro w6 him hg6
                                 have HQ6 : Hid (R3 W S bv nv r D0 G T D left cnt1 (np + 1) (upd P y (Nat.max (gd P y) (otherV l' y))) x (j + 1) (j + 1) cb l' w6) := HQ5.out.take HY.out.symm hob hst him hg6
                                 clear him hg6
                                 refine Hid.out ?_))
                            all_goals
                              (refine hid_of ?_
                               as_aux_lemma =>
                                 go_wp2
                                 go_roundg (L - (j + 1))
                                 case measure => omega
                                 case rel => exact ⟨j + 1, np + 1, _, l', by go_num, by omega, HQ6⟩)
                        · have b1 : ¬ ((gd S.st y : Nat) : Int) < ((otherV l' y : Nat) : Int) := by omega
                          as_aux_lemma =>
                            go_wp2_with (first
                              | (go_at_call 29
                                 refine (HOW.out _ HQ1.out.row).mono ?_
                                 rintro e1 w5 ⟨rfl, hb5⟩
                                 have HQ5 : Hid (R3 W S bv nv r D0 G T D left cnt1 np P x j (j + 1) cb l' w5) := HQ1.out.kept hb5
                                 have eS := (HD.out.below HQ5.out.rc.bel).dat.st.run (t := y) (by omega)
                                 have q2 := (HD.out.below HQ5.out.rc.bel).sat.2.2.1
                                 have eP := HQ5.out.rc.pv.run (t := y) (by omega)
                                 clear hb5))
                            go_roundg (L - (j + 1))
                            case measure => omega
                            case rel => exact ⟨j + 1, np, P, l', by go_num, by omega, HQ5.out.skip HY.out.symm (.inr hst)⟩
                    | some g0 =>
                      rw [hGx] at eR
                      have eR' : (Instr.lookup 76 (.map (some (W.heap.size + 1 + 1))) (.string x) false).run Yba.prog wr = .ok (.slice (some ⟨g0, 0, none⟩) (L + 1) (L + 1)) wr := by rw [HL.out]; exact eR
                      clear eR
                      have hrow := (HQ.out.rc.rm.row x g0 hGx).2
                      obtain ⟨m0, m1, m2, m3⟩ := hrow.cells (i := j) (by rw [← HL.out]; omega)
                      have hjL1 : (j : Int) < (L : Int) + 1 := by omega
                      have HLT : Hid (LT (T x j) (Xs S S.n x j) (gd S.en)) := (HQ.out.rc.rp.row x (by rw [hGx]; simp)).2 j (by rw [← HL.out]; omega)
                      clear hrow
                      go_upto_region 31 with (first
                        | (go_at_call 28
                           refine (merge_walk cb l (T x j) _ HQ.out.row).mono ?_
                           rintro e1 w4 ⟨rfl, hr4, hk4⟩
                           have HQ1 : Hid (R3 W S bv nv r D0 G T D left cnt1 np P x j (j + 1) cb (mergeL l (T x j)) w4) := HQ.out.gather (xb_merge HQ.out.lt HLT.out) hr4 hk4
                           clear hr4 hk4))
                      refine name_world (fun X => ∃ l', Hid (R3 W S bv nv r D0 G T D left cnt1 np P x j (j + 1) cb l' X)) ⟨_, HQ1⟩ ?_
                      clear eR' HQ1 HQ hGx hcy HLT m0 m1 m2 m3
                      rintro X ⟨l', HQ1⟩
                      have HOW : Hid (∀ X', L2Row X' cb 1 (fun _ => l') → Calls Yba.prog 29 #[.pointer (some ⟨cb, 0, none⟩), .int .i64 (y : Int)] X' fun e w' => e = .returned (.tuple #[.int .i64 (otherV l' y : Nat), .bool (otherB l' y)]) ∧ Below X'.heap.size X' w') := fun X' h => other0_walk cb y l' X' h
                      have hnp : np < 1000000000000 := by have h1 := HQ1.out.np; rw [mb, Nat.succ_mul] at h1; have h2 : nv * 100000 ≤ 1000 * 100000 := Nat.mul_le_mul_right _ hnv; omega
                      cases hob : otherB l' y with
                      | false =>
                        rw [hob] at HOW
                        as_aux_lemma =>
                          go_wp2_with (first
                            | (go_at_call 29
                               refine (HOW.out _ HQ1.out.row).mono ?_
                               rintro e1 w5 ⟨rfl, hb5⟩
                               have HQ5 : Hid (R3 W S bv nv r D0 G T D left cnt1 np P x j (j + 1) cb l' w5) := HQ1.out.kept hb5
                               have eS := (HD.out.below HQ5.out.rc.bel).dat.st.run (t := y) (by omega)
                               have q2 := (HD.out.below HQ5.out.rc.bel).sat.2.2.1
                               have eP := HQ5.out.rc.pv.run (t := y) (by omega)
                               clear hb5))
                          go_roundg (L - (j + 1))
                          case measure => omega
                          case rel => exact ⟨j + 1, np, P, l', by go_num, by omega, HQ5.out.skip HY.out.symm (.inl hob)⟩
                      | true =>
                        rw [hob] at HOW
                        by_cases hst : gd S.st y < otherV l' y
                        · have b1 : ((gd S.st y : Nat) : Int) < ((otherV l' y : Nat) : Int) := by omega
                          as_aux_lemma =>
                            go_wp2_with (first
                              | (go_at_call 29
                                 refine (HOW.out _ HQ1.out.row).mono ?_
                                 rintro e1 w5 ⟨rfl, hb5⟩
                                 have HQ5 : Hid (R3 W S bv nv r D0 G T D left cnt1 np P x j (j + 1) cb l' w5) := HQ1.out.kept hb5
                                 have eS := (HD.out.below HQ5.out.rc.bel).dat.st.run (t := y) (by omega)
                                 have q2 := (HD.out.below HQ5.out.rc.bel).sat.2.2.1
                                 have eP := HQ5.out.rc.pv.run (t := y) (by omega)
                                 clear hb5)
                              | (at_mapUpdate
                                 refine wpList_store_i2 _ rfl _ _ _ rfl (W.heap.size + 1) np P rfl HQ5.out.rc.pv hnp y (Nat.max (gd P y) (otherV l' y)) rfl _ rfl ?hcz hy5 ?_
                                 case hcz => exact imax (by simp)
                                 intro w6 him hg6
                                 have HQ6 : Hid (R3 W S bv nv r D0 G T D left cnt1 (np + 1) (upd P y (Nat.max (gd P y) (otherV l' y))) x (j + 1) (j + 1) cb l' w6) := HQ5.out.take HY.out.symm hob hst him hg6
                                 clear him hg6
                                 refine Hid.out ?_))
                            all_goals
                              (refine hid_of ?_
                               as_aux_lemma =>
                                 go_wp2
                                 go_roundg (L - (j + 1))
                                 case measure => omega
                                 case rel => exact ⟨j + 1, np + 1, _, l', by go_num, by omega, HQ6⟩)
                        · have b1 : ¬ ((gd S.st y : Nat) : Int) < ((otherV l' y : Nat) : Int) := by omega
                          as_aux_lemma =>
                            go_wp2_with (first
                              | (go_at_call 29
                                 refine (HOW.out _ HQ1.out.row).mono ?_
                                 rintro e1 w5 ⟨rfl, hb5⟩
                                 have HQ5 : Hid (R3 W S bv nv r D0 G T D left cnt1 np P x j (j + 1) cb l' w5) := HQ1.out.kept hb5
                                 have eS := (HD.out.below HQ5.out.rc.bel).dat.st.run (t := y) (by omega)
                                 have q2 := (HD.out.below HQ5.out.rc.bel).sat.2.2.1
                                 have eP := HQ5.out.rc.pv.run (t := y) (by omega)
                                 clear hb5))
                            go_roundg (L - (j + 1))
                            case measure => omega
                            case rel => exact ⟨j + 1, np, P, l', by go_num, by omega, HQ5.out.skip HY.out.symm (.inr hst)⟩
                  · have hjL' : ¬ (j : Int) < (L : Int) := by omega
                    have hjeq : j = (S.V x).length := by rw [← HL.out]; omega
                    as_aux_lemma =>
                      go_wp2
                      go_roundg cnt1
                      case measure => exact hlt
                      case rel => exact ⟨_, _, _, R3.done (hjeq ▸ HQ.out) (by rw [mb]; exact HG.out.len x)⟩
end Go.Proofs.Ybulkdkuc.Sc
