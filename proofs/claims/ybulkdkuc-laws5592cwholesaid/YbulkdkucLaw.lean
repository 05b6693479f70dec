/-
  The law (4), walked.
-/
import Derived.Test.YbulkdkucLaw0
import Derived.Test.YbulkdkucModel
import Derived.Test.YbulkdkucDgW
import Derived.Test.YbulkdkucBdW
namespace Go.Proofs.Ybulkdkuc.Sc
open Go.RowKit Go.Maps

set_option maxRecDepth 1000000 in
set_option maxHeartbeats 80000000 in
theorem law_walk (a : Option Addr) (len cap : Nat) (R : Nat → Raw) (w : World) (hR : RawAt w a len R) (hok : RawOk len R) : Calls Yba.prog 4 #[.slice a len cap] w fun e w' => e = .returned (.bool true) ∧ Below w.heap.size w w' := by
  have HR : Hid (RawAt w a len R) := hR
  have HK : Hid (RawOk len R) := hok
  clear hR hok
  by_cases hl : len ≤ 4096
  · have hl' : ¬ (4096 : Int) < (len : Int) := by omega
    go_enter Yba.func4, Yba.ntmps4
    go_upto_region 3 with fail
    go_wp2_with (first
      | (go_at_call 11
         refine (build_walk a len cap R w hl HR.out HK.out).mono ?_
         rintro e w1 ⟨S, A, C, bv, nv, bs, ns, be, ne, rfl, hG, hD, hnil, hnv, hb1⟩
         have HG : Hid (Good S) := hG
         have HD1 : Hid (Dat w1 S A bv nv bs ns be ne) := hD
         have HN : Hid (S.n = 0 → A = none ∧ C = 0) := hnil
         have HB1 : Hid (Below w.heap.size w w1) := hb1
         clear hG hD hnil hb1)
      | (go_at_call 12
         refine (model_walk S HG.out A C bv nv bs ns be ne w1 HD1.out).mono ?_
         rintro e w2 ⟨f, es, rfl, hans, hb2⟩
         have HA : Hid (Ans S f es) := hans
         have HD2 : Hid (Dat w2 S A bv nv bs ns be ne) := HD1.out.below hb2
         have HB2 : Hid (Below w.heap.size w w2) := below_on HB1.out HB1.out.size hb2
         clear hans hb2)
      | (go_at_call 13
         refine (clone13_walk A C S.n S.O w2 (by have := HG.out.n_le; omega) HN.out HD2.out.ops).mono ?_
         rintro e w3 ⟨A2, C2, rfl, hcp, _, hb3⟩
         have HD3 : Hid (Dat w3 S A bv nv bs ns be ne) := HD2.out.below hb3
         have HCP : Hid (OpsAt w3 A2 S.n S.O) := hcp
         have HB3 : Hid (Below w.heap.size w w3) := below_on HB2.out HB2.out.size hb3
         clear hcp hb3)
      | (go_at_call 14
         refine (keys_walk w3).mono ?_
         rintro e W ⟨rfl, hb4⟩
         have HLD0 : Hid (∃ DV DS DE, LD w W S A A2 bv nv bs ns be ne DV DS DE) := by
           obtain ⟨o1, ⟨DV, q1, q2⟩, ⟨DS, q3, q4⟩, ⟨DE, q5, q6⟩⟩ := HD3.out.below hb4
           exact ⟨DV, DS, DE, ⟨below_on HB3.out HB3.out.size hb4, o1, HCP.out.below hb4, q1, q3, q5, q2, q4, q6⟩⟩
         clear hb4)
      | go_in)
    obtain ⟨DV, DS, DE, hLD⟩ := HLD0.out
    have HLD : Hid (LD w W S A A2 bv nv bs ns be ne DV DS DE) := hLD
    clear hLD HLD0 HD1 HD2 HD3 HB1 HB2 HB3 HCP HN HR HK
    obtain ⟨bq, hbq⟩ : ∃ b, b = W.heap.size := ⟨_, rfl⟩
    have HBQ : Hid (bq = W.heap.size) := hbq
    refine name_world (fun X => Hid (LV W S 0 (fun _ => .slice none 0 0) X)) (LV.start W S) ?_
    intro X0 HV0
    rw [← hbq]
    clear hbq
    go_loopg [12] 3 (fun g a wr => ∃ (k : Nat) (vs : Nat → Value), k + g = 3 ∧ a = .int .i64 k ∧ Hid (LV W S k vs wr))
    case atStart => exact ⟨0, _, rfl, rfl, HV0⟩
    case round =>
      clear HV0
      obtain ⟨k, vs, hkg, rfl, HV⟩ := hrel
      by_cases hk3 : k < 3
      · have hk3' : (k : Int) < 3 := by omega
        have hkk := HV.out.key hk3
        rw [← HBQ.out] at hkk
        have HLW := HLD.out.below HV.out.bel
        obtain ⟨Ak, Ck, hrun, hIk, h0k⟩ := HLW.vd.run HLW.oV (kn_size k)
        have hrun' := hrun false
        simp only [Bool.false_eq_true, if_false] at hrun'
        have hlen := HG.out.len (kn k)
        have HCW : Hid (Calls Yba.prog 15 #[.slice Ak (S.V (kn k)).length Ck] wr fun e w' => ∃ A' C', e = .returned (.slice A' (S.V (kn k)).length C') ∧ IntsAt w' A' (S.V (kn k)) ∧ A'.isNone = ((S.V (kn k)).length == 0) ∧ Below wr.heap.size wr w') := clone15_walk Ak Ck (S.V (kn k)) wr hlen h0k hIk
        clear hrun hIk h0k HLW hlen
        go_wp2_with (first
          | (go_at_call 15
             refine (HCW.out).mono ?_
             rintro e w2 ⟨A', C', rfl, hI', hA', hb2⟩
             have HV2 : Hid (LV W S k vs w2) := HV.out.below hb2
             have HV3 : Hid (LV W S (k + 1) (updV vs k (.slice A' (S.V (kn k)).length C')) (w2.setCell ⟨W.heap.size + 1, k, none⟩ (.slice A' (S.V (kn k)).length C'))) := HV2.out.store hk3 hI' hA'
             have c4 := HV2.out.at hk3
             have f4 : w2.frozen? ⟨bq + 1, k, none⟩ = false := by rw [HBQ.out]; exact frozen_of HV2.out.vc
             rw [← HBQ.out] at c4
             clear hI' hA' hb2)
          | go_in)
        go_roundg (3 - (k + 1))
        case measure => omega
        case rel => exact ⟨k + 1, _, by omega, by go_num, by have := HV3.out; rw [← HBQ.out] at this; exact this⟩
      · have hk3' : ¬ (k : Int) < 3 := by omega
        obtain rfl : k = 3 := by omega
        obtain ⟨X1, hX1⟩ : ∃ X, X = wr := ⟨_, rfl⟩
        subst hX1
        have HL1 : Hid (LD w X1 S A A2 bv nv bs ns be ne DV DS DE) := HLD.out.below HV.out.bel
        have eLV : ∀ ty, (Builtin.len_ #[36] ty #[.map (some bv)]).run Yba.prog X1 = .ok (.int .i64 (Maps.size DV)) X1 := fun ty => HL1.out.oV.len Yba.underlying36 ty
        go_upto_region 15 with fail
        clear eLV
        obtain ⟨q, hq⟩ : ∃ b, b = X1.heap.size := ⟨_, rfl⟩
        refine name_world (fun X => Hid (LS q S 1 1 (fun _ => .int .i64 0) (fun _ => .int .i64 0) (fun _ => .bool false) (fun _ => .bool false) X) ∧ Hid (Below X1.heap.size X1 X)) (by rw [hq]; exact ⟨LS.start X1 S, below4 X1 _ _ _ _⟩) ?_
        rintro Y0 ⟨HS0, HBY0⟩
        rw [← hq]
        have HQ : Hid (q = X1.heap.size) := hq
        clear hq
        go_wp2
        go_loopg [18] 5 (fun g a wr => ∃ (t : Nat) (F1 F2 F3 F4 : Nat → Value), t + g = 6 ∧ 1 ≤ t ∧ a = .int .i64 t ∧ Hid (LS q S t t F1 F2 F3 F4 wr) ∧ Hid (Below X1.heap.size X1 wr))
        case atStart => exact ⟨1, _, _, _, _, rfl, Nat.le_refl _, rfl, HS0, HBY0⟩
        case round =>
          clear HS0 HBY0
          obtain ⟨t, F1, F2, F3, F4, htg, ht1, rfl, HS, HBY⟩ := hrel
          by_cases ht5 : t ≤ 5
          · have ht5' : (t : Int) ≤ 5 := by omega
            have ht6' : (t : Int) < 6 := by omega
            have HLW := HL1.out.below HBY.out
            have eS := HLW.sd.run_ok HLW.oS (t := t) (by omega)
            have c1 := six_cell HS.out.b1 ht5
            have f1 : wr.frozen? ⟨q, t, none⟩ = false := frozen_of HS.out.b1
            have c3 : wr.cell? ⟨q + 1 + 1, t, none⟩ = some (F3 t) := six_cell HS.out.b3 ht5
            have f3 : wr.frozen? ⟨q + 1 + 1, t, none⟩ = false := frozen_of HS.out.b3
            have c3' : (wr.setCell ⟨q, t, none⟩ (.int .i64 (gd S.st t : Nat))).cell? ⟨q + 1 + 1, t, none⟩ = some (F3 t) := six_cell (six_other HS.out.b3 _ (by omega)) ht5
            have f3' : (wr.setCell ⟨q, t, none⟩ (.int .i64 (gd S.st t : Nat))).frozen? ⟨q + 1 + 1, t, none⟩ = false := frozen_of (six_other HS.out.b3 _ (by omega))
            clear HLW
            go_upto_region 19 with fail
            refine name_world (fun X => Hid (LS q S (t + 1) t (updV F1 t (.int .i64 (gd S.st t : Nat))) F2 (updV F3 t (.bool (S.st t).isSome)) F4 X) ∧ Hid (Below X1.heap.size X1 X)) ⟨HS.out.one ht5, below_set (below_set HBY.out _ (by rw [HQ.out]; exact Nat.le_refl _)) _ (by have := HQ.out; omega)⟩ ?_
            rintro X5 ⟨HS5, HBY5⟩
            clear c1 f1 c3 f3 c3' f3' eS HS HBY
            have HLW := HL1.out.below HBY5.out
            have eE := HLW.ed.run_ok HLW.oE (t := t) (by omega)
            have c2 := six_cell HS5.out.b2 ht5
            have f2 : X5.frozen? ⟨q + 1, t, none⟩ = false := frozen_of HS5.out.b2
            have c4 : X5.cell? ⟨q + 1 + 1 + 1, t, none⟩ = some (F4 t) := six_cell HS5.out.b4 ht5
            have f4 : X5.frozen? ⟨q + 1 + 1 + 1, t, none⟩ = false := frozen_of HS5.out.b4
            have c4' : (X5.setCell ⟨q + 1, t, none⟩ (.int .i64 (gd S.en t : Nat))).cell? ⟨q + 1 + 1 + 1, t, none⟩ = some (F4 t) := six_cell (six_other HS5.out.b4 _ (by omega)) ht5
            have f4' : (X5.setCell ⟨q + 1, t, none⟩ (.int .i64 (gd S.en t : Nat))).frozen? ⟨q + 1 + 1 + 1, t, none⟩ = false := frozen_of (six_other HS5.out.b4 _ (by omega))
            clear HLW
            go_wp2
            go_roundg (5 - t)
            case measure => omega
            case rel => exact ⟨t + 1, _, _, _, _, by omega, by omega, by go_num, HS5.out.two ht5, below_set (below_set HBY5.out _ (by have := HQ.out; omega)) _ (by have := HQ.out; omega)⟩
          · have ht5' : ¬ (t : Int) ≤ 5 := by omega
            obtain rfl : t = 6 := by omega
            have HLW := HL1.out.below HBY.out
            have eLS : ∀ ty, (Builtin.len_ #[37] ty #[.map (some bs)]).run Yba.prog wr = .ok (.int .i64 (Maps.size DS)) wr := fun ty => HLW.oS.len Yba.underlying37 ty
            have eLE : ∀ ty, (Builtin.len_ #[37] ty #[.map (some be)]).run Yba.prog wr = .ok (.int .i64 (Maps.size DE)) wr := fun ty => HLW.oE.len Yba.underlying37 ty
            clear HLW
            go_upto_region 22 with fail
            clear eLS eLE
            obtain ⟨bS, hbS⟩ : ∃ b, b = wr.heap.size := ⟨_, rfl⟩
            refine name_world (fun X => Hid (LF w W S A A2 C bv nv bs ns be ne q bS DV DS DE vs F1 F2 F3 F4 X)) (by rw [hbS]; exact LF.made HL1.out HV.out HBY.out HS.out) ?_
            intro X3 HF3
            rw [← hbS]
            clear hbS HS HBY HL1 HV HLD
            go_upto_region 23 with (first
              | (go_at_call 16
                 refine (dg_walk S HG.out A C bS bv nv bs ns be ne X3 hnv HF3.out.ld.dat HF3.out.sat).mono ?_
                 rintro e X4 ⟨f2, es2, rfl, hans2, hb4⟩
                 have HF4 : Hid (LF w W S A A2 C bv nv bs ns be ne q bS DV DS DE vs F1 F2 F3 F4 X4) := HF3.out.below hb4
                 have hff : f = f2 := (Ans.uniq HA.out hans2).1
                 have hee : es = es2 := (Ans.uniq HA.out hans2).2
                 subst hff
                 subst hee
                 clear hans2 hb4)
              | go_in)
            have hs0 := HF4.out.sat.1
            have HCE : Hid (Calls Yba.prog 17 #[.slice A S.n C, .slice A2 S.n C2] X4 fun e w' => e = .returned (.bool true) ∧ ∃ n, w' = X4.drewN n) := equal17_walk A A2 C C2 S.n S.O X4 (by have := HG.out.n_le; omega) HF4.out.ld.ops HF4.out.ld.cpy
            go_upto_region 27 with (first
              | (go_at_call 17
                 refine (HCE.out).mono ?_
                 rintro e X5 ⟨rfl, m5, hm5⟩
                 have HF5 : Hid (LF w W S A A2 C bv nv bs ns be ne q bS DV DS DE vs F1 F2 F3 F4 X5) := by rw [hm5]; exact HF4.out.below (below_drew _ _)
                 have hs1 := HF5.out.sat.2.1
                 have hs2 := HF5.out.sat.2.2.1
                 have hs3 := HF5.out.sat.2.2.2
                 have eLV : ∀ ty, (Builtin.len_ #[36] ty #[.map (some bv)]).run Yba.prog X5 = .ok (.int .i64 (Maps.size DV)) X5 := fun ty => HF5.out.ld.oV.len Yba.underlying36 ty
                 have eLS : ∀ ty, (Builtin.len_ #[37] ty #[.map (some bs)]).run Yba.prog X5 = .ok (.int .i64 (Maps.size DS)) X5 := fun ty => HF5.out.ld.oS.len Yba.underlying37 ty
                 have eLE : ∀ ty, (Builtin.len_ #[37] ty #[.map (some be)]).run Yba.prog X5 = .ok (.int .i64 (Maps.size DE)) X5 := fun ty => HF5.out.ld.oE.len Yba.underlying37 ty
                 clear hm5)
              | go_in)
            clear hs0 HCE HF4 HF3 hs1 hs2 hs3 eLV eLS eLE
            go_wp2
            go_loopg [24] 3 (fun g a wr => ∃ k : Nat, k + g = 3 ∧ a = .int .i64 k ∧ Hid (LF w W S A A2 C bv nv bs ns be ne q bS DV DS DE vs F1 F2 F3 F4 wr))
            case atStart => exact ⟨0, rfl, rfl, HF5⟩
            case round =>
              clear HF5
              obtain ⟨k, hkg, rfl, HF⟩ := hrel
              by_cases hk3 : k < 3
              · have hk3' : (k : Int) < 3 := by omega
                have hs1 := HF.out.sat.2.1
                have hkk := HF.out.lv.key hk3
                have hvc := HF.out.lv.at hk3
                rw [← HBQ.out] at hkk hvc
                obtain ⟨A5, C5, hrun, hI5⟩ := HF.out.ld.vd.runs_ok HF.out.ld.oV (kn_size k)
                have eV : ∀ m, (Instr.lookup 36 (.map (some bv)) (.string (kn k)) true).run Yba.prog (wr.drewN m) = .ok (.tuple #[.slice A5 (S.V (kn k)).length C5, .bool ((S.V (kn k)).length != 0)]) (wr.drewN m) := fun m => hrun _ (below_drew wr m)
                have eV0 := hrun wr (Below.refl _ _)
                obtain ⟨A6, C6, hv6, hI6, hA6⟩ := HF.out.lv.rows k hk3
                rw [hv6] at hvc
                have HCE : Hid (∀ m, Calls Yba.prog 18 #[.slice A5 (S.V (kn k)).length C5, .slice A6 (S.V (kn k)).length C6] (wr.drewN m) fun e w' => e = .returned (.bool true) ∧ ∃ n, w' = (wr.drewN m).drewN n) :=
                  fun m => equal18_walk A5 A6 C5 C6 (S.V (kn k)) (wr.drewN m) (HG.out.len (kn k)) (hI5.below (below_drew wr m)) (hI6.below (below_drew wr m))
                have neq0 := fun W A L C => run_neq_slice_nil_any (P := Yba.prog) W 48 3 A L C 0 0 Yba.underlying48
                obtain ⟨L, hL⟩ : ∃ L, L = (S.V (kn k)).length := ⟨_, rfl⟩
                rw [← hL] at eV0 hA6 hvc
                simp only [← hL] at eV HCE
                clear hrun hI5 hI6 hv6 hL
                by_cases hL0 : L = 0
                · have hz : A6 = none := by
                    rw [hL0] at hA6
                    cases A6 with
                    | none => rfl
                    | some x => simp at hA6
                  have hz2 : (L != 0) = false := by rw [hL0]; rfl
                  rw [hz2] at eV0
                  simp only [hz2] at eV
                  subst hz
                  clear hA6 hz2
                  subst hL0
                  go_upto_region 30 with fail
                  go_quiet (fail)
                  go_wp2_with (first
                    | (go_at_call 18
                       refine (HCE.out _).mono ?_
                       rintro e X7 ⟨rfl, m7, hm7⟩
                       have HF7 : Hid (LF w W S A A2 C bv nv bs ns be ne q bS DV DS DE vs F1 F2 F3 F4 X7) := by rw [hm7]; exact (HF.out.below (below_drew _ _)).below (below_drew _ _)
                       clear hm7))
                  go_roundg (3 - (k + 1))
                  case measure => omega
                  case rel => exact ⟨k + 1, by omega, by go_num, HF7⟩
                · have hz2 : (L != 0) = true := by simpa using hL0
                  obtain ⟨x6, hz⟩ : ∃ x6, A6 = some x6 := by
                    rw [show (L == 0) = false by simpa using hL0] at hA6
                    cases A6 with
                    | none => simp at hA6
                    | some x => exact ⟨x, rfl⟩
                  rw [hz2] at eV0
                  simp only [hz2] at eV
                  subst hz
                  clear hA6 hz2 hL0
                  go_upto_region 30 with fail
                  go_quiet (fail)
                  go_wp2_with (first
                    | (go_at_call 18
                       refine (HCE.out _).mono ?_
                       rintro e X7 ⟨rfl, m7, hm7⟩
                       have HF7 : Hid (LF w W S A A2 C bv nv bs ns be ne q bS DV DS DE vs F1 F2 F3 F4 X7) := by rw [hm7]; exact (HF.out.below (below_drew _ _)).below (below_drew _ _)
                       clear hm7))
                  go_roundg (3 - (k + 1))
                  case measure => omega
                  case rel => exact ⟨k + 1, by omega, by go_num, HF7⟩
              · have hk3' : ¬ (k : Int) < 3 := by omega
                obtain ⟨X8, hX8⟩ : ∃ X, X = wr := ⟨_, rfl⟩
                subst hX8
                go_wp2
                go_loopg [27] 5 (fun g a wr => ∃ t : Nat, t + g = 6 ∧ 1 ≤ t ∧ a = .int .i64 t ∧ wr = X8)
                case atStart => exact ⟨1, rfl, Nat.le_refl _, rfl, rfl⟩
                case round =>
                  obtain ⟨t, htg, ht1, rfl, hw⟩ := hrel
                  subst hw
                  by_cases ht5 : t ≤ 5
                  · have ht5' : (t : Int) ≤ 5 := by omega
                    have ht6' : (t : Int) < 6 := by omega
                    have hs2 := HF.out.sat.2.2.1
                    have hs3 := HF.out.sat.2.2.2
                    have eS := HF.out.ld.sd.run_ok HF.out.ld.oS (t := t) (by omega)
                    have eE := HF.out.ld.ed.run_ok HF.out.ld.oE (t := t) (by omega)
                    have c1 := six_cell HF.out.ls.b1 ht5
                    have c2 := six_cell HF.out.ls.b2 ht5
                    have c3 : wr.cell? ⟨q + 1 + 1, t, none⟩ = some (F3 t) := six_cell HF.out.ls.b3 ht5
                    have c4 : wr.cell? ⟨q + 1 + 1 + 1, t, none⟩ = some (F4 t) := six_cell HF.out.ls.b4 ht5
                    rw [HF.out.ls.v1 t ht1 (by omega)] at c1
                    rw [HF.out.ls.v2 t ht1 (by omega)] at c2
                    rw [HF.out.ls.v3 t ht1 (by omega)] at c3
                    rw [HF.out.ls.v4 t ht1 (by omega)] at c4
                    obtain ⟨p1, hp1⟩ : ∃ p, p = (S.st t).isSome := ⟨_, rfl⟩
                    obtain ⟨p2, hp2⟩ : ∃ p, p = (S.en t).isSome := ⟨_, rfl⟩
                    rw [← hp1] at eS c3
                    rw [← hp2] at eE c4
                    clear hp1 hp2
                    go_wp2
                    go_roundg (5 - t)
                    case measure => omega
                    case rel => exact ⟨t + 1, by omega, by omega, by go_num, rfl⟩
                  · have ht5' : ¬ (t : Int) ≤ 5 := by omega
                    go_wp2
                    go_ret
                    exact ⟨rfl, HF.out.ld.bel⟩
  · have hl' : (4096 : Int) < (len : Int) := by omega
    go_enter Yba.func4, Yba.ntmps4
    go_wp2
    go_ret
    exact ⟨rfl, Below.refl _ _⟩
end Go.Proofs.Ybulkdkuc.Sc
