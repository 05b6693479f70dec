/-
  The brute-force search (12), walked.
-/
import Derived.Test.YbulkdkucLeaf
import Derived.Test.YbulkdkucModel0
import Derived.Deep.LoopGhost
import Derived.Deep.CutBlock
import Derived.Deep.DeepCutAuto
namespace Go.Proofs.Ybulkdkuc.Sc
open Go.RowKit Go.Maps

/-- What the search finds in memory, whatever blocks are laid behind it. -/
structure MDat (W : World) (S : Sch) (A : Option Addr) (bk bv nv bs ns be ne : Nat) : Prop where
  dat : Dat W S A bv nv bs ns be ne
  keys : ∀ i, i < 3 → W.cell? ⟨bk, i, none⟩ = some (.string (kn i))
theorem MDat.below {W W' : World} {S : Sch} {A : Option Addr} {bk bv nv bs ns be ne : Nat} (h : MDat W S A bk bv nv bs ns be ne) (hb : Below W.heap.size W W') : MDat W' S A bk bv nv bs ns be ne :=
  ⟨h.dat.below hb, fun i hi => (hb.cell (lt_of_cell (h.keys i hi))).trans (h.keys i hi)⟩
theorem MDat.made {w w1 : World} {S : Sch} {A : Option Addr} {bv nv bs ns be ne : Nat} (h : Dat w S A bv nv bs ns be ne) (hb : Below w.heap.size w w1) :
    MDat (w1.alloc (.cells #[.string (kn 0), .string (kn 1), .string (kn 2)] 46)) S A w1.heap.size bv nv bs ns be ne := by
  refine ⟨(h.below hb).below ((Below.refl _ _).alloc (Nat.le_refl _) _), fun i hi => ?_⟩
  rcases (show i = 0 ∨ i = 1 ∨ i = 2 by omega) with rfl | rfl | rfl <;> simp

set_option maxRecDepth 1000000 in
set_option maxHeartbeats 40000000 in
theorem model_walk (S : Sch) (hG : Good S) (A : Option Addr) (C bv nv bs ns be ne : Nat) (w : World) (hD : Dat w S A bv nv bs ns be ne) :
    Calls Yba.prog 12 #[.slice A S.n C, .map (some bv), .map (some bs), .map (some be)] w (AnsPost S w) := by
  have HG : Hid (Good S) := hG
  have HD0 : Hid (Dat w S A bv nv bs ns be ne) := hD
  have hn := hG.n_le
  clear hD hG
  go_enter Yba.func12, Yba.ntmps12
  go_wp2_with (first
    | (go_at_call 14
       refine (keys_walk _).mono ?_
       rintro e w1 ⟨rfl, hb1⟩
       have HB1 : Hid (Below w.heap.size w w1) := hb1
       clear hb1)
    | go_in)
  obtain ⟨W, hW⟩ : ∃ W, W = w1.alloc (.cells #[.string (kn 0), .string (kn 1), .string (kn 2)] 46) := ⟨_, rfl⟩
  obtain ⟨bk, hbk⟩ : ∃ b, b = w1.heap.size := ⟨_, rfl⟩
  have HD : Hid (MDat W S A bk bv nv bs ns be ne) := by rw [hW, hbk]; exact MDat.made HD0.out HB1.out
  have HBW : Hid (Below w.heap.size w W) := by rw [hW]; exact HB1.out.alloc HB1.out.size _
  rw [← hW, ← hbk]
  clear hW hbk HD0 HB1
  go_loopg [8, 9, 11] 5 (fun g a b c wr => ∃ (t : Nat) (f e : Bool), 1 ≤ t ∧ t + g = 6 ∧ a = .bool f ∧ b = .bool e ∧ c = .int .i64 t ∧ Hid (MA S t f e) ∧ Hid (Below W.heap.size W wr))
  case atStart => exact ⟨1, false, false, Nat.le_refl _, rfl, rfl, rfl, rfl, ma_start S, Below.refl _ _⟩
  case round =>
    obtain ⟨t, f, e, ht1, htg, rfl, rfl, rfl, HM, HB⟩ := hrel
    by_cases ht5 : t ≤ 5
    · have ht5' : (t : Int) ≤ 5 := by omega
      have HX : Hid (Dat wr S A bv nv bs ns be ne) := (HD.out.below HB.out).dat
      go_upto_if 36 with (first
        | (go_at_call 23
           refine (committed_walk A C be ne t S _ (by omega) HG.out.en HX.out.ops HX.out.en).mono ?_
           rintro e1 w2 ⟨rfl, h2⟩
           have h2' := h2.symm
           clear h2
           subst h2'))
      go_cut [12, 13] (fun a b wx => a = .bool (nextTo S S.n t).isSome ∧ b = .int .i64 (og (nextTo S S.n t) : Nat) ∧ Hid (Below W.heap.size W wx))
      case first =>
        cases hc : com S t with
        | false =>
          as_aux_lemma =>
            go_wp2
            go_meet
            case rel => exact ⟨by rw [nextTo_com hc]; rfl, by rw [nextTo_com hc]; rfl, HB⟩
        | true =>
          clear HX
          have HC : Hid (com S t = true) := hc
          as_aux_lemma =>
            go_wp2
            clear hc
            go_loopg [12, 13, 39] S.n (fun g a b c wr => ∃ i : Nat, i + g = S.n ∧ a = .bool (nextTo S i t).isSome ∧ b = .int .i64 (og (nextTo S i t) : Nat) ∧ c = .int .i64 i ∧ Hid (Below W.heap.size W wr))
            case atStart => exact ⟨0, Nat.zero_add _, rfl, rfl, rfl, HB⟩
            case round =>
              obtain ⟨i, hig, rfl, rfl, rfl, HBx⟩ := hrel
              by_cases hin : i < S.n
              · have hin' : (i : Int) < (S.n : Int) := by omega
                have HX := (HD.out.below HBx.out).dat
                obtain ⟨g, rfl, c0, c1, c2, c3, c4, c5⟩ := HX.ops i hin
                have hf5 := HG.out.frm i hin
                have hk1 := HG.out.key i hin
                obtain ⟨kd, hkd⟩ : ∃ k, k = (S.O i).kind := ⟨_, rfl⟩
                obtain ⟨tx, htx⟩ : ∃ k, k = (S.O i).txn := ⟨_, rfl⟩
                obtain ⟨x, hx⟩ : ∃ k, k = (S.O i).key := ⟨_, rfl⟩
                obtain ⟨fr, hfr⟩ : ∃ k, k = (S.O i).frm := ⟨_, rfl⟩
                rw [← hkd] at c0
                rw [← htx] at c1
                rw [← hx] at c2 hk1
                rw [← hfr] at c3 hf5
                have HKD : Hid (kd = (S.O i).kind) := hkd
                have HTX : Hid (tx = (S.O i).txn) := htx
                have HXX : Hid (x = (S.O i).key) := hx
                have HFR : Hid (fr = (S.O i).frm) := hfr
                have HB2 : Hid (∀ o, Below W.heap.size W (wr.alloc o)) := fun o => HBx.out.alloc HBx.out.size o
                obtain ⟨r, hr⟩ : ∃ r, r = nextTo S i t := ⟨_, rfl⟩
                rw [← hr]
                have HR : Hid (r = nextTo S i t) := hr
                clear hkd htx hx hfr hr HX
                by_cases h1 : kd = 1
                · have b1 : ((kd : Int) == 1) = true := bt h1
                  by_cases h2 : tx = t
                  · have b2 : ((tx : Int) == (t : Int)) = true := bt h2
                    obtain ⟨A', C', hV, hI⟩ := HD.out.dat.vers.runs hk1
                    have hlen := HG.out.len x
                    have HVW : Hid (∀ o, Calls Yba.prog 24 #[.slice A' (S.V x).length C', .int .i64 (fr : Int)] (wr.alloc o) fun e w' => e = .returned (.int .i64 (ver (S.V x) fr : Nat)) ∧ w' = wr.alloc o) :=
                      fun o => ver_walk A' C' fr (S.V x) _ hlen (hI.below (HB2.out o))
                    have HI : Hid (IntsAt W A' (S.V x)) := hI
                    obtain ⟨L, hL⟩ : ∃ L, L = (S.V x).length := ⟨_, rfl⟩
                    obtain ⟨v, hv⟩ : ∃ v, v = ver (S.V x) fr := ⟨_, rfl⟩
                    rw [← hL, ← hv] at HVW
                    have eV : ∀ o, (Instr.lookup 36 (.map (some bv)) (.string x) false).run Yba.prog (wr.alloc o) = .ok (.slice A' L C') (wr.alloc o) := fun o => by rw [hV _ (HB2.out o), ← hL]
                    rw [← hL] at hlen
                    have HL : Hid (L = (S.V (S.O i).key).length) := by rw [← HXX.out]; exact hL
                    have HV : Hid (v = ver (S.V (S.O i).key) (S.O i).frm) := by rw [← HXX.out, ← HFR.out]; exact hv
                    clear hI hV hL hv
                    by_cases hL0 : L = 0
                    · have b3 : ((L : Int) == 0) = true := bt hL0
                      as_aux_lemma =>
                        go_wp2
                        go_roundg (S.n - (i + 1))
                        case measure => omega
                        case rel =>
                          have e1 : nextTo S (i + 1) t = r := by rw [HR.out]; exact nextTo_skip (nxt_V (by rw [← HL.out]; exact hL0)) t
                          exact ⟨i + 1, by omega, by rw [e1], by rw [e1], by go_num, HB2.out _⟩
                    have b3 : ((L : Int) == 0) = false := bf hL0
                    by_cases hvL : v < L
                    · have hvL' : (v : Int) < (L : Int) := by omega
                      have hvl2 : v < (S.V x).length := by rw [HXX.out, ← HL.out]; exact hvL
                      obtain ⟨g', rfl, hcy⟩ := HI.out v hvl2
                      obtain ⟨y, hy⟩ : ∃ y, y = (S.V x).getD v 0 := ⟨_, rfl⟩
                      have hy5 : y ≤ 5 := by rw [hy]; exact (HG.out.V5 x _ (getD_mem hvl2)).2
                      rw [← hy] at hcy
                      have HY : Hid (y = (S.V (S.O i).key).getD (ver (S.V (S.O i).key) (S.O i).frm) 0) := by rw [← HXX.out, ← HFR.out, hy, HV.out, ← HXX.out, ← HFR.out]; exact rfl
                      have ecy : ∀ o, (wr.alloc o).cell? ⟨g', v, none⟩ = some (.int .i64 (y : Int)) := fun o => ((HB2.out o).cell (lt_of_cell hcy)).trans hcy
                      have eS : ∀ o, (Instr.lookup 37 (.map (some bs)) (.int .i64 (y : Int)) false).run Yba.prog (wr.alloc o) = .ok (.int .i64 (gd S.st y : Nat)) (wr.alloc o) := fun o => (HD.out.below (HB2.out o)).dat.st.run (by omega)
                      have eE : ∀ o, (Instr.lookup 37 (.map (some be)) (.int .i64 (t : Int)) false).run Yba.prog (wr.alloc o) = .ok (.int .i64 (gd S.en t : Nat)) (wr.alloc o) := fun o => (HD.out.below (HB2.out o)).dat.en.run (by omega)
                      have eY : ∀ o, (Instr.lookup 37 (.map (some be)) (.int .i64 (y : Int)) false).run Yba.prog (wr.alloc o) = .ok (.int .i64 (gd S.en y : Nat)) (wr.alloc o) := fun o => (HD.out.below (HB2.out o)).dat.en.run (by omega)
                      clear hy hcy hvl2
                      by_cases h5 : y = t
                      · have b5 : ((y : Int) == (t : Int)) = true := bt h5
                        as_aux_lemma =>
                          go_wp2_with (first
                            | (go_at_call 24
                               refine (HVW.out _).mono ?_
                               rintro e1 w2 ⟨rfl, h2⟩
                               have h2' := h2.symm
                               clear h2
                               subst h2'))
                          go_roundg (S.n - (i + 1))
                          case measure => omega
                          case rel =>
                            have e1 : nextTo S (i + 1) t = r := by
                              rw [HR.out]; exact nextTo_skip (nxt_w (by rw [← HY.out, ← HTX.out, h2]; exact h5)) t
                            exact ⟨i + 1, by omega, by rw [e1], by rw [e1], by go_num, HB2.out _⟩
                      have b5 : ((y : Int) == (t : Int)) = false := bf h5
                      by_cases h6 : gd S.st y < gd S.en t
                      · have b6 : ((gd S.st y : Nat) : Int) < ((gd S.en t : Nat) : Int) := by omega
                        have HT : Hid (nextTo S (i + 1) t = mn r (some (gd S.en y))) := by
                          rw [HR.out, HY.out]
                          exact nextTo_take (by rw [← HTX.out]; exact h2) (nxt_yes (by rw [← HKD.out]; exact h1) (by rw [← HL.out]; exact hL0) (by rw [← HTX.out, h2]; exact HC.out) (by rw [← HL.out, ← HV.out]; exact hvL) (by rw [← HY.out, ← HTX.out, h2]; exact h5) (by rw [← HY.out, ← HTX.out, h2]; exact h6))
                        cases hr0 : r.isSome with
                        | false =>
                          as_aux_lemma =>
                            go_wp2_with (first
                              | (go_at_call 24
                                 refine (HVW.out _).mono ?_
                                 rintro e1 w2 ⟨rfl, h2⟩
                                 have h2' := h2.symm
                                 clear h2
                                 subst h2'))
                            go_roundg (S.n - (i + 1))
                            case measure => omega
                            case rel =>
                              have e1 : nextTo S (i + 1) t = some (gd S.en y) := by
                                rw [HT.out]; exact mn_new (.inl hr0)
                              exact ⟨i + 1, by omega, by rw [e1]; rfl, by rw [e1]; rfl, by go_num, HB2.out _⟩
                        | true =>
                          by_cases h7 : gd S.en y < og r
                          · have b7 : ((gd S.en y : Nat) : Int) < ((og r : Nat) : Int) := by omega
                            as_aux_lemma =>
                              go_wp2_with (first
                                | (go_at_call 24
                                   refine (HVW.out _).mono ?_
                                   rintro e1 w2 ⟨rfl, h2⟩
                                   have h2' := h2.symm
                                   clear h2
                                   subst h2'))
                              go_roundg (S.n - (i + 1))
                              case measure => omega
                              case rel =>
                                have e1 : nextTo S (i + 1) t = some (gd S.en y) := by
                                  rw [HT.out]; exact mn_new (.inr h7)
                                exact ⟨i + 1, by omega, by rw [e1]; rfl, by rw [e1]; rfl, by go_num, HB2.out _⟩
                          · have b7 : ¬ ((gd S.en y : Nat) : Int) < ((og r : Nat) : Int) := by omega
                            as_aux_lemma =>
                              go_wp2_with (first
                                | (go_at_call 24
                                   refine (HVW.out _).mono ?_
                                   rintro e1 w2 ⟨rfl, h2⟩
                                   have h2' := h2.symm
                                   clear h2
                                   subst h2'))
                              go_roundg (S.n - (i + 1))
                              case measure => omega
                              case rel =>
                                have e1 : nextTo S (i + 1) t = r := by
                                  rw [HT.out]; exact mn_old hr0 h7
                                exact ⟨i + 1, by omega, by rw [e1]; first | rfl | rw [hr0], by rw [e1], by go_num, HB2.out _⟩
                      · have b6 : ¬ ((gd S.st y : Nat) : Int) < ((gd S.en t : Nat) : Int) := by omega
                        as_aux_lemma =>
                          go_wp2_with (first
                            | (go_at_call 24
                               refine (HVW.out _).mono ?_
                               rintro e1 w2 ⟨rfl, h2⟩
                               have h2' := h2.symm
                               clear h2
                               subst h2'))
                          go_roundg (S.n - (i + 1))
                          case measure => omega
                          case rel =>
                            have e1 : nextTo S (i + 1) t = r := by
                              rw [HR.out]; exact nextTo_skip (nxt_s (by rw [← HY.out, ← HTX.out, h2]; exact h6)) t
                            exact ⟨i + 1, by omega, by rw [e1], by rw [e1], by go_num, HB2.out _⟩
                    · have hvL' : ¬ (v : Int) < (L : Int) := by omega
                      as_aux_lemma =>
                        go_wp2_with (first
                          | (go_at_call 24
                             refine (HVW.out _).mono ?_
                             rintro e1 w2 ⟨rfl, h2⟩
                             have h2' := h2.symm
                             clear h2
                             subst h2'))
                        go_roundg (S.n - (i + 1))
                        case measure => omega
                        case rel =>
                          have e1 : nextTo S (i + 1) t = r := by rw [HR.out]; exact nextTo_skip (nxt_v (by rw [← HL.out, ← HV.out]; exact hvL)) t
                          exact ⟨i + 1, by omega, by rw [e1], by rw [e1], by go_num, HB2.out _⟩
                  · have b2 : ((tx : Int) == (t : Int)) = false := bf h2
                    as_aux_lemma =>
                      go_wp2
                      go_roundg (S.n - (i + 1))
                      case measure => omega
                      case rel =>
                        have e1 : nextTo S (i + 1) t = r := by rw [HR.out]; exact nextTo_other (by rw [← HTX.out]; exact h2)
                        exact ⟨i + 1, by omega, by rw [e1], by rw [e1], by go_num, HB2.out _⟩
                · have b1 : ((kd : Int) == 1) = false := bf h1
                  as_aux_lemma =>
                    go_wp2
                    go_roundg (S.n - (i + 1))
                    case measure => omega
                    case rel =>
                      have e1 : nextTo S (i + 1) t = r := by rw [HR.out]; exact nextTo_skip (nxt_k (by rw [← HKD.out]; exact h1)) t
                      exact ⟨i + 1, by omega, by rw [e1], by rw [e1], by go_num, HB2.out _⟩
              · have hin' : ¬ (i : Int) < (S.n : Int) := by omega
                have ein : i = S.n := by omega
                as_aux_lemma =>
                  go_wp2
                  go_meet
                  case rel => exact ⟨by subst ein; rfl, by subst ein; rfl, HBx⟩
      case rest =>
        obtain ⟨rfl, rfl, HBc⟩ := hcut
        obtain ⟨r, hr⟩ : ∃ r, r = nextTo S S.n t := ⟨_, rfl⟩
        rw [← hr]
        have HR : Hid (r = nextTo S S.n t) := hr
        clear hr HX
        as_aux_lemma =>
          go_wp2
          go_loopg [19, 20, 21] 3 (fun g a b c wr => ∃ (ki : Nat) (q : Option Nat), ki + g = 3 ∧ a = .bool q.isSome ∧ b = .int .i64 (og q : Nat) ∧ c = .int .i64 ki ∧ Hid (MaxIs (P3 S t ki) q) ∧ Hid (Below W.heap.size W wr))
          case atStart => exact ⟨0, none, rfl, rfl, rfl, rfl, p3_start S t, HBc⟩
          case round =>
            obtain ⟨ki, q, hkg, rfl, rfl, rfl, HQ, HB3⟩ := hrel
            by_cases hk3 : ki < 3
            · have hk3' : (ki : Int) < 3 := by omega
              have hck := (HD.out.below HB3.out).keys ki hk3
              obtain ⟨x, hx⟩ : ∃ x, x = kn ki := ⟨_, rfl⟩
              rw [← hx] at hck
              have HXK : Hid (x = kn ki) := hx
              have hx1 : x.size ≤ 1 := by rw [hx]; unfold kn; split; exact Nat.le_refl _; split <;> exact Nat.le_refl _
              obtain ⟨A', C', hV, hI⟩ := HD.out.dat.vers.runs hx1
              have eV := hV _ HB3.out
              have hlen := HG.out.len x
              have HI : Hid (IntsAt W A' (S.V x)) := hI
              obtain ⟨L, hL⟩ : ∃ L, L = (S.V x).length := ⟨_, rfl⟩
              rw [← hL] at eV hlen
              have HL : Hid (L = (S.V x).length) := hL
              clear hV hI hL hx
              as_aux_lemma =>
                go_wp2
                go_loopg [19, 20, 107] L (fun g a b c wr => ∃ (j : Nat) (q : Option Nat), j + g = L ∧ a = .bool q.isSome ∧ b = .int .i64 (og q : Nat) ∧ c = .int .i64 j ∧ Hid (MaxIs (P4 S t ki j) q) ∧ Hid (Below W.heap.size W wr))
                case atStart => exact ⟨0, q, Nat.zero_add _, rfl, rfl, rfl, p4_start HQ.out, HB3⟩
                case round =>
                  obtain ⟨j, q, hjg, rfl, rfl, rfl, HQ4, HB4⟩ := hrel
                  by_cases hjL : j < L
                  · have hjL' : (j : Int) < (L : Int) := by omega
                    have hjl2 : j < (S.V x).length := by rw [← HL.out]; exact hjL
                    obtain ⟨g', rfl, hcy⟩ := (HI.out.below HB4.out) j hjl2
                    obtain ⟨y, hy⟩ : ∃ y, y = (S.V x).getD j 0 := ⟨_, rfl⟩
                    rw [← hy] at hcy
                    have HY : Hid (y = (S.V (kn ki)).getD j 0) := by rw [← HXK.out]; exact hy
                    clear hy hjl2 eV hck
                    by_cases hyt : y = t
                    · have b1 : ((y : Int) == (t : Int)) = true := bt hyt
                      as_aux_lemma =>
                        go_wp2
                        go_loopg [19, 20, 117] S.n (fun g a b c wr => ∃ (k : Nat) (q : Option Nat), k + g = S.n ∧ a = .bool q.isSome ∧ b = .int .i64 (og q : Nat) ∧ c = .int .i64 k ∧ Hid (MaxIs (P5 S t ki j k) q) ∧ Hid (Below W.heap.size W wr))
                        case atStart => exact ⟨0, q, Nat.zero_add _, rfl, rfl, rfl, p5_start HQ4.out, HB4⟩
                        case round =>
                          obtain ⟨k, q, hkn, rfl, rfl, rfl, HQ5, HB6⟩ := hrel
                          by_cases hkS : k < S.n
                          · have hkS' : (k : Int) < (S.n : Int) := by omega
                            have HX := (HD.out.below HB6.out).dat
                            obtain ⟨g, rfl, c0, c1, c2, c3, c4, c5⟩ := HX.ops k hkS
                            have ht := HG.out.txn k hkS
                            have hf5 := HG.out.frm k hkS
                            have hck : ∀ o, (wr.alloc o).cell? ⟨bk, ki, none⟩ = some (.string x) := fun o => by rw [HXK.out]; exact (HD.out.below (HB6.out.alloc HB6.out.size o)).keys ki hk3
                            obtain ⟨kd, hkd⟩ : ∃ z, z = (S.O k).kind := ⟨_, rfl⟩
                            obtain ⟨tx, htx⟩ : ∃ z, z = (S.O k).txn := ⟨_, rfl⟩
                            obtain ⟨x', hx'⟩ : ∃ z, z = (S.O k).key := ⟨_, rfl⟩
                            obtain ⟨fr, hfr⟩ : ∃ z, z = (S.O k).frm := ⟨_, rfl⟩
                            rw [← hkd] at c0
                            rw [← htx] at c1 ht
                            rw [← hx'] at c2
                            rw [← hfr] at c3 hf5
                            have HKD : Hid (kd = (S.O k).kind) := hkd
                            have HTX : Hid (tx = (S.O k).txn) := htx
                            have HXX : Hid (x' = (S.O k).key) := hx'
                            have HFR : Hid (fr = (S.O k).frm) := hfr
                            have HB5 : Hid (∀ o m, Below W.heap.size W ((wr.alloc o).drewN m)) := fun o m => ⟨HB6.out.os, HB6.out.tape, HB6.out.output, (HB6.out.alloc HB6.out.size o).size, (HB6.out.alloc HB6.out.size o).block⟩
                            have HCW : Hid (∀ o m, Calls Yba.prog 23 #[.slice (some ⟨g, 0, none⟩) S.n C, .map (some be), .int .i64 (tx : Int)] ((wr.alloc o).drewN m) fun e w' => e = .returned (.bool (com S tx)) ∧ w' = (wr.alloc o).drewN m) :=
                              fun o m => committed_walk _ C be ne tx S _ (by omega) HG.out.en (HD.out.below (HB5.out o m)).dat.ops (HD.out.below (HB5.out o m)).dat.en
                            obtain ⟨v, hv⟩ : ∃ v, v = ver (S.V x) fr := ⟨_, rfl⟩
                            have HVW : Hid (∀ o m, Calls Yba.prog 24 #[.slice (some ⟨g', 0, none⟩) L C', .int .i64 (fr : Int)] ((wr.alloc o).drewN m) fun e w' => e = .returned (.int .i64 (v : Int)) ∧ w' = (wr.alloc o).drewN m) := by
                              intro o m
                              rw [HL.out, hv]
                              exact ver_walk _ C' fr (S.V x) _ (HG.out.len x) (HI.out.below (HB5.out o m))
                            have HV : Hid (v = ver (S.V x) fr) := hv
                            have eX : ∀ o m, (Instr.lookup 37 (.map (some be)) (.int .i64 (tx : Int)) false).run Yba.prog ((wr.alloc o).drewN m) = .ok (.int .i64 (gd S.en tx : Nat)) ((wr.alloc o).drewN m) := fun o m => (HD.out.below (HB5.out o m)).dat.en.run (by omega)
                            have eT : ∀ o m, (Instr.lookup 37 (.map (some bs)) (.int .i64 (t : Int)) false).run Yba.prog ((wr.alloc o).drewN m) = .ok (.int .i64 (gd S.st t : Nat)) ((wr.alloc o).drewN m) := fun o m => (HD.out.below (HB5.out o m)).dat.st.run (by omega)
                            clear hkd htx hx' hfr hv HX
                            by_cases h1 : kd = 1
                            · have b1' : ((kd : Int) == 1) = true := bt h1
                              by_cases h2 : x' = x
                              · have b2 : (x'.toList == x.toList) = true := by rw [h2]; exact beq_self_eq_true _
                                by_cases h3 : tx = t
                                · have b3 : ((tx : Int) == (t : Int)) = true := bt h3
                                  as_aux_lemma =>
                                    go_wp2_with fail
                                    go_quiet (fail)
                                    go_wp2
                                    go_roundg (S.n - (k + 1))
                                    case measure => omega
                                    case rel => exact ⟨k + 1, q, by omega, rfl, rfl, by go_num, p5_skip HQ5.out (fun c hc => hc.2.2.1 (by rw [← HTX.out]; exact h3)), HB5.out _ _⟩
                                · have b3 : ((tx : Int) == (t : Int)) = false := bf h3
                                  cases h4 : com S tx with
                                  | false =>
                                    rw [h4] at HCW
                                    as_aux_lemma =>
                                      go_wp2_with fail
                                      go_quiet ((go_at_call 23; exact Calls.quiet_of_same (HCW.out _ _)))
                                      go_wp2
                                      go_roundg (S.n - (k + 1))
                                      case measure => omega
                                      case rel => exact ⟨k + 1, q, by omega, rfl, rfl, by go_num, p5_skip HQ5.out (fun c hc => by have := hc.2.1.2.2; rw [← HTX.out, h4] at this; cases this), HB5.out _ _⟩
                                  | true =>
                                    rw [h4] at HCW
                                    by_cases h5 : j < v
                                    · have b5 : (j : Int) < (v : Int) := by omega
                                      as_aux_lemma =>
                                        go_wp2_with fail
                                        go_quiet ((go_at_call 23; exact Calls.quiet_of_same (HCW.out _ _)))
                                        go_wp2_with (first
                                          | (go_at_call 24
                                             refine (HVW.out _ _).mono ?_
                                             rintro e1 w2 ⟨rfl, h9⟩
                                             have h9' := h9.symm
                                             clear h9
                                             subst h9'))
                                        go_roundg (S.n - (k + 1))
                                        case measure => omega
                                        case rel => exact ⟨k + 1, q, by omega, rfl, rfl, by go_num, p5_skip HQ5.out (fun c hc => by have := hc.2.2.2.1; rw [← HXK.out, ← HFR.out, ← HV.out] at this; omega), HB5.out _ _⟩
                                    · have b5 : ¬ (j : Int) < (v : Int) := by omega
                                      by_cases h6 : gd S.st t < gd S.en tx
                                      · have b6 : ((gd S.st t : Nat) : Int) < ((gd S.en tx : Nat) : Int) := by omega
                                        have HPC : Hid (Pc S t (kn ki) j k (gd S.en tx)) := ⟨by rw [← HY.out]; exact hyt, ⟨by rw [← HKD.out]; exact h1, by rw [← HXX.out, ← HXK.out]; exact h2, by rw [← HTX.out]; exact h4⟩, by rw [← HTX.out]; exact h3, by rw [← HXK.out, ← HFR.out, ← HV.out]; omega, by rw [← HTX.out], h6⟩
                                        cases hq0 : q.isSome with
                                        | false =>
                                          as_aux_lemma =>
                                            go_wp2_with fail
                                            go_quiet ((go_at_call 23; exact Calls.quiet_of_same (HCW.out _ _)))
                                            go_wp2_with (first
                                              | (go_at_call 24
                                                 refine (HVW.out _ _).mono ?_
                                                 rintro e1 w2 ⟨rfl, h9⟩
                                                 have h9' := h9.symm
                                                 clear h9
                                                 subst h9'))
                                            go_roundg (S.n - (k + 1))
                                            case measure => omega
                                            case rel => exact ⟨k + 1, some (gd S.en tx), by omega, rfl, rfl, by go_num, p5_new HQ5.out HPC.out (.inl hq0), HB5.out _ _⟩
                                        | true =>
                                          by_cases h7 : og q < gd S.en tx
                                          · have b7 : ((og q : Nat) : Int) < ((gd S.en tx : Nat) : Int) := by omega
                                            as_aux_lemma =>
                                              go_wp2_with fail
                                              go_quiet ((go_at_call 23; exact Calls.quiet_of_same (HCW.out _ _)))
                                              go_wp2_with (first
                                                | (go_at_call 24
                                                   refine (HVW.out _ _).mono ?_
                                                   rintro e1 w2 ⟨rfl, h9⟩
                                                   have h9' := h9.symm
                                                   clear h9
                                                   subst h9'))
                                              go_roundg (S.n - (k + 1))
                                              case measure => omega
                                              case rel => exact ⟨k + 1, some (gd S.en tx), by omega, rfl, rfl, by go_num, p5_new HQ5.out HPC.out (.inr h7), HB5.out _ _⟩
                                          · have b7 : ¬ ((og q : Nat) : Int) < ((gd S.en tx : Nat) : Int) := by omega
                                            as_aux_lemma =>
                                              go_wp2_with fail
                                              go_quiet ((go_at_call 23; exact Calls.quiet_of_same (HCW.out _ _)))
                                              go_wp2_with (first
                                                | (go_at_call 24
                                                   refine (HVW.out _ _).mono ?_
                                                   rintro e1 w2 ⟨rfl, h9⟩
                                                   have h9' := h9.symm
                                                   clear h9
                                                   subst h9'))
                                              go_roundg (S.n - (k + 1))
                                              case measure => omega
                                              case rel => exact ⟨k + 1, q, by omega, by rw [hq0], rfl, by go_num, p5_old HQ5.out HPC.out hq0 h7, HB5.out _ _⟩
                                      · have b6 : ¬ ((gd S.st t : Nat) : Int) < ((gd S.en tx : Nat) : Int) := by omega
                                        as_aux_lemma =>
                                          go_wp2_with fail
                                          go_quiet ((go_at_call 23; exact Calls.quiet_of_same (HCW.out _ _)))
                                          go_wp2_with (first
                                            | (go_at_call 24
                                               refine (HVW.out _ _).mono ?_
                                               rintro e1 w2 ⟨rfl, h9⟩
                                               have h9' := h9.symm
                                               clear h9
                                               subst h9'))
                                          go_roundg (S.n - (k + 1))
                                          case measure => omega
                                          case rel => exact ⟨k + 1, q, by omega, rfl, rfl, by go_num, p5_skip HQ5.out (fun c hc => h6 (by have := hc.2.2.2.2; rw [← HTX.out] at this; omega)), HB5.out _ _⟩
                              · have b2 : (x'.toList == x.toList) = false := str_ne h2
                                as_aux_lemma =>
                                  go_wp2_with fail
                                  go_quiet (fail)
                                  go_wp2
                                  go_roundg (S.n - (k + 1))
                                  case measure => omega
                                  case rel => exact ⟨k + 1, q, by omega, rfl, rfl, by go_num, p5_skip HQ5.out (fun c hc => h2 (by rw [HXX.out, HXK.out]; exact hc.2.1.2.1)), HB5.out _ _⟩
                            · have b1' : ((kd : Int) != 1) = true := nb h1
                              as_aux_lemma =>
                                go_wp2_with fail
                                go_quiet (fail)
                                go_wp2
                                go_roundg (S.n - (k + 1))
                                case measure => omega
                                case rel => exact ⟨k + 1, q, by omega, rfl, rfl, by go_num, p5_skip HQ5.out (fun c hc => h1 (by rw [HKD.out]; exact hc.2.1.1)), HB5.out _ _⟩
                          · have hkS' : ¬ (k : Int) < (S.n : Int) := by omega
                            have hkeq : k = S.n := by omega
                            as_aux_lemma =>
                              go_wp2
                              go_roundg (L - (j + 1))
                              case measure => omega
                              case rel => exact ⟨j + 1, q, by omega, rfl, rfl, by go_num, p5_end (by rw [← hkeq]; exact HQ5.out), HB6⟩
                    · have b1 : ((y : Int) == (t : Int)) = false := bf hyt
                      as_aux_lemma =>
                        go_wp2
                        go_roundg (L - (j + 1))
                        case measure => omega
                        case rel => exact ⟨j + 1, q, by omega, rfl, rfl, by go_num, p4_skip HQ4.out (by rw [← HY.out]; exact hyt), HB4⟩
                  · have hjL' : ¬ (j : Int) < (L : Int) := by omega
                    have hjeq : j = (S.V (kn ki)).length := by rw [← HXK.out, ← HL.out]; omega
                    clear eV hck
                    as_aux_lemma =>
                      go_wp2
                      go_roundg (3 - (ki + 1))
                      case measure => omega
                      case rel => exact ⟨ki + 1, q, by omega, rfl, rfl, by go_num, p4_end (by rw [← hjeq]; exact HQ4.out), HB4⟩
            · have hk3' : ¬ (ki : Int) < 3 := by omega
              have hk4 : ki = 3 := by omega
              have HP : Hid (MaxIs (PC S t) q) := p3_end HG.out (by rw [← hk4]; exact HQ.out)
              have eE : (Instr.lookup 37 (.map (some be)) (.int .i64 (t : Int)) false).run Yba.prog wr = .ok (.int .i64 (gd S.en t : Nat)) wr := (HD.out.below HB3.out).dat.en.run (by omega)
              clear HQ
              cases hr0 : r.isSome with
              | false =>
                have hrn : r = none := by cases r; rfl; cases hr0
                as_aux_lemma =>
                  go_wp2
                  go_roundg (6 - (t + 1))
                  case measure => omega
                  case rel => exact ⟨t + 1, f, e, by omega, by omega, rfl, rfl, by go_num, ma_no HM.out HP.out (.inl (by rw [← HR.out]; exact hrn)), HB3⟩
              | true =>
                have hrs : r = some (og r) := by cases r; cases hr0; rfl
                cases hq0 : q.isSome with
                | false =>
                  have hqn : q = none := by cases q; rfl; cases hq0
                  as_aux_lemma =>
                    go_wp2
                    go_roundg (6 - (t + 1))
                    case measure => omega
                    case rel => exact ⟨t + 1, f, e, by omega, by omega, rfl, rfl, by go_num, ma_no HM.out HP.out (.inr hqn), HB3⟩
                | true =>
                  have hqs : q = some (og q) := by cases q; cases hq0; rfl
                  have HP2 : Hid (MaxIs (PC S t) (some (og q))) := by rw [← hqs]; exact HP.out
                  have HR2 : Hid (nextTo S S.n t = some (og r)) := by rw [← hrs]; exact HR.out.symm
                  clear hrs hqs
                  by_cases h1 : og r < gd S.en t
                  · have b1 : ((og r : Nat) : Int) < ((gd S.en t : Nat) : Int) := by omega
                    by_cases h2 : og r ≤ og q
                    · have b2 : ((og r : Nat) : Int) ≤ ((og q : Nat) : Int) := by omega
                      as_aux_lemma =>
                        go_wp2
                        go_roundg (6 - (t + 1))
                        case measure => omega
                        case rel => exact ⟨t + 1, true, true, by omega, by omega, rfl, rfl, by go_num, ma_yes HM.out ht1 HR2.out HP2.out ⟨fun _ => .inr ⟨h1, h2⟩, fun _ => rfl⟩, HB3⟩
                    · have b2 : ¬ ((og r : Nat) : Int) ≤ ((og q : Nat) : Int) := by omega
                      as_aux_lemma =>
                        go_wp2
                        go_roundg (6 - (t + 1))
                        case measure => omega
                        case rel => exact ⟨t + 1, true, e, by omega, by omega, rfl, rfl, by go_num, ma_yes HM.out ht1 HR2.out HP2.out ⟨fun h => .inl h, fun h => h.elim id fun h => absurd h.2 h2⟩, HB3⟩
                  · have b1 : ¬ ((og r : Nat) : Int) < ((gd S.en t : Nat) : Int) := by omega
                    as_aux_lemma =>
                      go_wp2
                      go_roundg (6 - (t + 1))
                      case measure => omega
                      case rel => exact ⟨t + 1, true, e, by omega, by omega, rfl, rfl, by go_num, ma_yes HM.out ht1 HR2.out HP2.out ⟨fun h => .inl h, fun h => h.elim id fun h => absurd h.1 h1⟩, HB3⟩
    · have ht6 : t = 6 := by omega
      have ht5' : ¬ (t : Int) ≤ 5 := by omega
      as_aux_lemma =>
        go_wp2
        go_ret2
        subst ht6
        exact ⟨f, e, rfl, ma_end HG.out HM.out, HBW.out.trans (HB.out.mono HBW.out.size)⟩
end Go.Proofs.Ybulkdkuc.Sc
