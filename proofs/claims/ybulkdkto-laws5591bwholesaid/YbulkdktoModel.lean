/-
  zzs5591bmodel (function 5), walked.
-/
import Derived.Test.YbulkdktoRows
import Derived.Test.YbulkdktoPlain
import Derived.Test.YbulkdktoParse
import Derived.WalkKit
import Derived.WalkSpells
import Derived.WalkLawsBesides
import Derived.Deep.QuietTactic
import Derived.BigQuiet
namespace Go.Proofs.Ybulkdkto.Ct
open Go.RowKit

/-- The first j bytes are zeros. -/
def Zeros (s : ByteArray) (j : Nat) : Prop := ∀ i (h : i < s.size), i < j → s[i] = 48

theorem extract_data (s : ByteArray) (j : Nat) : (s.extract j s.size).data.toList = s.data.toList.drop j := by
  simp only [ByteArray.data_extract, Array.toList_extract, List.extract_eq_take_drop]
  exact List.take_of_length_le (by simp)

theorem zeros_drop {s : ByteArray} {j : Nat} (hj : j ≤ s.size) (hZ : Zeros s j) : s.data.toList = List.replicate j 48 ++ s.data.toList.drop j := by
  have e : s.data.toList.take j = List.replicate j 48 := by
    apply List.ext_getElem
    · simp; omega
    · intro i h1 h2
      have hi : i < j := by simpa using h2
      have := hZ i (by omega) hi
      simp only [List.getElem_take, List.getElem_replicate]
      exact this
  have h := List.take_append_drop j s.data.toList
  rw [e] at h
  exact h.symm

/-- What the model answers, off the text without its leading zeros. -/
theorem num_lead {s : ByteArray} {j : Nat} (h0 : 0 < s.size) (hU : Upto s s.size) (hj : j ≤ s.size) (hZ : Zeros s j) (hz : ∀ h : j < s.size, s[j].toNat ≠ 48) :
    num s = ((lead (s.extract j s.size).data.toList : Nat) : Int) ∧ ∀ c ∈ (s.extract j s.size).data.toList, good c = true := by
  have hall : ∀ c ∈ s.data.toList, good c = true := by
    have h2 := upto_mem hU
    rw [List.take_of_length_le (by simp)] at h2
    exact h2
  have hgood : ∀ c ∈ (s.extract j s.size).data.toList, good c = true := fun c hc => hall c (by rw [extract_data] at hc; exact List.mem_of_mem_drop hc)
  refine ⟨?_, hgood⟩
  unfold num
  rw [if_pos (ok_all h0 hU), zeros_drop hj hZ, run_zeros, ← extract_data, run_lead _ hgood]
  intro c hc
  rw [extract_data, List.head?_drop] at hc
  have hlt : j < s.size := by
    have := (List.getElem?_eq_some_iff.1 hc).1
    simpa using this
  have e : c = s[j] := by
    have := (List.getElem?_eq_some_iff.1 hc).2
    rw [← this]; rfl
  rw [e]; exact hz hlt

theorem good_at {r : ByteArray} (h : ∀ c ∈ r.data.toList, good c = true) (i : Nat) (hi : i < r.size) : 48 ≤ r[i].toNat ∧ r[i].toNat ≤ 57 :=
  (good_iff _).1 (h r[i] (by show r.data[i] ∈ _; simp))

theorem lead_0 {r : ByteArray} (h : r.size = 0) : lead r.data.toList = 0 := by
  have : r.data.toList = [] := List.eq_nil_of_length_eq_zero (by simpa using h)
  rw [this]; rfl
theorem lead_1 {r : ByteArray} (h : r.size = 1) (h0 : 0 < r.size) : lead r.data.toList = r[0].toNat - 48 := by
  obtain ⟨⟨l⟩⟩ := r
  match l, h with
  | [a], _ => rfl
theorem lead_2 {r : ByteArray} (h : r.size = 2) (h0 : 0 < r.size) (h1 : 1 < r.size) : lead r.data.toList = (r[0].toNat - 48) * 10 + (r[1].toNat - 48) := by
  obtain ⟨⟨l⟩⟩ := r
  match l, h with
  | [a, b], _ => rfl
theorem lead_3 {r : ByteArray} (h0 : 0 < r.size) (h1 : 1 < r.size) (h2 : 2 < r.size) :
    lead r.data.toList = if 64 < (r[0].toNat - 48) * 10 + (r[1].toNat - 48) then (r[0].toNat - 48) * 10 + (r[1].toNat - 48) else ((r[0].toNat - 48) * 10 + (r[1].toNat - 48)) * 10 + (r[2].toNat - 48) := by
  obtain ⟨⟨l⟩⟩ := r
  match l, h2 with
  | a :: b :: c :: t, _ => rfl

theorem run_at (r : ByteArray) (i : Nat) (hi : i < r.size) (W : World) : (Instr.index 9 (.string r) (.int .i64 (i : Int))).run Yba.prog W = .ok (.int .u8 (r[i].toNat : Int)) W := by
  rw [run_index_string W 9 r .i64 _ Yba.underlying9, dif_pos ⟨by omega, by omega⟩]
  rfl

set_option maxHeartbeats 1000000 in
theorem model_any (s : ByteArray) (hs : s.size ≤ 1048576) (w : World) :
    Calls Yba.prog 5 #[.string s] w fun e w' => e = .returned (.tuple #[.int .i64 (num s), .bool (ok s)]) ∧ ∃ n, w' = w.drewN n := by
  by_cases h0 : s.size = 0
  · have HB : Hid (ok s = false) := ok_empty h0
    have h0' : ((s.size : Int) == 0) = true := beq_iff_eq.2 (by omega)
    clear h0
    go_enter Yba.func5, Yba.ntmps5
    go_wp2
    go_ret2
    exact ⟨ret_pair (num_bad HB.out).symm HB.out.symm, 0, rfl⟩
  · have h0' : ((s.size : Int) == 0) = false := beq_eq_false_iff_ne.2 (by omega)
    go_enter Yba.func5, Yba.ntmps5
    go_wp2
    go_loop [4] (fun i => ∃ k : Nat, k ≤ s.size ∧ i = .int .i64 k ∧ Hid (Upto s k)) (fun i => s.size - (intOf i).toNat)
    case atStart => exact ⟨0, Nat.zero_le _, rfl, fun _ _ h => by omega⟩
    case round =>
      obtain ⟨k, hk, rfl, hU⟩ := hrel
      by_cases hlt : k < s.size
      · have hlt' : (k : Int) < (s.size : Int) := by omega
        by_cases h1 : (s[k].toNat : Int) < 48
        · have hb : ok s = false := ok_bad hlt (by unfold good; simp; omega)
          have HB : Hid (ok s = false) := hb
          clear hb
          go_wp2
          go_ret2
          exact ⟨ret_pair (num_bad HB.out).symm HB.out.symm, 0, rfl⟩
        · by_cases h2 : (57 : Int) < (s[k].toNat : Int)
          · have hb : ok s = false := ok_bad hlt (by unfold good; simp; omega)
            have HB : Hid (ok s = false) := hb
            clear hb
            go_wp2
            go_ret2
            exact ⟨ret_pair (num_bad HB.out).symm HB.out.symm, 0, rfl⟩
          · have hg : good s[k] = true := (good_iff _).2 ⟨by omega, by omega⟩
            have HG : Hid (good s[k] = true) := hg
            clear hg
            go_wp2
            go_round
            case rel => exact ⟨k + 1, by omega, by go_num, hU.out.step hlt HG.out⟩
            case measure => simp [intOf]; omega
      · have hlt' : ¬ (k : Int) < (s.size : Int) := by omega
        have HU : Hid (Upto s s.size) := fun j hj _ => hU.out j hj (by omega)
        clear hU
        go_wp2
        go_loop [6] (fun i => ∃ j : Nat, j ≤ s.size ∧ i = .int .i64 j ∧ Hid (Zeros s j)) (fun i => s.size - (intOf i).toNat)
        case atStart => exact ⟨0, Nat.zero_le _, rfl, fun _ _ h => by omega⟩
        case round =>
          obtain ⟨j, hj, rfl, hZ⟩ := hrel
          by_cases hjl : j < s.size
          · have hjl' : (j : Int) < (s.size : Int) := by omega
            by_cases hz : s[j].toNat = 48
            · have hz' : ((s[j].toNat : Int) == 48) = true := by simp; omega
              have HZ : Hid (s[j].toNat = 48) := hz
              clear hz
              go_wp2
              go_round
              case rel =>
                refine ⟨j + 1, by omega, by go_num, fun i hi hlt => ?_⟩
                by_cases e : i = j
                · subst e; exact UInt8.toNat_inj.1 (by rw [HZ.out]; rfl)
                · exact hZ.out i hi (by omega)
              case measure => simp [intOf]; omega
            · have hz' : ((s[j].toNat : Int) == 48) = false := by simp; omega
              have hN := num_lead (by omega) HU.out hj hZ.out (fun _ => hz)
              have HN : Hid (num s = ((lead (s.extract j s.size).data.toList : Nat) : Int) ∧ ∀ c ∈ (s.extract j s.size).data.toList, good c = true) := hN
              have HOk : Hid (ok s = true) := ok_all (by omega) HU.out
              have hsz : (s.extract j s.size).size = s.size - j := by simp
              have HSz : Hid ((s.extract j s.size).size = s.size - j) := hsz
              clear hN hsz
              by_cases hL1 : s.size - j = 1
              · go_wp2
                go_ret2
                refine ⟨ret_pair ?_ HOk.out.symm, 0, rfl⟩
                have hi : 0 < (s.extract j s.size).size := by rw [HSz.out]; omega
                have hg := good_at HN.out.2 0 hi
                show ((((s.extract j s.size)[0].toNat : Nat) : Int) - 48) % 256 = _
                rw [HN.out.1, lead_1 (by rw [HSz.out]; exact hL1) hi]
                omega
              · by_cases hL2 : s.size - j = 2
                · go_wp2
                  go_quiet (fail)
                  go_wp2
                  go_ret2
                  refine ⟨ret_pair ?_ HOk.out.symm, nq, rfl⟩
                  have hi : 0 < (s.extract j s.size).size := by rw [HSz.out]; omega
                  have hi1 : 1 < (s.extract j s.size).size := by rw [HSz.out]; omega
                  have hg := good_at HN.out.2 0 hi
                  have hg1 := good_at HN.out.2 1 hi1
                  show ((((s.extract j s.size)[0].toNat : Nat) : Int) - 48) % 256 * 10 + ((((s.extract j s.size)[1].toNat : Nat) : Int) - 48) % 256 = _
                  rw [HN.out.1, lead_2 (by rw [HSz.out]; exact hL2) hi hi1]
                  omega
                · have hi0 : 0 < (s.extract j s.size).size := by rw [HSz.out]; omega
                  have hi1 : 1 < (s.extract j s.size).size := by rw [HSz.out]; omega
                  have hi2 : 2 < (s.extract j s.size).size := by rw [HSz.out]; omega
                  have hl3 := lead_3 hi0 hi1 hi2
                  have g0 := good_at HN.out.2 0 hi0
                  have g1 := good_at HN.out.2 1 hi1
                  have g2 := good_at HN.out.2 2 hi2
                  have x0 : ∀ W, (Instr.index 9 (.string (s.extract j s.size)) (.int .i64 0)).run Yba.prog W = .ok (.int .u8 ((s.extract j s.size)[0].toNat : Int)) W := fun W => run_at _ 0 hi0 W
                  have x1 : ∀ W, (Instr.index 9 (.string (s.extract j s.size)) (.int .i64 1)).run Yba.prog W = .ok (.int .u8 ((s.extract j s.size)[1].toNat : Int)) W := fun W => run_at _ 1 hi1 W
                  have x2 : ∀ W, (Instr.index 9 (.string (s.extract j s.size)) (.int .i64 2)).run Yba.prog W = .ok (.int .u8 ((s.extract j s.size)[2].toNat : Int)) W := fun W => run_at _ 2 hi2 W
                  have hN1 := HN.out.1
                  rw [hl3] at hN1
                  clear hl3 HN
                  generalize hc0 : (s.extract j s.size)[0].toNat = c0 at *
                  generalize hc1 : (s.extract j s.size)[1].toNat = c1 at *
                  generalize hc2 : (s.extract j s.size)[2].toNat = c2 at *
                  clear hc0 hc1 hc2 hi0 hi1 hi2
                  have HN1 : Hid (num s = ((if 64 < (c0 - 48) * 10 + (c1 - 48) then (c0 - 48) * 10 + (c1 - 48) else ((c0 - 48) * 10 + (c1 - 48)) * 10 + (c2 - 48) : Nat) : Int)) := hN1
                  clear hN1
                  have n0 : ((s.size - j : Nat) : Int) ≠ 0 := by omega
                  have n1 : ((s.size - j : Nat) : Int) ≠ 1 := by omega
                  have n2 : ((s.size - j : Nat) : Int) ≠ 2 := by omega
                  by_cases hbig : (64 : Int) < ((c0 : Int) - 48) * 10 + ((c1 : Int) - 48)
                  · go_wp2
                    go_quiet (fail)
                    go_wp2
                    go_ret2
                    refine ⟨ret_pair ?_ HOk.out.symm, nq, rfl⟩
                    rw [HN1.out, if_pos (by omega)]
                    show ((c0 : Int) - 48) * 10 + ((c1 : Int) - 48) = _
                    omega
                  · go_wp2
                    go_quiet (fail)
                    go_wp2
                    go_ret2
                    refine ⟨ret_pair ?_ HOk.out.symm, nq, rfl⟩
                    rw [HN1.out, if_neg (by omega)]
                    show (((c0 : Int) - 48) * 10 + ((c1 : Int) - 48)) * 10 + ((c2 : Int) - 48) = _
                    omega
          · have hjl' : ¬ (j : Int) < (s.size : Int) := by omega
            have hN := num_lead (by omega) HU.out hj hZ.out (fun h => absurd h hjl)
            have HN : Hid (num s = ((lead (s.extract j s.size).data.toList : Nat) : Int) ∧ ∀ c ∈ (s.extract j s.size).data.toList, good c = true) := hN
            have HOk : Hid (ok s = true) := ok_all (by omega) HU.out
            have HSz : Hid ((s.extract j s.size).size = s.size - j) := by show (s.extract j s.size).size = s.size - j; simp
            clear hN
            go_wp2
            go_ret2
            refine ⟨ret_pair ?_ HOk.out.symm, 0, rfl⟩
            rw [HN.out.1, lead_0 (by rw [HSz.out]; omega)]
            rfl
end Go.Proofs.Ybulkdkto.Ct
