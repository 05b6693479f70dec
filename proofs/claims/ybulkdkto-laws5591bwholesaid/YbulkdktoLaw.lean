/-
  LawS5591BWhole (function 3), walked.
-/
import Derived.Test.YbulkdktoRows
import Derived.Test.YbulkdktoPlain
import Derived.Test.YbulkdktoParse
import Derived.Test.YbulkdktoModel
import Derived.WalkKit
import Derived.WalkSpells
import Derived.WalkLawsBesides
import Derived.Deep.OwnRows
import Derived.Deep.QuietTactic
import Derived.BigQuiet
import Derived.RegionTactic
namespace Go.Proofs.Ybulkdkto.Ct
open Go.RowKit

set_option maxHeartbeats 400000 in
theorem law_long (s : ByteArray) (a : Option Addr) (len cap : Nat) (bad at' : Int) (w : World) (h : 1048576 < s.size + len) (hb : s.size + len ≤ 9223372036854775807) :
    Calls Yba.prog 3 #[.string s, .slice a len cap, .int .u8 bad, .int .u8 at'] w fun e w' => e = .returned (.bool true) ∧ Below w.heap.size w w' := by
  have h' : (1048576 : Int) < (s.size : Int) + (len : Int) := by omega
  go_enter Yba.func3, Yba.ntmps3
  go_wp2
  go_ret
  exact ⟨rfl, Below.refl _ _⟩

def bytes (l : List UInt8) : List Value := l.map fun (c : UInt8) => Value.int .u8 (c.toNat : Int)
/-- Block B holds the bytes l. -/
def BRow (w : World) (B : Nat) (l : List UInt8) : Prop := w.heap[B]? = some (.cells (bytes l).toArray 5 (0, 0))
theorem bytes_length (l : List UInt8) : (bytes l).length = l.length := by simp [bytes]
theorem BRow.cell {w : World} {B : Nat} {l : List UInt8} (h : BRow w B l) (i : Nat) (hi : i < l.length) : w.cell? ⟨B, i, none⟩ = some (.int .u8 (l[i].toNat : Int)) := by
  unfold BRow at h
  simp [World.cell?, h, bytes, hi]
theorem BRow.frozen {w : World} {B : Nat} {l : List UInt8} (h : BRow w B l) (i : Nat) : w.frozen? ⟨B, i, none⟩ = false := by
  unfold BRow at h
  simp [World.frozen?, h]
theorem BRow.lt {w : World} {B : Nat} {l : List UInt8} (h : BRow w B l) : B < w.heap.size := by
  rcases Nat.lt_or_ge B w.heap.size with h' | h'
  · exact h'
  · unfold BRow at h; rw [Array.getElem?_eq_none h'] at h; cases h
theorem BRow.store {w : World} {B : Nat} {l : List UInt8} (h : BRow w B l) (i : Nat) (z : Int) (hz : 0 ≤ z ∧ z ≤ 255) : ∃ l', l'.length = l.length ∧ BRow (w.setCell ⟨B, i, none⟩ (.int .u8 z)) B l' := by
  refine ⟨l.set i (UInt8.ofNat z.toNat), by simp, ?_⟩
  unfold BRow at *
  have e : (((UInt8.ofNat z.toNat).toNat : Nat) : Int) = z := by simp only [UInt8.toNat_ofNat']; omega
  have e2 : bytes (l.set i (UInt8.ofNat z.toNat)) = (bytes l).set i (.int .u8 z) := by unfold bytes; rw [List.map_set, e]
  rw [e2]
  simp [World.setCell, Array.getElem?_modify, h]
theorem BRow.of_block {w w' : World} {B : Nat} {l : List UInt8} (h : BRow w B l) (e : w'.heap[B]? = w.heap[B]?) : BRow w' B l := e.trans h
theorem bRow_made (w : World) (n : Nat) : BRow (w.alloc (.cells (madeCells #[.int .u8 0] n) 5)) w.heap.size (List.replicate n 0) := by
  unfold BRow
  have e : (bytes (List.replicate n 0)).toArray = madeCells #[.int .u8 0] n := by
    have := toList_madeCells_one (.int .u8 0) n
    rw [← Array.toArray_toList (xs := madeCells #[Value.int .u8 0] n), this]
    simp [bytes]
  rw [e]
  show (w.heap.push _)[w.heap.size]? = _
  simp

theorem add_at (b o j : Nat) : (⟨b, o, none⟩ : Addr).add j = ⟨b, o + j, none⟩ := by
  unfold Addr.add
  split
  · rename_i h; subst h; rfl
  · rfl
theorem BRow.text {W : World} {B len : Nat} {l : List UInt8} (h : BRow W B l) (hl : l.length = len) : (convert 22 9 (.slice (some ⟨B, 0, none⟩) len len)).run Yba.prog W = .ok (.string ⟨l.toArray⟩) W := by
  have h1 := run_convert_bytes_back (P := Yba.prog) W 22 9 5 ⟨B, 0, none⟩ len l Yba.underlying22 Yba.underlying5 Yba.underlying9 (fun j hj => by rw [add_at, Nat.zero_add]; exact h.cell j hj)
  rw [hl] at h1
  exact h1

theorem stray_at (w : World) (q : Nat) (h : q < 5) : ∃ z : Int, (0 ≤ z ∧ z ≤ 255) ∧ (w.alloc (.cells #[.int .u8 120, .int .u8 47, .int .u8 58, .int .u8 32, .int .u8 45] 5)).cell? ⟨w.heap.size, q, none⟩ = some (.int .u8 z) := by
  match q, h with
  | 0, _ => exact ⟨120, by omega, by simp⟩
  | 1, _ => exact ⟨47, by omega, by simp⟩
  | 2, _ => exact ⟨58, by omega, by simp⟩
  | 3, _ => exact ⟨32, by omega, by simp⟩
  | 4, _ => exact ⟨45, by omega, by simp⟩

theorem info5 : (Yba.prog.info? 5).map (fun i => (i.zero, i.size, i.bytes)) = some (some (.int .u8 0), 1, 1) := by kernel_rfl

/-- What the walk is told of the digits that came in. -/
def IsRow (w : World) (a : Option Addr) (len : Nat) (Z : Nat → Int) : Prop :=
  (0 < len → ∃ b off, a = some ⟨b, off, none⟩ ∧ ∀ i, i < len → w.cell? ⟨b, off + i, none⟩ = some (.int .u8 (Z i))) ∧ ∀ i, 0 ≤ Z i ∧ Z i ≤ 255

set_option maxHeartbeats 1000000 in
theorem law_short (s : ByteArray) (a : Option Addr) (len cap : Nat) (bad at' : Int) (Z : Nat → Int) (w : World) (h : s.size + len ≤ 1048576) (hbad : 0 ≤ bad ∧ bad ≤ 255) (hat : 0 ≤ at' ∧ at' ≤ 255) (hr : IsRow w a len Z) :
    Calls Yba.prog 3 #[.string s, .slice a len cap, .int .u8 bad, .int .u8 at'] w fun e w' => e = .returned (.bool true) ∧ Below w.heap.size w w' := by
  have h' : ¬ (1048576 : Int) < (s.size : Int) + (len : Int) := by omega
  have hmk := fun W => run_make_row' (P := Yba.prog) 22 5 (.int .u8 0) 1 Yba.underlying22 info5 rfl .i64 .i64 len (by omega) (by omega) W
  have HR : Hid (IsRow w a len Z) := hr
  clear hr
  go_enter Yba.func3, Yba.ntmps3
  go_wp2_with (first
    | (go_at_call 4
       refine (parse_any s (by omega) _).mono ?_
       rintro e w0 ⟨rfl, hw0⟩
       have hw0' := hw0.symm
       clear hw0
       subst hw0')
    | (go_at_call 5
       refine (model_any s (by omega) _).mono ?_
       rintro e w0 ⟨rfl, n0, rfl⟩))
  have hB0 : BRow ((w.drewN n0).alloc (.cells (madeCells #[.int .u8 0] len) 5)) w.heap.size (List.replicate len 0) := bRow_made (w.drewN n0) len
  have hb0 : Below w.heap.size w ((w.drewN n0).alloc (.cells (madeCells #[.int .u8 0] len) 5)) := (show Below w.heap.size w (w.drewN n0) from ⟨rfl, rfl, rfl, Nat.le_refl _, fun _ _ => rfl⟩).alloc (Nat.le_refl _) _
  have HB0 : Hid (BRow ((w.drewN n0).alloc (.cells (madeCells #[.int .u8 0] len) 5)) w.heap.size (List.replicate len 0) ∧ Below w.heap.size w ((w.drewN n0).alloc (.cells (madeCells #[.int .u8 0] len) 5))) := ⟨hB0, hb0⟩
  clear hB0 hb0 hmk
  generalize (w.drewN n0).alloc (.cells (madeCells #[.int .u8 0] len) 5) = X at *
  go_loopw [14] (fun i wr => ∃ (k : Nat) (l : List UInt8), k ≤ len ∧ i = .int .i64 k ∧ Hid (l.length = len) ∧ Hid (BRow wr w.heap.size l) ∧ Hid (Below w.heap.size w wr)) (fun i _ => len - (intOf i).toNat)
  case atStart => exact ⟨0, _, Nat.zero_le _, rfl, show _ = _ by simp, HB0.out.1, HB0.out.2⟩
  case round =>
    obtain ⟨k, l, hk, rfl, hL, hR, hW⟩ := hrel
    by_cases hlt : k < len
    · have hlt' : (k : Int) < (len : Int) := by omega
      obtain ⟨b, off, ha, hcell⟩ := HR.out.1 (by omega)
      have hzk := HR.out.2 k
      have hck : wr.cell? ⟨b, off + k, none⟩ = some (.int .u8 (Z k)) := (hW.out.cell (World.block_lt_of_cell? w _ (hcell k hlt))).trans (hcell k hlt)
      subst ha
      have hbk := hR.out.cell k (by rw [hL.out]; exact hlt)
      have hfk := hR.out.frozen k
      clear hcell
      go_wp2
      go_roundw
      case rel =>
        obtain ⟨l', h1, h2⟩ := hR.out.store k (48 + Z k % 10) (by omega)
        exact ⟨k + 1, l', by omega, by go_num, h1.trans hL.out, h2, hW.out.setCell (Nat.le_refl _) _⟩
      case measure => simp [intOf]; omega
    · have hlt' : ¬ (k : Int) < (len : Int) := by omega
      by_cases h3 : bad % 3 = 0 ∧ 0 < len
      · have h3a : (bad % 3 == 0) = true := beq_iff_eq.2 h3.1
        have h3b : (0 : Int) < (len : Int) := by omega
        obtain ⟨p, hp⟩ : ∃ p : Nat, at' % (len : Int) = (p : Int) := ⟨(at' % (len : Int)).toNat, by have := Int.emod_nonneg at' (show (len : Int) ≠ 0 by omega); omega⟩
        have hpl : p < len := by have := Int.emod_lt_of_pos at' h3b; omega
        have hpl' : (p : Int) < (len : Int) := by omega
        obtain ⟨q, hq⟩ : ∃ q : Nat, bad / 3 % 5 = (q : Int) := ⟨(bad / 3 % 5).toNat, by omega⟩
        have hq5 : (q : Int) < 5 := by omega
        obtain ⟨z, hz, hcz⟩ := stray_at wr q (by omega)
        have hRY : BRow (wr.alloc (.cells #[.int .u8 120, .int .u8 47, .int .u8 58, .int .u8 32, .int .u8 45] 5)) w.heap.size l := hR.out.of_block (Below.heap_alloc _ _ _ hR.out.lt)
        have hWY : Below w.heap.size w (wr.alloc (.cells #[.int .u8 120, .int .u8 47, .int .u8 58, .int .u8 32, .int .u8 45] 5)) := hW.out.alloc hW.out.size _
        have HRY : Hid (BRow (wr.alloc (.cells #[.int .u8 120, .int .u8 47, .int .u8 58, .int .u8 32, .int .u8 45] 5)) w.heap.size l) := hRY
        have HWY : Hid (Below w.heap.size w (wr.alloc (.cells #[.int .u8 120, .int .u8 47, .int .u8 58, .int .u8 32, .int .u8 45] 5))) := hWY
        have hbp := hRY.cell p (by rw [hL.out]; exact hpl)
        have hfp := hRY.frozen p
        have hne : (len : Int) ≠ 0 := by omega
        clear hRY hWY h3
        go_wp2
        generalize wr.alloc (.cells #[.int .u8 120, .int .u8 47, .int .u8 58, .int .u8 32, .int .u8 45] 5) = Y at *
        obtain ⟨l', hl', hRl'⟩ := HRY.out.store p z hz
        have WV : Hid (Below w.heap.size w (Y.setCell ⟨w.heap.size, p, none⟩ (.int .u8 z)).drew) := (HWY.out.setCell (Nat.le_refl _) _).drew
        have hRd : BRow (Y.setCell ⟨w.heap.size, p, none⟩ (.int .u8 z)).drew w.heap.size l' := hRl'
        have hcv := hRd.text (hl'.trans hL.out)
        have HT : Hid ((⟨l'.toArray⟩ : ByteArray).size ≤ 1048576) := by
          show l'.toArray.size ≤ 1048576
          have := hl'.trans hL.out
          simp; omega
        have HL' : Hid (l'.length = l.length) := hl'
        clear hl' hRl' hRd
        go_region
        go_wp2_with (first
          | (go_at_call 4
             refine (parse_any _ HT.out _).mono ?_
             rintro e w0 ⟨rfl, hw0⟩
             have hw0' := hw0.symm
             clear hw0
             subst hw0')
          | (go_at_call 5
             refine (model_any _ HT.out _).mono ?_
             rintro e w0 ⟨rfl, n2, rfl⟩))
        go_ret
        exact ⟨rfl, WV.out.trans ⟨rfl, rfl, rfl, Nat.le_refl _, fun _ _ => rfl⟩⟩
      · by_cases h3a : bad % 3 = 0
        · have h3a' : (bad % 3 == 0) = true := beq_iff_eq.2 h3a
          have h3b : ¬ (0 : Int) < (len : Int) := by omega
          have WV : Hid (Below w.heap.size w wr) := hW.out
          have hcv := hR.out.text hL.out
          have HT : Hid ((⟨l.toArray⟩ : ByteArray).size ≤ 1048576) := by
            show l.toArray.size ≤ 1048576
            have := hL.out
            simp; omega
          clear h3
          go_wp2_with (first
            | (go_at_call 4
               refine (parse_any _ HT.out _).mono ?_
               rintro e w0 ⟨rfl, hw0⟩
               have hw0' := hw0.symm
               clear hw0
               subst hw0')
            | (go_at_call 5
               refine (model_any _ HT.out _).mono ?_
               rintro e w0 ⟨rfl, n2, rfl⟩))
          go_ret
          exact ⟨rfl, WV.out.trans ⟨rfl, rfl, rfl, Nat.le_refl _, fun _ _ => rfl⟩⟩
        · have h3a' : (bad % 3 == 0) = false := beq_eq_false_iff_ne.2 h3a
          have WV : Hid (Below w.heap.size w wr) := hW.out
          have hcv := hR.out.text hL.out
          have HT : Hid ((⟨l.toArray⟩ : ByteArray).size ≤ 1048576) := by
            show l.toArray.size ≤ 1048576
            have := hL.out
            simp; omega
          clear h3
          go_wp2_with (first
            | (go_at_call 4
               refine (parse_any _ HT.out _).mono ?_
               rintro e w0 ⟨rfl, hw0⟩
               have hw0' := hw0.symm
               clear hw0
               subst hw0')
            | (go_at_call 5
               refine (model_any _ HT.out _).mono ?_
               rintro e w0 ⟨rfl, n2, rfl⟩))
          go_ret
          exact ⟨rfl, WV.out.trans ⟨rfl, rfl, rfl, Nat.le_refl _, fun _ _ => rfl⟩⟩
end Go.Proofs.Ybulkdkto.Ct
