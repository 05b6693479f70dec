/-
  LawS5588AWhole (function 3), walked.
-/
import Derived.Test.YbulkdkryDoorRows
import Derived.Test.YbulkdkryDoorShelf
import Derived.Test.YbulkdkryDoorDec
import Derived.Test.YbulkdkryDoorName
import Derived.WalkKit
import Derived.WalkSpells
import Derived.WalkLawsBesides
import Derived.Laws.CopyOwn
import Derived.Deep.OwnRows
import Derived.Deep.QuietTactic
import Derived.BigQuiet
namespace Go.Proofs.YbulkdkryDoor.Law
open Go.RowKit

theorem info9 : (Ybad.prog.info? 9).map (fun i => (i.zero, i.size, i.bytes)) = some (some (.string ⟨#[]⟩), 1, 16) := by kernel_rfl
theorem size9 : (Ybad.prog.info? 9).map (·.size) = some 1 := by kernel_rfl

theorem bcell {W w1 : World} (hb : Below W.heap.size W w1) : (∀ b o, b < W.heap.size → w1.cell? ⟨b, o, none⟩ = W.cell? ⟨b, o, none⟩) ∧ (∀ b o, b < W.heap.size → w1.frozen? ⟨b, o, none⟩ = W.frozen? ⟨b, o, none⟩) :=
  ⟨fun b o h => hb.cell (p := ⟨b, o, none⟩) h, fun b o h => hb.frozen (p := ⟨b, o, none⟩) h⟩

set_option maxHeartbeats 400000 in
theorem walk_long (s : ByteArray) (a : Option Addr) (len cap : Nat) (n : Int) (w : World) (h : 1048576 < s.size) :
    Calls Ybad.prog 3 #[.string s, .slice a len cap, .int .i64 n] w fun e w' => e = .returned (.bool true) ∧ Below w.heap.size w w' := by
  have h' : (1048576 : Int) < (s.size : Int) := by omega
  go_enter Ybad.func3, Ybad.ntmps3
  go_wp2
  go_ret
  exact ⟨rfl, Below.refl _ _⟩

set_option maxHeartbeats 400000 in
theorem walk_many (s : ByteArray) (a : Option Addr) (len cap : Nat) (n : Int) (w : World) (hs : s.size ≤ 1048576) (h : 1048576 < len) :
    Calls Ybad.prog 3 #[.string s, .slice a len cap, .int .i64 n] w fun e w' => e = .returned (.bool true) ∧ Below w.heap.size w w' := by
  have h' : (1048576 : Int) < (len : Int) := by omega
  have hs' : ¬ (1048576 : Int) < (s.size : Int) := by omega
  go_enter Ybad.func3, Ybad.ntmps3
  go_wp2
  go_ret
  exact ⟨rfl, Below.refl _ _⟩

set_option maxHeartbeats 1000000 in
theorem walk_nil (s : ByteArray) (n : Int) (w : World) (hs : s.size ≤ 1048576) (h0 : -9223372036854775808 ≤ n) (h1 : n ≤ 9223372036854775807)
    (htab : Lib.TabIs Ybad.prog w tabName .u64 Lib.pow10Tab) :
    Calls Ybad.prog 3 #[.string s, .slice none 0 0, .int .i64 n] w fun e w' => e = .returned (.bool true) ∧ Below w.heap.size w w' := by
  have hs' : ¬ (1048576 : Int) < (s.size : Int) := by omega
  have hil := Lib.itoa_length_le n h0 h1
  have eq0 := fun W => Lib.run_eql_slice_nil (P := Ybad.prog) W 22 9 none 0 0 0 0 Ybad.underlying22
  have neq0 := fun W => run_neq_slice_nil_any (P := Ybad.prog) W 22 9 none 0 0 0 0 Ybad.underlying22
  have hu : ¬ IntKind.u64.wrap n < 0 := by rw [IntKind.wrap_u64]; omega
  go_enter Ybad.func3, Ybad.ntmps3
  go_wp2_with (first
    | (go_at_call 4; refine (Name.name_out _ _ _ _ _ hs h0 h1 (by omega) _ htab).mono ?_; rintro e w1 ⟨rfl, hb1⟩)
    | (go_at_call 5; refine (Dec.dec_any _ h0 h1 _).mono ?_; rintro e w2 ⟨rfl, hb2⟩))
  go_loop [10] (fun i => i = .int .i64 0) (fun _ => 0)
  case atStart => rfl
  case round =>
    subst hrel
    go_wp2
    go_ret
    exact ⟨rfl, hb1.trans (hb2.mono hb1.size)⟩

/-- What the walk is told of a slice of strings that came in, not nil. -/
def IsRow (w : World) (a : Addr) (len : Nat) (S : Nat → ByteArray) : Prop :=
  0 < len → ∃ b off, a = ⟨b, off, none⟩ ∧ ∀ i, i < len → w.cell? ⟨b, off + i, none⟩ = some (.string (S i))

/-- The copy's own row: block w.heap.size holds the same strings. -/
def Copied (w : World) (len : Nat) (S : Nat → ByteArray) (wr : World) : Prop :=
  (∀ i, i < len → wr.cell? ⟨w.heap.size, i, none⟩ = some (.string (S i))) ∧ Below w.heap.size w wr ∧ w.heap.size < wr.heap.size

def strs (len : Nat) (S : Nat → ByteArray) : List Value := (List.range len).map fun i => .string (S i)
theorem strs_length (len : Nat) (S : Nat → ByteArray) : (strs len S).length = len := by simp [strs]
theorem strs_at (len : Nat) (S : Nat → ByteArray) (j : Nat) (v : Value) (h : (strs len S)[j]? = some v) : j < len ∧ v = .string (S j) := by
  have hj : j < (strs len S).length := (List.getElem?_eq_some_iff.1 h).1
  rw [strs_length] at hj
  refine ⟨hj, ?_⟩
  simp [strs, hj] at h
  exact h.symm
theorem strs_get (len : Nat) (S : Nat → ByteArray) (j : Nat) (h : j < len) : (strs len S)[j]? = some (.string (S j)) := by simp [strs, h]
theorem strs_one (len : Nat) (S : Nat → ByteArray) (v : Value) (h : v ∈ strs len S) : v.oneCell' = true := by
  simp [strs] at h
  obtain ⟨i, _, rfl⟩ := h
  rfl

theorem copied_of {w w' : World} {len : Nat} {S : Nat → ByteArray} {t : TypeId} (h : w'.heap[w.heap.size]? = some (.cells (splice (List.replicate len (.string ⟨#[]⟩)) 0 (strs len S)).toArray t (0, 0))) (hb : Below w.heap.size w w') : Copied w len S w' := by
  have e : splice (List.replicate len (Value.string ⟨#[]⟩)) 0 (strs len S) = strs len S := by
    simp [splice, strs_length]
  rw [e] at h
  refine ⟨fun i hi => ?_, hb, ?_⟩
  · have hs := strs_get len S i hi
    simp [World.cell?, h, hs]
  · rcases Nat.lt_or_ge w.heap.size w'.heap.size with h' | h'
    · exact h'
    · rw [Array.getElem?_eq_none h'] at h; simp at h

theorem Copied.on {w wr w1 : World} {len : Nat} {S : Nat → ByteArray} (h : Copied w len S wr) (hb : Below wr.heap.size wr w1) : Copied w len S w1 :=
  ⟨fun i hi => (hb.cell h.2.2).trans (h.1 i hi), h.2.1.trans (hb.mono (by have := h.2.2; omega)), by have := hb.size; have := h.2.2; omega⟩

theorem made_row (w : World) (len : Nat) : (w.alloc (.cells (madeCells #[.string ⟨#[]⟩] len) 9)).heap[w.heap.size]? = some (.cells (List.replicate len (.string ⟨#[]⟩)).toArray 9 (0, 0)) := by
  have e : (List.replicate len (Value.string ⟨#[]⟩)).toArray = madeCells #[.string ⟨#[]⟩] len := by rw [← toList_madeCells_one]
  rw [e]
  show (w.heap.push _)[w.heap.size]? = _
  simp

/-- What the copy asks of its source. -/
theorem copy_src {w : World} {a : Addr} {len : Nat} {S : Nat → ByteArray} (hr : IsRow w a len S) (o : Obj) :
    0 < (strs len S).length → (some (⟨w.heap.size, 0, none⟩ : Addr) = some ⟨w.heap.size, 0, none⟩ ∧ ∃ ad, some a = some ad ∧ ∀ j v, (strs len S)[j]? = some v → (w.alloc o).cell? (ad.add j) = some v) := by
  intro h
  rw [strs_length] at h
  obtain ⟨b, off, rfl, hcell⟩ := hr h
  refine ⟨rfl, _, rfl, fun j v hj => ?_⟩
  obtain ⟨hj', rfl⟩ := strs_at len S j v hj
  rw [Lib.add_plain, ← hcell j hj']
  exact ((Below.refl w.heap.size w).alloc (Nat.le_refl _) o).cell (World.block_lt_of_cell? w _ (hcell j hj'))

theorem wrap_in {n : Int} {len : Nat} (hl : len ≤ 1048576) (h1 : n ≤ 9223372036854775807) (h : ¬ (0 ≤ n ∧ n < (len : Int))) (h0 : -9223372036854775808 ≤ n) : ¬ IntKind.u64.wrap n < (len : Int) := by
  rw [IntKind.wrap_u64]; omega

set_option maxHeartbeats 1000000 in
theorem walk_in (s : ByteArray) (b off len cap i : Nat) (S : Nat → ByteArray) (w : World) (hs : s.size ≤ 1048576) (hl : len ≤ 1048576) (hi : i < len)
    (hcell : ∀ i, i < len → w.cell? ⟨b, off + i, none⟩ = some (.string (S i))) :
    Calls Ybad.prog 3 #[.string s, .slice (some ⟨b, off, none⟩) len cap, .int .i64 i] w fun e w' => e = .returned (.bool true) ∧ Below w.heap.size w w' := by
  have hs' : ¬ (1048576 : Int) < (s.size : Int) := by omega
  have hl' : ¬ (1048576 : Int) < (len : Int) := by omega
  have hi' : (i : Int) < (len : Int) := by omega
  have eq0 := fun W A L C => Lib.run_eql_slice_nil (P := Ybad.prog) W 22 9 A L C 0 0 Ybad.underlying22
  have neq0 := fun W A L C => run_neq_slice_nil_any (P := Ybad.prog) W 22 9 A L C 0 0 Ybad.underlying22
  have hmk := fun W => run_make_row' (P := Ybad.prog) 22 9 (.string ⟨#[]⟩) 16 Ybad.underlying22 info9 rfl .i64 .i64 len (by omega) (by omega) W
  have hbw : b < w.heap.size := World.block_lt_of_cell? w _ (hcell i hi)
  have HR : Hid (IsRow w ⟨b, off, none⟩ len S) := fun _ => ⟨b, off, rfl, hcell⟩
  have HC : Hid (∀ i, i < len → w.cell? ⟨b, off + i, none⟩ = some (.string (S i))) := hcell
  clear hcell
  go_enter Ybad.func3, Ybad.ntmps3
  go_wp2_with (first
    | (show wpList _ _ _ (Oper.mk (some 26) _ _ _ _ _ :: _) _ _
       refine wpList_copy_splice rfl (.tmp 24) (.tmp 25) 22 22 rfl 9 Ybad.underlying22 size9 _ _ _ _ _ _ rfl rfl w.heap.size 0 (List.replicate len (.string ⟨#[]⟩)) 9 (made_row w len) (strs len S) (by rw [strs_length]; simp) (copy_src HR.out _) (by rw [strs_length]; simp) (strs_one len S) w.heap.size w ((Below.refl _ _).alloc (Nat.le_refl _) _) (Nat.le_refl _) ?_
       intro w1 hg1 hb1
       have hK : Copied w len S w1 := copied_of hg1.out hb1
       have hci : w1.cell? ⟨b, off + i, none⟩ = some (.string (S i)) := (hb1.cell hbw).trans (HC.out i hi)
       have hdi : w1.cell? ⟨w.heap.size, i, none⟩ = some (.string (S i)) := hK.1 i hi
       clear hg1)
    | (go_at_call 4; refine (Name.name_in _ _ _ _ _ _ _ hi _ hci).mono ?_; rintro e w2 ⟨rfl, rfl⟩))
  go_loopw [10] (fun k wr => ∃ j : Nat, j ≤ len ∧ k = .int .i64 j ∧ Copied w len S wr) (fun k _ => len - (intOf k).toNat)
  case atStart => exact ⟨0, Nat.zero_le _, rfl, hK⟩
  case round =>
    obtain ⟨j, hj, rfl, hKr⟩ := hrel
    clear hci hdi hK hb1
    by_cases hlt : j < len
    · have hlt' : (j : Int) < (len : Int) := by omega
      have hcj : wr.cell? ⟨b, off + j, none⟩ = some (.string (S j)) := (hKr.2.1.cell hbw).trans (HC.out j hlt)
      have hdj : wr.cell? ⟨w.heap.size, j, none⟩ = some (.string (S j)) := hKr.1 j hlt
      go_wp2
      go_quiet (fail)
      go_wp2
      go_roundw
      case rel => exact ⟨j + 1, by omega, by go_num, hKr.on ⟨rfl, rfl, rfl, Nat.le_refl _, fun _ _ => rfl⟩⟩
      case measure => simp [intOf]; omega
    · have hlt' : ¬ (j : Int) < (len : Int) := by omega
      go_wp2
      go_ret
      exact ⟨rfl, hKr.2.1⟩

set_option maxHeartbeats 1000000 in
theorem walk_out (s : ByteArray) (a : Addr) (len cap : Nat) (n : Int) (S : Nat → ByteArray) (w : World) (hs : s.size ≤ 1048576) (hl : len ≤ 1048576) (h0 : -9223372036854775808 ≤ n) (h1 : n ≤ 9223372036854775807) (hout : ¬ (0 ≤ n ∧ n < (len : Int)))
    (hr : IsRow w a len S) (htab : ∀ w', Below w.heap.size w w' → Lib.TabIs Ybad.prog w' tabName .u64 Lib.pow10Tab) :
    Calls Ybad.prog 3 #[.string s, .slice (some a) len cap, .int .i64 n] w fun e w' => e = .returned (.bool true) ∧ Below w.heap.size w w' := by
  have hs' : ¬ (1048576 : Int) < (s.size : Int) := by omega
  have hl' : ¬ (1048576 : Int) < (len : Int) := by omega
  have hil := Lib.itoa_length_le n h0 h1
  have hu := wrap_in hl h1 hout h0
  have eq0 := fun W A L C => Lib.run_eql_slice_nil (P := Ybad.prog) W 22 9 A L C 0 0 Ybad.underlying22
  have neq0 := fun W A L C => run_neq_slice_nil_any (P := Ybad.prog) W 22 9 A L C 0 0 Ybad.underlying22
  have hmk := fun W => run_make_row' (P := Ybad.prog) 22 9 (.string ⟨#[]⟩) 16 Ybad.underlying22 info9 rfl .i64 .i64 len (by omega) (by omega) W
  have HR : Hid (IsRow w a len S) := hr
  have HT : Hid (∀ w', Below w.heap.size w w' → Lib.TabIs Ybad.prog w' tabName .u64 Lib.pow10Tab) := htab
  have HO : Hid (¬ (0 ≤ n ∧ n < (len : Int))) := hout
  clear hr htab hout
  go_enter Ybad.func3, Ybad.ntmps3
  go_wp2_with (first
    | (show wpList _ _ _ (Oper.mk (some 26) _ _ _ _ _ :: _) _ _
       refine wpList_copy_splice rfl (.tmp 24) (.tmp 25) 22 22 rfl 9 Ybad.underlying22 size9 _ _ _ _ _ _ rfl rfl w.heap.size 0 (List.replicate len (.string ⟨#[]⟩)) 9 (made_row w len) (strs len S) (by rw [strs_length]; simp) (copy_src HR.out _) (by rw [strs_length]; simp) (strs_one len S) w.heap.size w ((Below.refl _ _).alloc (Nat.le_refl _) _) (Nat.le_refl _) ?_
       intro w1 hg1 hb1
       have hK : Copied w len S w1 := copied_of hg1.out hb1
       clear hg1)
    | (go_at_call 4; refine (Name.name_out _ _ _ _ _ hs h0 h1 HO.out _ (HT.out _ hb1)).mono ?_; rintro e w2 ⟨rfl, hb2⟩)
    | (go_at_call 5; refine (Dec.dec_any _ h0 h1 _).mono ?_; rintro e w3 ⟨rfl, hb3⟩))
  have hK3 : Copied w len S w3 := (hK.on hb2).on hb3
  go_loopw [10] (fun k wr => ∃ j : Nat, j ≤ len ∧ k = .int .i64 j ∧ Copied w len S wr) (fun k _ => len - (intOf k).toNat)
  case atStart => exact ⟨0, Nat.zero_le _, rfl, hK3⟩
  case round =>
    obtain ⟨j, hj, rfl, hKr⟩ := hrel
    clear hK hK3 hb1 hb2 hb3
    by_cases hlt : j < len
    · have hlt' : (j : Int) < (len : Int) := by omega
      obtain ⟨b, off, rfl, hcell⟩ := HR.out (by omega)
      have hcj : wr.cell? ⟨b, off + j, none⟩ = some (.string (S j)) := (hKr.2.1.cell (World.block_lt_of_cell? w _ (hcell j hlt))).trans (hcell j hlt)
      have hdj : wr.cell? ⟨w.heap.size, j, none⟩ = some (.string (S j)) := hKr.1 j hlt
      clear hcell
      go_wp2
      go_quiet (fail)
      go_wp2
      go_roundw
      case rel => exact ⟨j + 1, by omega, by go_num, hKr.on ⟨rfl, rfl, rfl, Nat.le_refl _, fun _ _ => rfl⟩⟩
      case measure => simp [intOf]; omega
    · have hlt' : ¬ (j : Int) < (len : Int) := by omega
      go_wp2
      go_ret
      exact ⟨rfl, hKr.2.1⟩
end Go.Proofs.YbulkdkryDoor.Law
