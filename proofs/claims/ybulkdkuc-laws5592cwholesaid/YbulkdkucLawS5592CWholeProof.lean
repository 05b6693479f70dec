/-
  'Rows.LawS5592CWholeSaid': the law's walk (YbulkdkucLaw) in the guide's own frame (proof-skeleton.mjs), at this function's number and types.
-/
import Derived.Test.YbulkdkucRows
import Derived.Test.YbulkdkucLaw
import Derived.WalkKit
import Derived.ProofKit
import Derived.OpenShut
import Derived.ShutString
import Derived.ChangeOld
import Derived.ChangeSame
import Derived.Below
import Derived.Deep.Slices
namespace Go.Proofs.Ybulkdkuc.lawS5592CWhole
open Go.ChangeShapes Go.WideShapes Go.ChangeAt Go.RowKit
open Go.ChangeMaps (open_string shut_string)
open Go.Deep (open_slice choose_lt add_add)

theorem own : ownKnob Yba.prog.godebug = none := by kernel_rfl
theorem laidOut : laidOutB Yba.prog = true := by kernel_rfl
theorem cells70 : Yba.prog.cellsOf 70 = 4 := by kernel_rfl
theorem cells5 : Yba.prog.cellsOf 5 = 1 := by kernel_rfl

instance : Inhabited Sc.Raw := ⟨⟨0, 0, 0, 0⟩⟩

/-- The draw that came in: bytes, four a step. -/
theorem raws {H : Type} {enc : TypeId × Value → H} {W : World} {sp : Nat → Bool} {fuel : Nat} {a : Option Addr} {len cap : Nat} {x : DataW H × List MemPlace} (h : DataW.trod enc Yba.prog W 0 sp true fuel 34 [.slice a len cap] = some x) :
    ∃ R, Sc.RawAt W a len R ∧ Sc.RawOk len R := by
  rcases open_slice Yba.underlying34 h with ⟨hcs, _⟩ | ⟨x, l, c, m, n, D, Pl, hcs, hb, hl, hm, hmm, rfl, hx⟩
  · simp at hcs
    obtain ⟨rfl, rfl, rfl⟩ := hcs
    exact ⟨fun _ => default, fun i hi => absurd hi (Nat.not_lt_zero _), fun i hi => absurd hi (Nat.not_lt_zero _)⟩
  · simp at hcs
    obtain ⟨rfl, rfl, rfl⟩ := hcs
    have hlm : len ≤ m := by rw [hmm]; split <;> omega
    have spot : 0 < len → x.spot = none := fun h0 => by
      obtain ⟨cs', h1, _⟩ := hx 0 (by omega)
      rw [cells70] at h1
      obtain ⟨_, hlen, hcell⟩ := World.cells?_some h1
      have c0 := hcell 0 (by omega)
      rw [List.getElem?_eq_getElem (by omega)] at c0
      simpa [Addr.add] using World.cell?_spot c0
    have each : ∀ i, i < len → ∃ r : Sc.Raw, (∃ b o, some x = some ⟨b, o, none⟩ ∧ Sc.RawCells W b o i r) ∧ r.kind < 256 ∧ r.txn < 256 ∧ r.key < 256 ∧ r.frm < 256 := by
      intro i hi
      obtain ⟨cs', h1, h2⟩ := hx i (by omega)
      rw [cells70] at h1
      obtain ⟨_, hlen, hcell⟩ := World.cells?_some h1
      obtain ⟨xs, k, _, _, _, hxl, hf⟩ := DataW.trod_struct Yba.underlying70 h2
      match xs, hxl, cs', hlen with
      | [y0, y1, y2, y3], _, [v0, v1, v2, v3], _ =>
        have g0 := hf 0 _ rfl
        have g1 := hf 1 _ rfl
        have g2 := hf 2 _ rfl
        have g3 := hf 3 _ rfl
        simp [cells5] at g0 g1 g2 g3
        obtain ⟨q0, e0, _, f0⟩ := DataW.trod_int Yba.underlying5 g0
        obtain ⟨q1, e1, _, f1⟩ := DataW.trod_int Yba.underlying5 g1
        obtain ⟨q2, e2, _, f2⟩ := DataW.trod_int Yba.underlying5 g2
        obtain ⟨q3, e3, _, f3⟩ := DataW.trod_int Yba.underlying5 g3
        simp only [List.cons.injEq, and_true] at e0 e1 e2 e3
        subst e0; subst e1; subst e2; subst e3
        have b0 := bounds_u8 f0
        have b1 := bounds_u8 f1
        have b2 := bounds_u8 f2
        have b3 := bounds_u8 f3
        have c0 := hcell 0 (by omega)
        have c1 := hcell 1 (by omega)
        have c2 := hcell 2 (by omega)
        have c3 := hcell 3 (by omega)
        rw [add_add] at c0 c1 c2 c3
        have hspot := spot (by omega)
        obtain ⟨b, off, sp⟩ := x
        have hsp : sp = none := hspot
        subst hsp
        rw [Sc.add_at] at c0 c1 c2 c3
        refine ⟨⟨q0.toNat, q1.toNat, q2.toNat, q3.toNat⟩, ⟨b, off, rfl, ?_⟩, ?_, ?_, ?_, ?_⟩
        · unfold Sc.RawCells
          rw [Int.toNat_of_nonneg b0.1, Int.toNat_of_nonneg b1.1, Int.toNat_of_nonneg b2.1, Int.toNat_of_nonneg b3.1]
          refine ⟨by simpa using c0, by simpa [Nat.add_assoc] using c1, by simpa [Nat.add_assoc] using c2, by simpa [Nat.add_assoc] using c3⟩
        · show q0.toNat < 256; omega
        · show q1.toNat < 256; omega
        · show q2.toNat < 256; omega
        · show q3.toNat < 256; omega
    obtain ⟨R, hR⟩ := choose_lt each
    exact ⟨R, fun i hi => (hR i hi).1, fun i hi => (hR i hi).2⟩

/-! ### THE ROW's STEP -/
set_option maxRecDepth 100000 in
theorem lifted (os : Os) (started : os.Started) (H : Type) (enc : TypeId × Value → H) :
    ReturnsInHanded {} Yba.checked os 4 .any (Rows.lawS5592CWholeSpec.pre6 enc Yba.prog Yba.f4 Rows.lawS5592CWholeRow.domain false) (Rows.lawS5592CWholeSpec.post enc Yba.prog Yba.f4 false true false false) := by
  refine returnsInHanded_of_change (C := Yba.checked) own started (by kernel_rfl) Yba.func4
    (ChangeSpec.witness6 (enc := enc) (C := Yba.checked) false ⟨#[], #[.slice none 0 0], []⟩ 8 (by kernel_rfl) (by kernel_rfl) (by kernel_rfl) (by kernel_rfl)) ?_
  intro W base args ds gs before hval0 hW hcnd _
  have hval : ∀ (j : Nat) t v, Yba.f4.params[j]? = some t → args[j]? = some v → Value.okWide Yba.prog W .any base t v := hval0
  have hW' := hW
  obtain ⟨p, q, hA0, hV, rfl, hfz, hnd⟩ := hW
  have hA : DataW.TrodAll enc Yba.prog W 0 (fun _ => true) true Yba.f4.params.toList args.toList ds p := hA0
  rw [Yba.params4] at hA hval
  obtain ⟨v0, vs0, d0, ds0, p0, q0, hargs, rfl, rfl, h0, r0⟩ := trodAll_cons hA
  obtain ⟨rfl, rfl, rfl⟩ := trodAll_nil r0
  obtain rfl : args = #[v0] := by cases args; simp_all
  obtain ⟨rfl, rfl⟩ := trodVars_none hV
  obtain ⟨a0, len0, cap0, rfl⟩ := okWide_slice Yba.underlying34 (hval 0 34 v0 rfl rfl)
  have k0 := h0
  have lt0 : ∀ x ∈ p0, x.block < W.heap.size := by obtain ⟨m, hm⟩ := k0; exact DataW.trod_lt m _ _ _ hm
  obtain ⟨R, w0, w1⟩ : ∃ R, Sc.RawAt W a0 len0 R ∧ Sc.RawOk len0 R := by
    obtain ⟨fuel, hf⟩ := h0
    exact raws hf
  clear hA0 hval0
  refine (Sc.law_walk a0 len0 cap0 R W w0 w1).mono fun e W' ⟨he, bel⟩ => ?_
  subst he
  exact ⟨_, rfl, _, _, _, [], _, [], hW', trodAll_mk1 (shut_bool Yba.underlying4 _), (trodAll_cons_mk (Below.trod laidOut (by kernel_rfl) (of_decide_eq_true (by kernel_rfl)) k0 bel lt0) trodAll_mk0), rfl, bel.frame _, fun h => by cases h⟩

theorem over : Rows.lawS5592CWholeRow.holds Yba.pinned (OpenSpec.ofChange Rows.lawS5592CWholeSpec) :=
  OpenClaim.holds_of_wide 4 Yba.f4 rfl rfl rfl rfl rfl rfl rfl ⟨rfl, rfl, rfl, rfl, rfl⟩ rfl rfl rfl rfl rfl (by kernel_rfl) Yba.func4 (by kernel_rfl)
    (of_decide_eq_true (by kernel_rfl)) (by unfold Func.isWrapper; first | (rw [if_pos (by decide +kernel)]; kernel_rfl) | (rw [if_neg (by decide +kernel)]; exact ⟨rfl, rfl⟩))
    (fun os started H enc _ => lifted os started H enc)

/-- ████ THE STATEMENT ████ -/
theorem proved : Rows.LawS5592CWholeSaid := over
end Go.Proofs.Ybulkdkuc.lawS5592CWhole
