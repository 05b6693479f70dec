/-
  The versions' numbers (25): a map of maps.
-/
import Derived.Test.YbulkdkucLeaf
import Derived.Deep.LoopGhost
namespace Go.Proofs.Ybulkdkuc.Sc
open Go.RowKit Go.Maps

theorem run_makeMapN {t k e : TypeId} (ht : Yba.prog.underlying t = some (.map k e)) (n : Int) (W : World) : (Instr.makeMap t (some (.int .i64 n))).run Yba.prog W = .ok (.map (some W.heap.size)) (W.alloc (.map #[] 0)) := by
  simp [Instr.makeMap, run_underlying ht, asInt, Result.andThen]
  rfl

section
variable (w : World) {ops : Array Oper} {rest : List Oper} {o : Oper} {a : Act} {Q : Exit → Act → World → Prop}

/-- 'm[t] = c' in a map[int]int. -/
theorem wpList_store_i (hg : o.guard = none) (m x v : Operand) (hop : o.op = Op.mapUpdate 37 m x v) (b n : Nat) (mp : Nat → Option Nat) (hm : a.eval m = .map (some b)) (h : IMap w b n mp) (hn : n < 1000000) (t c : Nat)
    (hx : a.eval x = .int .i64 (t : Int)) (cz : Int) (hv : a.eval v = .int .i64 cz) (hcz : cz = (c : Int)) (ht : t ≤ 5)
    (hK : ∀ w', IMap w' b (n + 1) (upd mp t c) → w.grownBy w' (some b) → wpList Yba.prog ops Q rest (a.put o.dst undef) w') :
    wpList Yba.prog ops Q (o :: rest) a w := by
  subst hcz
  refine wpList_plain hg fun K' hK' => ?_
  obtain ⟨w', hrun, r1, r2⟩ := h.store hn ht c
  unfold Oper.wp
  simp [execOp, hop, hm, hx, hv, hrun, Result.andThen]
  exact hK' _ _ (hK w' r1 r2)

/-- A step of a range over the versions. -/
theorem wpList_next_vers (hg : o.guard = none) (it : Operand) (hop : o.op = Op.next it false) (b r n : Nat) (D : DataW Value) (V : ByteArray → List Nat) (left : Lit → Bool) (cnt : Nat)
    (hit : a.eval it = .pointer (some ⟨r, 0, none⟩)) (h : w.ranges Yba.prog 9 Rv b r n D left cnt) {w0 : World} (hV : VD w0 D V)
    (hDone : (∀ kl, left kl = false) → wpList Yba.prog ops Q rest (a.put o.dst (.tuple #[.bool false])) w)
    (hMore : ∀ (x : ByteArray) (A : Option Addr) (C : Nat) (w' : World) (cnt' : Nat), left (slit x) = true → V x ≠ [] → IntsAt w0 A (V x) → w'.ranges Yba.prog 9 Rv b r n D (fun z => left z && !z.sameKey (slit x)) cnt' → cnt' < cnt →
      w.grownBy w' (some r) → w'.heap.size = w.heap.size → (Instr.entry (.pointer (some ⟨r, 0, none⟩))).run Yba.prog w' = .ok (.tuple #[.string x, .slice A (V x).length C]) w' →
      wpList Yba.prog ops Q rest (a.put o.dst (.tuple #[.bool true, .string x, .slice A (V x).length C])) w') :
    wpList Yba.prog ops Q (o :: rest) a w := by
  refine wpList_plain hg fun K' hK' => ?_
  unfold Oper.wp
  rcases next_cases h K9 o.type with ⟨_, hl, hrun⟩ | ⟨key, v, kl, w', cnt', hkey, hlk, hv, hrun, hrg, hlt, hgr, hsz, hen⟩
  · simp [execOp, hop, hit, hrun, Result.andThen]
    exact hK' _ _ (hDone hl)
  · obtain ⟨x, rfl, rfl⟩ := key9_inv hkey
    obtain ⟨h1, A, C, rfl, h3⟩ := hV.2 x v hv
    simp [execOp, hop, hit, hrun, Result.andThen]
    exact hK' _ _ (hMore x A C w' cnt' hlk h1 h3 hrg hlt hgr hsz hen)

/-- A step of a range over a map[int]int. -/
theorem wpList_next_im (hg : o.guard = none) (it : Operand) (hop : o.op = Op.next it false) (b r n : Nat) (D : DataW Value) (m : Nat → Option Nat) (left : Lit → Bool) (cnt : Nat)
    (hit : a.eval it = .pointer (some ⟨r, 0, none⟩)) (h : w.ranges Yba.prog 3 Rv b r n D left cnt) (hM : IM D m)
    (hDone : (∀ kl, left kl = false) → wpList Yba.prog ops Q rest (a.put o.dst (.tuple #[.bool false])) w)
    (hMore : ∀ (t c : Nat) (w' : World) (cnt' : Nat), left (ilit t) = true → m t = some c → t ≤ 5 → w'.ranges Yba.prog 3 Rv b r n D (fun z => left z && !z.sameKey (ilit t)) cnt' → cnt' < cnt →
      w.grownBy w' (some r) → w'.heap.size = w.heap.size → (Instr.entry (.pointer (some ⟨r, 0, none⟩))).run Yba.prog w' = .ok (.tuple #[.int .i64 (t : Int), .int .i64 (c : Int)]) w' →
      wpList Yba.prog ops Q rest (a.put o.dst (.tuple #[.bool true, .int .i64 (t : Int), .int .i64 (c : Int)])) w') :
    wpList Yba.prog ops Q (o :: rest) a w := by
  refine wpList_plain hg fun K' hK' => ?_
  unfold Oper.wp
  rcases next_cases h K3 o.type with ⟨_, hl, hrun⟩ | ⟨key, v, kl, w', cnt', hkey, hlk, hv, hrun, hrg, hlt, hgr, hsz, hen⟩
  · simp [execOp, hop, hit, hrun, Result.andThen]
    exact hK' _ _ (hDone hl)
  · obtain ⟨t, c, rfl, rfl, h3, h4⟩ := hM.2 kl v hv
    obtain ⟨y, rfl, h6, _⟩ := keyOf_int_inv Yba.underlying3 hkey
    unfold ilit at h6
    injection h6 with _ h7
    subst h7
    simp [execOp, hop, hit, hrun, Result.andThen]
    exact hK' _ _ (hMore t c w' cnt' hlk h3 h4 hrg hlt hgr hsz hen)
end

/-- Of the keys in dn, the map of maps has each its versions' numbers. -/
def VerD (w : World) (B bx : Nat) (D : DataW Value) (V : ByteArray → List Nat) (dn : ByteArray → Prop) : Prop :=
  ∀ x, V x ≠ [] → dn x → ∃ b', look D (slit x) = some (.map (some b')) ∧ B ≤ b' ∧ b' ≠ bx ∧ IMap w b' (V x).length (verO (V x) (V x).length)
def VerMap (w : World) (B bx : Nat) (V : ByteArray → List Nat) : Prop := ∃ D n, w.ownsMap Yba.prog 9 Rv bx n D ∧ VerD w B bx D V (fun _ => True)

theorem VerD.kept {S : Nat → Prop} {w w' : World} {B bx : Nat} {D : DataW Value} {V : ByteArray → List Nat} {dn : ByteArray → Prop} (h : VerD w B bx D V dn) (hk : Kept S w w') (hS : ∀ b', B ≤ b' → b' < w.heap.size → b' ≠ bx → ¬ S b') : VerD w' B bx D V dn := fun x hx hd => by
  obtain ⟨b', h1, h2, h3, h4⟩ := h x hx hd
  exact ⟨b', h1, h2, h3, h4.kept hk (hS b' h2 h4.lt h3)⟩
theorem VerMap.below {w w' : World} {B bx : Nat} {V : ByteArray → List Nat} (h : VerMap w B bx V) (hk : Below w.heap.size w w') : VerMap w' B bx V := by
  obtain ⟨D, n, h1, h2⟩ := h
  exact ⟨D, n, owns_below h1 hk, h2.kept (Kept.of_below (S := fun _ => False) hk) fun _ _ _ _ h => h⟩
theorem VerMap.lt {w : World} {B bx : Nat} {V : ByteArray → List Nat} (h : VerMap w B bx V) : bx < w.heap.size := by obtain ⟨D, n, h1, _⟩ := h; exact h1.lt
/-- 'version[x]', 'version[x][f]'. -/
theorem VerMap.run {w : World} {B bx : Nat} {V : ByteArray → List Nat} (h : VerMap w B bx V) {x : ByteArray} (hx : x.size ≤ 1) (hV : V x ≠ []) {f : Nat} (hf : f ≤ 1000) :
    ∃ b', (Instr.lookup 74 (.map (some bx)) (.string x) false).run Yba.prog w = .ok (.map (some b')) w ∧ (Instr.lookup 37 (.map (some b')) (.int .i64 (f : Int)) false).run Yba.prog w = .ok (.int .i64 (ver (V x) f : Nat)) w := by
  obtain ⟨D, n, h1, h2⟩ := h
  obtain ⟨b', h3, _, _, h4⟩ := h2 x hV trivial
  refine ⟨b', ?_, ?_⟩
  · rw [look_run h1 K9 Yba.underlying74 (zero37 w) (key9 hx), h3]; rfl
  · rw [h4.run hf, verO_full]
/-- .. in whatever world behind w. -/
theorem VerMap.runs {w : World} {B bx : Nat} {V : ByteArray → List Nat} (h : VerMap w B bx V) {x : ByteArray} (hx : x.size ≤ 1) (hV : V x ≠ []) {f : Nat} (hf : f ≤ 1000) :
    ∃ b', ∀ w', Below w.heap.size w w' → (Instr.lookup 74 (.map (some bx)) (.string x) false).run Yba.prog w' = .ok (.map (some b')) w' ∧ (Instr.lookup 37 (.map (some b')) (.int .i64 (f : Int)) false).run Yba.prog w' = .ok (.int .i64 (ver (V x) f : Nat)) w' := by
  obtain ⟨D, n, h1, h2⟩ := h
  obtain ⟨b', h3, _, _, h4⟩ := h2 x hV trivial
  refine ⟨b', fun w' hb => ⟨?_, ?_⟩⟩
  · rw [look_run (owns_below h1 hb) K9 Yba.underlying74 (zero37 w') (key9 hx), h3]; rfl
  · rw [(h4.below hb).run hf, verO_full]
end Go.Proofs.Ybulkdkuc.Sc
