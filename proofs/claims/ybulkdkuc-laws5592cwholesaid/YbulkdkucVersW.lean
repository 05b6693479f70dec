/-
  The versions' numbers (25), walked.
-/
import Derived.Test.YbulkdkucVers
namespace Go.Proofs.Ybulkdkuc.Sc
open Go.RowKit Go.Maps

/-- The outer loop's relation. -/
structure VRel (w : World) (bv nv : Nat) (D0 : DataW Value) (V : ByteArray → List Nat) (cnt : Nat) (left : Lit → Bool) (D : DataW Value) (n : Nat) (wr : World) : Prop where
  rg : wr.ranges Yba.prog 9 Rv bv (w.heap.size + 1) nv D0 left cnt
  cle : cnt + n ≤ nv
  own : wr.ownsMap Yba.prog 9 Rv w.heap.size n D
  ver : VerD wr (w.heap.size + 2) w.heap.size D V (fun x => left (slit x) = false)
  bel : Below w.heap.size w wr

theorem VRel.start {w w0 : World} {bv nv : Nat} {D0 : DataW Value} {V : ByteArray → List Nat} (ho : w.ownsMap Yba.prog 9 Rv bv nv D0) (hV : VD w D0 V) (hk : ∀ x, V x ≠ [] → x.size ≤ 1)
    (hrg : w0.ranges Yba.prog 9 Rv bv (w.heap.size + 1) nv D0 (Maps.has D0) (Maps.size D0)) (hg : (w.alloc (.map #[] 0)).grownBy w0 none) : VRel w bv nv D0 V (Maps.size D0) (Maps.has D0) (.map []) 0 w0 := by
  refine ⟨hrg, by have := ho.size_le; omega, (World.ownsMap_made _ _ _ _).kept hg (by simp), fun x hx hl => ?_, ((Below.refl _ _).alloc (Nat.le_refl _) _).grown hg (by simp) (fun j hj => by cases hj)⟩
  exfalso
  have hl' : Maps.has D0 (slit x) = false := hl
  rw [has_look ho K9 (key9 (hk x hx))] at hl'
  cases e : look D0 (slit x) with
  | none => exact hx (hV.1 x e)
  | some v => rw [e] at hl'; cases hl'

/-- Behind 'version[x] = map', the new map empty, block b'. -/
structure VMid (w w2 : World) (bv nv : Nat) (D0 : DataW Value) (V : ByteArray → List Nat) (cnt : Nat) (left : Lit → Bool) (D : DataW Value) (n : Nat) (x : ByteArray) (b' i : Nat) : Prop where
  rg : w2.ranges Yba.prog 9 Rv bv (w.heap.size + 1) nv D0 (fun z => left z && !z.sameKey (slit x)) cnt
  cle : cnt + (n + 1) ≤ nv
  own : w2.ownsMap Yba.prog 9 Rv w.heap.size (n + 1) (D.put (slit x) (.held (.map (some b'))))
  ver : VerD w2 (w.heap.size + 2) w.heap.size D V (fun y => left (slit y) = false)
  lft : left (slit x) = true
  new : ∀ y, V y ≠ [] → left (slit y) = false → ∀ b'', look D (slit y) = some (.map (some b'')) → b'' ≠ b'
  bl : w.heap.size + 2 ≤ b'
  im : IMap w2 b' i (verO (V x) i)
  bel : Below w.heap.size w w2

theorem VRel.mid {w wr w1 w2 : World} {bv nv cnt cnt' n : Nat} {D0 D : DataW Value} {V : ByteArray → List Nat} {left : Lit → Bool} {x : ByteArray} (h : VRel w bv nv D0 V cnt left D n wr) (hbv : bv < w.heap.size)
    (hlx : left (slit x) = true) (hrg : w1.ranges Yba.prog 9 Rv bv (w.heap.size + 1) nv D0 (fun z => left z && !z.sameKey (slit x)) cnt') (hlt : cnt' < cnt) (hg1 : wr.grownBy w1 (some (w.heap.size + 1)))
    (hown : w2.ownsMap Yba.prog 9 Rv w.heap.size (n + 1) (D.put (slit x) (.held (.map (some w1.heap.size))))) (hg2 : (w1.alloc (.map #[] 0)).grownBy w2 (some w.heap.size)) :
    VMid w w2 bv nv D0 V cnt' left D n x w1.heap.size 0 := by
  have hs : w.heap.size + 2 ≤ wr.heap.size := by have := h.rg.lt; omega
  have hs1 := hg1.size
  have k1 : Kept (fun k => k = w.heap.size + 1) wr w1 := Kept.grown hg1 fun k e => by cases e; rfl
  have k2 : Kept (fun k => k = w.heap.size) (w1.alloc (.map #[] 0)) w2 := Kept.grown hg2 fun k e => by cases e; rfl
  have k12 : Kept (fun k => k = w.heap.size) w1 w2 := (Kept.alloc (fun k => k = w.heap.size) w1 _).trans k2
  refine ⟨?_, by have := h.cle; omega, hown, ?_, hlx, ?_, by omega, ?_, ?_⟩
  · exact (hrg.alloc _).kept hg2 (fun e => by have := Option.some.inj e; omega) (fun e => by have := Option.some.inj e; omega)
  · exact (h.ver.kept k1 fun b' h1 h2 h3 e => by omega).kept k12 fun b' h1 h2 h3 e => h3 e
  · intro y hy hl b'' hb'' e
    obtain ⟨b3, e1, _, _, e4⟩ := h.ver y hy hl
    rw [hb''] at e1
    injection e1 with e1; injection e1 with e1; injection e1 with e1
    have := e4.lt
    omega
  · exact ((IMap.made w1).kept k2 (by omega)).congr fun t => (verO_zero _ _).symm
  · exact ((h.bel.grown hg1 (by have := h.bel.size; omega) (fun j e => by cases e; omega)).alloc (by omega) _).grown hg2 (by simp; omega) (fun j e => by cases e; omega)

theorem VMid.step {w w2 w3 : World} {bv nv cnt n b' i : Nat} {D0 D : DataW Value} {V : ByteArray → List Nat} {left : Lit → Bool} {x : ByteArray} (h : VMid w w2 bv nv D0 V cnt left D n x b' i) (hbv : bv < w.heap.size)
    (hnd : (V x).Nodup) (hi : i < (V x).length) (him : IMap w3 b' (i + 1) (upd (verO (V x) i) ((V x).getD i 0) (i + 1))) (hg : w2.grownBy w3 (some b')) :
    VMid w w3 bv nv D0 V cnt left D n x b' (i + 1) := by
  have hb := h.bl
  have k : Kept (fun k => k = b') w2 w3 := Kept.grown hg fun k e => by cases e; rfl
  refine ⟨h.rg.kept hg (fun e => by have := Option.some.inj e; omega) (fun e => by have := Option.some.inj e; omega), h.cle, owns_kept h.own k (by omega), fun y hy hl => ?_, h.lft, h.new, h.bl, him.congr fun t => ?_, ?_⟩
  · obtain ⟨b2, e1, e2, e3, e4⟩ := h.ver y hy hl
    exact ⟨b2, e1, e2, e3, e4.kept k (h.new y hy hl b2 e1)⟩
  · rw [verO_step hnd hi]; rfl
  · exact h.bel.grown hg h.bel.size (fun j e => by cases e; omega)

theorem VMid.done {w w2 : World} {bv nv cnt n b' : Nat} {D0 D : DataW Value} {V : ByteArray → List Nat} {left : Lit → Bool} {x : ByteArray} (h : VMid w w2 bv nv D0 V cnt left D n x b' (V x).length) (hD : IsMap D) :
    VRel w bv nv D0 V cnt (fun z => left z && !z.sameKey (slit x)) (D.put (slit x) (.held (.map (some b')))) (n + 1) w2 := by
  refine ⟨h.rg, h.cle, h.own, fun y hy hl => ?_, h.bel⟩
  by_cases e : y = x
  · subst e
    exact ⟨b', look_put_same hD (lit_s _) _, h.bl, by have := h.bl; omega, h.im⟩
  · have hne : slit y ≠ slit x := fun e' => e (slit_inj e')
    rw [look_put_other hne]
    refine h.ver y hy ?_
    have h1 : (slit y).sameKey (slit x) = false := sameKey_ne hne
    simpa [h1] using hl

set_option maxRecDepth 100000 in
set_option maxHeartbeats 1000000 in
theorem versions_walk (bS bv nv : Nat) (V : ByteArray → List Nat) (w : World) (s1 : w.cell? ⟨bS, 1, none⟩ = some (.map (some bv))) (hV : Vers w bv nv V) (hnv : nv ≤ 1000) (h5 : ∀ x, ∀ y ∈ V x, 1 ≤ y ∧ y ≤ 5) (hnd : ∀ x, (V x).Nodup)
    (hk : ∀ x, V x ≠ [] → x.size ≤ 1) (hlen : ∀ x, (V x).length ≤ 100000) :
    Calls Yba.prog 25 #[.pointer (some ⟨bS, 0, none⟩)] w fun e w' => e = .returned (.map (some w.heap.size)) ∧ VerMap w' (w.heap.size + 2) w.heap.size V ∧ Below w.heap.size w w' := by
  obtain ⟨D0, ho, hD⟩ := hV
  have hbv := ho.lt
  have hbS := lt_of_cell s1
  have HV : Hid (VD w D0 V) := hD
  have HO : Hid (w.ownsMap Yba.prog 9 Rv bv nv D0) := ho
  have H5 : Hid (∀ x, ∀ y ∈ V x, 1 ≤ y ∧ y ≤ 5) := h5
  have HN : Hid (∀ x, (V x).Nodup) := hnd
  have HK : Hid (∀ x, V x ≠ [] → x.size ≤ 1) := hk
  have HL : Hid (∀ x, (V x).length ≤ 100000) := hlen
  have hsz := ho.size_le
  clear ho hD h5 hnd hk hlen
  have m74 := fun n W => run_makeMapN Yba.underlying74 n W
  have m37 := fun n W => run_makeMapN Yba.underlying37 n W
  have e1 : (w.alloc (.map #[] 0)).heap.size = w.heap.size + 1 := by simp
  go_enter Yba.func25, Yba.ntmps25
  go_wp2_with (first
    | (at_len
       refine wpList_len_own _ rfl _ 36 rfl 9 48 Yba.underlying36 Rv bv nv D0 rfl HO.out ?_)
    | (at_range
       refine wpList_range_own _ rfl _ 36 rfl 9 48 K9 Yba.underlying36 Rv bv nv D0 rfl (HO.out.alloc _) ?_
       intro w0 hrg0 hg0 hs0)
    | go_in)
  go_frame
  rw [e1] at hrg0 hs0 ⊢
  have HR0 : Hid (VRel w bv nv D0 V (Maps.size D0) (Maps.has D0) (.map []) 0 w0) := VRel.start HO.out HV.out HK.out hrg0 hg0
  clear hrg0 hg0 hs0
  go_loopg [4] (Maps.size D0) (fun g _ wr => ∃ left D n, Hid (VRel w bv nv D0 V g left D n wr))
  case atStart => exact ⟨_, _, _, HR0⟩
  case round =>
    obtain ⟨left, D, n, HR⟩ := hrel
    go_wp2_with (first
      | (at_next
         refine wpList_next_vers _ rfl _ rfl bv (w.heap.size + 1) nv D0 V left gk rfl HR.out.rg HV.out ?_ ?_)
      | go_in)
    · intro hl0
      go_wp2
      go_ret
      exact ⟨rfl, ⟨D, n, HR.out.own, fun x hx _ => HR.out.ver x hx (hl0 _)⟩, HR.out.bel⟩
    · intro x A C w1 cnt1 hlx hVx hI hrg1 hlt hg1 hs1 hen
      have hx1 := HK.out x hVx
      have HI : Hid (IntsAt w A (V x)) := hI
      have HRG : Hid (w1.ranges Yba.prog 9 Rv bv (w.heap.size + 1) nv D0 (fun z => left z && !z.sameKey (slit x)) cnt1) := hrg1
      have HG1 : Hid (wr.grownBy w1 (some (w.heap.size + 1))) := hg1
      have HLX : Hid (left (slit x) = true) := hlx
      have HOW : Hid ((w1.alloc (.map #[] 0)).ownsMap Yba.prog 9 Rv w.heap.size n D) := (HR.out.own.kept hg1 (by simp)).alloc _
      have hn : n < maxLen := by have := HR.out.cle; unfold maxLen; omega
      obtain ⟨L, hL⟩ : ∃ L, L = (V x).length := ⟨_, rfl⟩
      rw [← hL] at hen ⊢
      have HLL : Hid (L = (V x).length) := hL
      have hL2 : L ≤ 100000 := by rw [hL]; exact HL.out x
      clear hI hrg1 hg1 hlx hVx hL hs1
      go_wp2_with (first
        | (at_mapUpdate
           refine wpList_mapUpdate_own _ rfl _ _ _ 74 rfl 9 37 K9 Yba.underlying74 Rv w.heap.size n D rfl HOW.out hn _ _ _ rfl rfl (key9 hx1) _ [] rfl ?_
           intro w2 hown2 hg2
           have HM : Hid (VMid w w2 bv nv D0 V cnt1 left D n x w1.heap.size 0) := HR.out.mid hbv HLX.out HRG.out hlt HG1.out hown2 hg2
           clear hown2 hg2
           refine Hid.out ?_)
        | go_in)
      refine hid_of ?_
      go_wp2
      have HD : Hid (IsMap D) := HR.out.own.isMap
      obtain ⟨b', hb'⟩ : ∃ b', b' = w1.heap.size := ⟨_, rfl⟩
      rw [← hb'] at HM
      clear hen HRG HG1 HLX HOW HR hb'
      go_loopg [31] L (fun g i wr2 => ∃ j : Nat, i = .int .i64 j ∧ j + g = L ∧ Hid (VMid w wr2 bv nv D0 V cnt1 left D n x b' j))
      case atStart => exact ⟨0, rfl, Nat.zero_add _, HM⟩
      case round =>
        obtain ⟨j, rfl, hj, HM1⟩ := hrel
        by_cases hjL : j < L
        · have hjL' : (j : Int) < (L : Int) := by omega
          have hj2 : j < (V x).length := by rw [← HLL.out]; exact hjL
          obtain ⟨g, rfl, hc⟩ := HI.out.below HM1.out.bel j hj2
          obtain ⟨y, hy⟩ : ∃ y, y = (V x).getD j 0 := ⟨_, rfl⟩
          rw [← hy] at hc
          have HY : Hid (y = (V x).getD j 0) := hy
          have hy5 : y ≤ 5 := by rw [hy]; exact (H5.out x _ (getD_mem hj2)).2
          have hlook : (Instr.lookup 74 (.map (some w.heap.size)) (.string x) false).run Yba.prog wr = .ok (.map (some b')) wr := by
            rw [look_run HM1.out.own K9 Yba.underlying74 (zero37 _) (key9 hx1), look_put_same HD.out (lit_s _)]; rfl
          have hjm : j < 1000000 := by omega
          clear hy hj2
          go_wp2_with (first
            | (at_mapUpdate
               refine wpList_store_i _ rfl _ _ _ rfl b' j (verO (V x) j) rfl HM1.out.im hjm y (j + 1) rfl _ rfl (by omega) hy5 ?_
               intro w3 him hg3
               have HM2 : Hid (VMid w w3 bv nv D0 V cnt1 left D n x b' (j + 1)) := HM1.out.step hbv (HN.out x) (by rw [← HLL.out]; exact hjL) (by rw [← HY.out]; exact him) hg3
               clear him hg3
               refine Hid.out ?_)
            | go_in)
          refine hid_of ?_
          go_wp2
          go_roundg (L - (j + 1))
          case measure => omega
          case rel => exact ⟨j + 1, by go_num, by omega, HM2⟩
        · have hjL' : ¬ (j : Int) < (L : Int) := by omega
          have hjeq : j = (V x).length := by rw [← HLL.out]; omega
          go_wp2
          go_roundg cnt1
          case measure => exact hlt
          case rel => exact ⟨_, _, _, VMid.done (hjeq ▸ HM1.out) HD.out⟩
end Go.Proofs.Ybulkdkuc.Sc
