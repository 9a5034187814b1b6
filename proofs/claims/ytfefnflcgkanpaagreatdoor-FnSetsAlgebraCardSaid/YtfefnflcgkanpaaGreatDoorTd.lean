/-
  set.Set[int]: Intersection.
-/
import Derived.Test.YtfefnflcgkanpaaGreatDoorTc
namespace Go.Proofs.YtfefnflcgkanpaaGreatDoor
open Go.RowKit
set_option linter.unusedSimpArgs false
set_option linter.unusedVariables false

set_option maxRecDepth 20000 in
set_option maxHeartbeats 2000000 in
theorem interS_any (b b2 : Nat) (ks ks2 : List Int) (w : World) (H : SetI w b ks) (H2 : SetI w b2 ks2) (hn : ks.length ≤ 2000) (hn2 : ks2.length ≤ 2000) :
    Calls Tryz.prog 13 #[.map (some b), .map (some b2)] w fun e w' => ∃ r rs, e = .returned (.map (some r)) ∧ w.heap.size ≤ r ∧ SetI w' r rs ∧ (∀ x, x ∈ rs ↔ x ∈ ks ∧ x ∈ ks2) ∧ Ext w w' := by
  have hbl : b < w.heap.size := H.lt
  have hbl2 : b2 < w.heap.size := H2.lt
  have hmm := @run_makeMap Tryz.prog
  have E1 := (Ext.refl w).alloc (.map #[] 0)
  have HA0 := Lib.hid (H.extW E1)
  have HB0 := Lib.hid (H2.extW E1)
  have HA := Lib.hid (H.extW E1)
  have HB := Lib.hid (H2.extW E1)
  have HR := Lib.hid (SetI.newAt w rfl)
  have HAw := Lib.hid H
  have HBw := Lib.hid H2
  clear H H2
  go_enter Tryz.func13, Tryz.ntmps13
  go_wp2_with fail
  clear hmm
  refine (setLen_any b ks _ HA.out).mono ?_
  rintro e w1 ⟨rfl, rfl⟩
  go_wp2_with fail
  refine (setLen_any b2 ks2 _ HB.out).mono ?_
  rintro e w1 ⟨rfl, rfl⟩
  by_cases hll : ks.length < ks2.length
  · have t1 : decide ((ks.length : Int) < (ks2.length : Int)) = true := by simp [hll]
    have t2 : ((ks.length : Int) < (ks2.length : Int)) = True := by simp [hll]
    obtain ⟨w2, hrg, HI, E2, s2⟩ := IterL.start (P := Tryz.prog) keyI (HA.out) Tryz.underlying32
    rw [unit_keys, World.size_alloc] at HI
    rw [World.size_alloc] at hrg
    have HI2 := Lib.hid HI
    have HR2 := Lib.hid (HR.out.extW E2)
    have E02 := E1.trans E2
    clear HI E2 s2
    go_wp2_with fail
    clear hrg
    go_loopg [8] (ks).length (fun g u8 wr => ∃ left done rs, left.length ≤ g ∧ Hid (IterL (Value.int .i64) wr b (w.heap.size + 1) ((ks).map unitP) left) ∧ Hid (SetI wr w.heap.size rs) ∧ Hid (Came ks left done) ∧ Hid (Kept ks2 done rs true) ∧ Ext w wr)
    case atStart => exact ⟨ks, [], [], Nat.le_refl _, HI2, HR2, Lib.hid Came.start, Lib.hid (fun x => by simp), E02⟩
    case round =>
      obtain ⟨left, done, rs, hg, hI, hR, hC, hD, hE⟩ := hrel
      rcases hI.out.next (P := Tryz.prog) keyI 0 with ⟨h0, hnx⟩ | ⟨k9, v9, w9, hk9, hkv, hnx, HI9, X9, s9, hen⟩
      · subst h0
        go_wp2_with fail
        go_ret
        refine ⟨_, rs, rfl, Nat.le_refl _, hR.out, fun x => ?_, hE⟩
        rw [hD.out x, hC.out.fin.2, decide_eq_true_eq]
        all_goals (exact Iff.rfl)
      · obtain rfl := unit_val hkv
        have hC2 := Lib.hid (hC.out.step hk9)
        have hless := filter_less hk9
        have HI9 := Lib.hid HI9
        have hrl9 := HI9.out.lt
        have HR9 : Hid (SetI w9 w.heap.size rs) := Lib.hid (MapL.extX hR.out X9 (fun hm => by have hm : w.heap.size = w.heap.size + 1 := hm; omega))
        have E9 : Ext w w9 := ((hE.toX _).trans X9).toExt (fun k hk => by have hk : k = w.heap.size + 1 := hk; omega)
        clear hkv hk9 X9 s9 hI hC hR
        go_wp2_with fail
        refine (setHas_any b2 ks2 k9 _ (HBw.out.extW E9)).mono ?_
        rintro e w3 ⟨rfl, e3⟩
        have HI10 := Lib.hid (HI9.out.ext e3)
        have HR3 := Lib.hid (HR9.out.extW e3)
        have E93 := E9.trans e3
        have hI3 := HI10.out.lt
        clear hnx hen HI9 HR9
        by_cases hin : k9 ∈ ks2
        rotate_left
        · have hD2 := Lib.hid (hD.out.skip (k := k9) (by simp [hin]))
          rw [show decide (k9 ∈ ks2) = false by simp [hin]]
          replace hin := Lib.hid hin
          go_wp2_with fail
          go_roundg (left.length - 1)
          case measure => omega
          case rel => exact ⟨_, _, _, by omega, HI10, HR3, hC2, hD2, E93⟩
        · have hD2 := Lib.hid (hD.out.put (k := k9) (by simp [hin]))
          rw [show decide (k9 ∈ ks2) = true by simp [hin]]
          replace hin := Lib.hid hin
          go_wp2_with fail
          refine (insert_any w.heap.size rs [k9] _ _ (HR3.out.extW ((Ext.refl w3).alloc _)) (one_iv w3 k9 (by omega))).mono ?_
          rintro e w4 ⟨rfl, h4, x4⟩
          have X4 : ExtX (fun k => k = w.heap.size) w3 w4 := (((Ext.refl w3).alloc _).toX _).trans x4
          have HR4 : Hid (SetI w4 w.heap.size (insk rs k9)) := Lib.hid h4
          have HI11 := Lib.hid (HI10.out.extX X4 (fun h => by have h : b = w.heap.size := h; omega) (fun h => by have h : w.heap.size + 1 = w.heap.size := h; omega))
          have E4 : Ext w w4 := ((E93.toX _).trans X4).toExt (fun k hk => by have hk : k = w.heap.size := hk; omega)
          clear h4 x4 X4
          go_wp2_with fail
          go_roundg (left.length - 1)
          case measure => omega
          case rel => exact ⟨_, _, _, by omega, HI11, HR4, hC2, hD2, E4⟩
  · have t1 : decide ((ks.length : Int) < (ks2.length : Int)) = false := by simp; omega
    have t2 : ((ks.length : Int) < (ks2.length : Int)) = False := by simp; omega
    obtain ⟨w2, hrg, HI, E2, s2⟩ := IterL.start (P := Tryz.prog) keyI (HB.out) Tryz.underlying32
    rw [unit_keys, World.size_alloc] at HI
    rw [World.size_alloc] at hrg
    have HI2 := Lib.hid HI
    have HR2 := Lib.hid (HR.out.extW E2)
    have E02 := E1.trans E2
    clear HI E2 s2
    go_wp2_with fail
    clear hrg
    go_loopg [8] (ks2).length (fun g u8 wr => ∃ left done rs, left.length ≤ g ∧ Hid (IterL (Value.int .i64) wr b2 (w.heap.size + 1) ((ks2).map unitP) left) ∧ Hid (SetI wr w.heap.size rs) ∧ Hid (Came ks2 left done) ∧ Hid (Kept ks done rs true) ∧ Ext w wr)
    case atStart => exact ⟨ks2, [], [], Nat.le_refl _, HI2, HR2, Lib.hid Came.start, Lib.hid (fun x => by simp), E02⟩
    case round =>
      obtain ⟨left, done, rs, hg, hI, hR, hC, hD, hE⟩ := hrel
      rcases hI.out.next (P := Tryz.prog) keyI 0 with ⟨h0, hnx⟩ | ⟨k9, v9, w9, hk9, hkv, hnx, HI9, X9, s9, hen⟩
      · subst h0
        go_wp2_with fail
        go_ret
        refine ⟨_, rs, rfl, Nat.le_refl _, hR.out, fun x => ?_, hE⟩
        rw [hD.out x, hC.out.fin.2, decide_eq_true_eq]
        all_goals (exact And.comm)
      · obtain rfl := unit_val hkv
        have hC2 := Lib.hid (hC.out.step hk9)
        have hless := filter_less hk9
        have HI9 := Lib.hid HI9
        have hrl9 := HI9.out.lt
        have HR9 : Hid (SetI w9 w.heap.size rs) := Lib.hid (MapL.extX hR.out X9 (fun hm => by have hm : w.heap.size = w.heap.size + 1 := hm; omega))
        have E9 : Ext w w9 := ((hE.toX _).trans X9).toExt (fun k hk => by have hk : k = w.heap.size + 1 := hk; omega)
        clear hkv hk9 X9 s9 hI hC hR
        go_wp2_with fail
        refine (setHas_any b ks k9 _ (HAw.out.extW E9)).mono ?_
        rintro e w3 ⟨rfl, e3⟩
        have HI10 := Lib.hid (HI9.out.ext e3)
        have HR3 := Lib.hid (HR9.out.extW e3)
        have E93 := E9.trans e3
        have hI3 := HI10.out.lt
        clear hnx hen HI9 HR9
        by_cases hin : k9 ∈ ks
        rotate_left
        · have hD2 := Lib.hid (hD.out.skip (k := k9) (by simp [hin]))
          rw [show decide (k9 ∈ ks) = false by simp [hin]]
          replace hin := Lib.hid hin
          go_wp2_with fail
          go_roundg (left.length - 1)
          case measure => omega
          case rel => exact ⟨_, _, _, by omega, HI10, HR3, hC2, hD2, E93⟩
        · have hD2 := Lib.hid (hD.out.put (k := k9) (by simp [hin]))
          rw [show decide (k9 ∈ ks) = true by simp [hin]]
          replace hin := Lib.hid hin
          go_wp2_with fail
          refine (insert_any w.heap.size rs [k9] _ _ (HR3.out.extW ((Ext.refl w3).alloc _)) (one_iv w3 k9 (by omega))).mono ?_
          rintro e w4 ⟨rfl, h4, x4⟩
          have X4 : ExtX (fun k => k = w.heap.size) w3 w4 := (((Ext.refl w3).alloc _).toX _).trans x4
          have HR4 : Hid (SetI w4 w.heap.size (insk rs k9)) := Lib.hid h4
          have HI11 := Lib.hid (HI10.out.extX X4 (fun h => by have h : b2 = w.heap.size := h; omega) (fun h => by have h : w.heap.size + 1 = w.heap.size := h; omega))
          have E4 : Ext w w4 := ((E93.toX _).trans X4).toExt (fun k hk => by have hk : k = w.heap.size := hk; omega)
          clear h4 x4 X4
          go_wp2_with fail
          go_roundg (left.length - 1)
          case measure => omega
          case rel => exact ⟨_, _, _, by omega, HI11, HR4, hC2, hD2, E4⟩
end Go.Proofs.YtfefnflcgkanpaaGreatDoor
