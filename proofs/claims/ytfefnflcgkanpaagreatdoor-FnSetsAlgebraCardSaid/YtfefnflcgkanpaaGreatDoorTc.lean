/-
  set.Set[int]: Intersection, IsSuperset, Union, SymmetricDifference.
-/
import Derived.Test.YtfefnflcgkanpaaGreatDoorTb
namespace Go.Proofs.YtfefnflcgkanpaaGreatDoor
open Go.RowKit
set_option linter.unusedSimpArgs false
set_option linter.unusedVariables false

theorem own_ne {w : World} {base S : Nat} {e : TypeId} {v : Value} {xs : List Int} (h : OwnP Rp.iv w any base e v xs) (hS : S < base) : (Rp.slice Rp.iv).K w (fun k => k ≠ S) xs [v] := by
  have ho := h.own
  obtain ⟨_, cells, h1, h2⟩ := h
  exact OwnP.slice (base := base) (e := e) ⟨fun g hg => by have := (ho g hg).1; omega, cells, h1, fun i x hx => h2 i x hx⟩
set_option maxRecDepth 20000 in
set_option maxHeartbeats 1000000 in
theorem unionS_any (b b2 : Nat) (ks ks2 : List Int) (w : World) (H : SetI w b ks) (H2 : SetI w b2 ks2) (hn : ks.length ≤ 2000) (hn2 : ks2.length ≤ 2000) :
    Calls Tryz.prog 11 #[.map (some b), .map (some b2)] w fun e w' => ∃ r rs, e = .returned (.map (some r)) ∧ w.heap.size ≤ r ∧ SetI w' r rs ∧ (∀ x, x ∈ rs ↔ x ∈ ks ∨ x ∈ ks2) ∧ Ext w w' := by
  have hmm := @run_makeMap Tryz.prog
  have E1 := (Ext.refl w).alloc (.map #[] 0)
  have HA := Lib.hid (H.extW E1)
  have HB := Lib.hid (H2.extW E1)
  have HR := Lib.hid (SetI.newAt w rfl)
  have hbl : b < w.heap.size := H.lt
  have hbl2 : b2 < w.heap.size := H2.lt
  clear H H2
  go_enter Tryz.func11, Tryz.ntmps11
  go_wp2_with fail
  clear hmm
  refine (unsortedS_any b ks _ HA.out hn).mono ?_
  rintro e w1 ⟨v, done, rfl, hO, ⟨_, hm⟩, e1⟩
  have HR1 := Lib.hid (HR.out.extW e1)
  have HB1 := Lib.hid (HB.out.extW e1)
  have HO := Lib.hid (own_ne (S := w.heap.size) hO (by rw [World.size_alloc]; omega))
  have HM := Lib.hid hm
  have E2 := E1.trans e1
  clear hO hm E1 e1
  go_wp2_with fail
  refine (insert_any w.heap.size [] done v _ HR1.out HO.out).mono ?_
  rintro e w2 ⟨rfl, h2, x2⟩
  have HR2 := Lib.hid h2
  have HB2 : Hid (SetI w2 b2 ks2) := Lib.hid (HB1.out.extX x2 (fun h => by have h : b2 = w.heap.size := h; omega))
  have E3 : Ext w w2 := ((E2.toX _).trans x2).toExt (fun k hk => by have hk : k = w.heap.size := hk; omega)
  have hsz := HR2.out.lt
  clear h2 x2
  go_wp2_with fail
  refine (unsortedS_any b2 ks2 _ HB2.out hn2).mono ?_
  rintro e w3 ⟨v2, done2, rfl, hO2, ⟨_, hm2⟩, e3⟩
  have HR3 := Lib.hid (HR2.out.extW e3)
  have HO2 := Lib.hid (own_ne (S := w.heap.size) hO2 hsz)
  have HM2 := Lib.hid hm2
  have E4 := E3.trans e3
  clear hO2 hm2 e3
  go_wp2_with fail
  refine (insert_any w.heap.size (insAll [] done) done2 v2 _ HR3.out HO2.out).mono ?_
  rintro e w4 ⟨rfl, h4, x4⟩
  have HR4 := Lib.hid h4
  have E5 : Ext w w4 := ((E4.toX _).trans x4).toExt (fun k hk => by have hk : k = w.heap.size := hk; omega)
  clear h4 x4
  go_wp2_with fail
  go_ret
  exact ⟨_, _, rfl, Nat.le_refl _, HR4.out, fun x => by rw [mem_insAll, mem_insAll, HM.out, HM2.out]; simp, E5⟩
set_option maxRecDepth 20000 in
set_option maxHeartbeats 1000000 in
theorem symS_any (b b2 : Nat) (ks ks2 : List Int) (w : World) (H : SetI w b ks) (H2 : SetI w b2 ks2) (hn : ks.length ≤ 2000) (hn2 : ks2.length ≤ 2000) :
    Calls Tryz.prog 15 #[.map (some b), .map (some b2)] w fun e w' => ∃ r rs, e = .returned (.map (some r)) ∧ w.heap.size ≤ r ∧ SetI w' r rs ∧ (∀ x, x ∈ rs ↔ (x ∈ ks ∧ x ∉ ks2) ∨ (x ∈ ks2 ∧ x ∉ ks)) ∧ Ext w w' := by
  have HA := Lib.hid H
  have HB := Lib.hid H2
  clear H H2
  go_enter Tryz.func15, Tryz.ntmps15
  go_wp2_with fail
  refine (diffS_any b b2 ks ks2 w HA.out HB.out).mono ?_
  rintro e w1 ⟨r1, rs1, rfl, _, hR1, hm1, e1⟩
  have HR1 := Lib.hid hR1
  have HM1 := Lib.hid hm1
  have hl1 : rs1.length ≤ 2000 := Nat.le_trans (nodup_le hR1.nodup fun x hx => ((hm1 x).1 hx).1) hn
  clear hR1 hm1
  go_wp2_with fail
  refine (diffS_any b2 b ks2 ks w1 (HB.out.extW e1) (HA.out.extW e1)).mono ?_
  rintro e w2 ⟨r2, rs2, rfl, _, hR2, hm2, e2⟩
  have HR2 := Lib.hid hR2
  have HM2 := Lib.hid hm2
  have hl2 : rs2.length ≤ 2000 := Nat.le_trans (nodup_le hR2.nodup fun x hx => ((hm2 x).1 hx).1) hn2
  clear hR2 hm2
  go_wp2_with fail
  refine (unionS_any r1 r2 rs1 rs2 w2 (HR1.out.extW e2) HR2.out hl1 hl2).mono ?_
  rintro e w3 ⟨r3, rs3, rfl, hr3, hR3, hm3, e3⟩
  have HR3 := Lib.hid hR3
  have HM3 := Lib.hid hm3
  have hsz := (e1.trans e2).size
  clear hR3 hm3
  go_wp2_with fail
  go_ret
  exact ⟨_, _, rfl, by omega, HR3.out, fun x => by rw [HM3.out, HM1.out, HM2.out, decide_eq_false_iff_not, decide_eq_false_iff_not], (e1.trans e2).trans e3⟩
set_option maxRecDepth 20000 in
set_option maxHeartbeats 1000000 in
theorem superS_any (b b2 : Nat) (ks ks2 : List Int) (w : World) (H : SetI w b ks) (H2 : SetI w b2 ks2) :
    Calls Tryz.prog 17 #[.map (some b), .map (some b2)] w fun e w' => ∃ r : Bool, e = .returned (.bool r) ∧ (r = true ↔ ∀ x ∈ ks2, x ∈ ks) ∧ Ext w w' := by
  have hbl : b < w.heap.size := H.lt
  have hbl2 : b2 < w.heap.size := H2.lt
  obtain ⟨w2, hrg, HI, E2, s2⟩ := IterL.start (P := Tryz.prog) keyI H2 Tryz.underlying32
  rw [unit_keys] at HI
  have HI2 := Lib.hid HI
  have HS2 := Lib.hid (H.extW E2)
  clear H HI H2
  go_enter Tryz.func17, Tryz.ntmps17
  go_wp2_with fail
  clear hrg
  go_loopg [5] ks2.length (fun g u5 wr => ∃ left done, left.length ≤ g ∧ Hid (IterL (Value.int .i64) wr b2 w.heap.size (ks2.map unitP) left) ∧ Hid (SetI wr b ks) ∧ Hid (Came ks2 left done) ∧ Hid (∀ x ∈ done, x ∈ ks) ∧ Ext w wr)
  case atStart => exact ⟨ks2, [], Nat.le_refl _, HI2, HS2, Lib.hid Came.start, Lib.hid (by simp), E2⟩
  case round =>
    obtain ⟨left, done, hg, hI, hS, hC, hD, hE⟩ := hrel
    rcases hI.out.next (P := Tryz.prog) keyI 0 with ⟨h0, hnx⟩ | ⟨k9, v9, w9, hk9, hkv, hnx, HI9, X9, s9, hen⟩
    · subst h0
      go_wp2_with fail
      go_ret
      exact ⟨_, rfl, by simp; exact fun x hx => hD.out x ((hC.out.fin.2 x).2 hx), hE⟩
    · obtain rfl := unit_val hkv
      have hkin : Hid (k9 ∈ ks2) := Lib.hid ((hC.out.2.2 k9).2 (.inr hk9))
      have hC2 := Lib.hid (hC.out.step hk9)
      have hless := filter_less hk9
      have HI9 := Lib.hid HI9
      have hrl := HI9.out.lt
      have HS9 : Hid (SetI w9 b ks) := Lib.hid (MapL.extX hS.out X9 (fun hm => by have hm : b = w.heap.size := hm; omega))
      have E9 : Ext w w9 := ((hE.toX _).trans X9).toExt (fun k hk => by have hk : k = w.heap.size := hk; omega)
      clear hkv hk9 X9 s9 hI hC hS
      go_wp2_with fail
      refine (setHas_any b ks k9 _ HS9.out).mono ?_
      rintro e w3 ⟨rfl, e3⟩
      have HI10 := Lib.hid (HI9.out.ext e3)
      clear hnx hen
      by_cases hin : k9 ∈ ks
      · rw [show decide (k9 ∈ ks) = true by simp [hin]]
        have hD2 : Hid (∀ x ∈ done ++ [k9], x ∈ ks) := Lib.hid (fun x hx => by rcases List.mem_append.1 hx with h | h; exact hD.out x h; simp at h; subst h; exact hin)
        replace hin := Lib.hid hin
        go_wp2_with fail
        go_roundg (left.length - 1)
        case measure => omega
        case rel => exact ⟨_, _, by omega, HI10, Lib.hid (HS9.out.extW e3), hC2, hD2, E9.trans e3⟩
      · rw [show decide (k9 ∈ ks) = false by simp [hin]]
        replace hin := Lib.hid hin
        go_wp2_with fail
        go_ret
        exact ⟨_, rfl, by simp; exact ⟨k9, hkin.out, hin.out⟩, E9.trans e3⟩
end Go.Proofs.YtfefnflcgkanpaaGreatDoor
