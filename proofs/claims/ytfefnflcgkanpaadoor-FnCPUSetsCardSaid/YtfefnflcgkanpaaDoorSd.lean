/-
  cpuset: Intersection, Difference, Union.
-/
import Derived.Test.YtfefnflcgkanpaaDoorSc
namespace Go.Proofs.YtfefnflcgkanpaaDoor
open Go.RowKit
set_option linter.unusedSimpArgs false
set_option linter.unusedVariables false

set_option maxRecDepth 20000 in
set_option maxHeartbeats 1000000 in
theorem inter_any (b b2 : Nat) (ks ks2 : List Int) (w : World) (H : SetI w b ks) (H2 : SetI w b2 ks2) :
    Calls Tryd.prog 20 #[setV b, setV b2] w (FilterAns w ks ks2 true) := by
    have hbl : b < w.heap.size := H.lt
    have hbl2 : b2 < w.heap.size := H2.lt
    have E0 := (((Ext.refl w).alloc (.cells #[.map (some b)] 34)).alloc (.cells #[.map (some b2)] 34)).alloc (.cells #[.map none] 34)
    have HA := Lib.hid (H.extW E0)
    have HB := Lib.hid (H2.extW E0)
    have K1 := (blk_at (w.alloc (.cells #[.map (some b)] 34)) 34 [.map (some b2)] (w.heap.size + 1) (by rw [World.size_alloc])).ext ((Ext.refl _).alloc (.cells #[.map none] 34))
    have K2 := blk_at ((w.alloc (.cells #[.map (some b)] 34)).alloc (.cells #[.map (some b2)] 34)) 34 [.map none] (w.heap.size + 1 + 1) (by rw [World.size_alloc, World.size_alloc])
    have HK1 := Lib.hid K1
    have HK2 := Lib.hid K2
    clear H H2 K1 K2
    go_enter Tryd.func20, Tryd.ntmps20
    go_wp2_with fail
    refine (filterI b (w.heap.size + 1) b2 ks ks2 _ HA.out HB.out HK1.out).mono ?_
    rintro e w3 ⟨r, rs, rfl, hr, hR, hrs, e3⟩
    rw [World.size_alloc, World.size_alloc, World.size_alloc] at hr
    have K3 := HK2.out.ext e3
    have f1 := K3.frozen 0
    have c1 := K3.cell (o := 0) rfl
    have HR := Lib.hid hR
    have HRS := Lib.hid hrs
    clear hR hrs
    go_wp2_with fail
    have K5 := K3.setCell 0 (.map (some r))
    refine bodyPost_ret (results_cell_row rfl _ _ (w.heap.size + 1 + 1) _ _ (0, 0) _ rfl K5 Tryd.underlying34 rfl rfl) rfl ?_
    have X2 : ExtX (fun k => k = w.heap.size + 1 + 1) w3 (w3.setCell ⟨w.heap.size + 1 + 1, 0, none⟩ (.map (some r))) := (ExtX.refl (fun k => k = w.heap.size + 1 + 1) w3).setCell (p := ⟨w.heap.size + 1 + 1, 0, none⟩) rfl _
    exact ⟨r, rs, rfl, by omega, HR.out.extX X2 (fun h => by have h : r = w.heap.size + 1 + 1 := h; omega), HRS.out, (((E0.trans e3).toX _).trans X2).toExt (fun k hk => by have hk : k = w.heap.size + 1 + 1 := hk; omega)⟩
set_option maxRecDepth 20000 in
set_option maxHeartbeats 1000000 in
theorem diff_any (b b2 : Nat) (ks ks2 : List Int) (w : World) (H : SetI w b ks) (H2 : SetI w b2 ks2) :
    Calls Tryd.prog 21 #[setV b, setV b2] w (FilterAns w ks ks2 false) := by
    have hbl : b < w.heap.size := H.lt
    have hbl2 : b2 < w.heap.size := H2.lt
    have E0 := (((Ext.refl w).alloc (.cells #[.map (some b)] 34)).alloc (.cells #[.map (some b2)] 34)).alloc (.cells #[.map none] 34)
    have HA := Lib.hid (H.extW E0)
    have HB := Lib.hid (H2.extW E0)
    have K1 := (blk_at (w.alloc (.cells #[.map (some b)] 34)) 34 [.map (some b2)] (w.heap.size + 1) (by rw [World.size_alloc])).ext ((Ext.refl _).alloc (.cells #[.map none] 34))
    have K2 := blk_at ((w.alloc (.cells #[.map (some b)] 34)).alloc (.cells #[.map (some b2)] 34)) 34 [.map none] (w.heap.size + 1 + 1) (by rw [World.size_alloc, World.size_alloc])
    have HK1 := Lib.hid K1
    have HK2 := Lib.hid K2
    clear H H2 K1 K2
    go_enter Tryd.func21, Tryd.ntmps21
    go_wp2_with fail
    refine (filterD b (w.heap.size + 1) b2 ks ks2 _ HA.out HB.out HK1.out).mono ?_
    rintro e w3 ⟨r, rs, rfl, hr, hR, hrs, e3⟩
    rw [World.size_alloc, World.size_alloc, World.size_alloc] at hr
    have K3 := HK2.out.ext e3
    have f1 := K3.frozen 0
    have c1 := K3.cell (o := 0) rfl
    have HR := Lib.hid hR
    have HRS := Lib.hid hrs
    clear hR hrs
    go_wp2_with fail
    have K5 := K3.setCell 0 (.map (some r))
    refine bodyPost_ret (results_cell_row rfl _ _ (w.heap.size + 1 + 1) _ _ (0, 0) _ rfl K5 Tryd.underlying34 rfl rfl) rfl ?_
    have X2 : ExtX (fun k => k = w.heap.size + 1 + 1) w3 (w3.setCell ⟨w.heap.size + 1 + 1, 0, none⟩ (.map (some r))) := (ExtX.refl (fun k => k = w.heap.size + 1 + 1) w3).setCell (p := ⟨w.heap.size + 1 + 1, 0, none⟩) rfl _
    exact ⟨r, rs, rfl, by omega, HR.out.extX X2 (fun h => by have h : r = w.heap.size + 1 + 1 := h; omega), HRS.out, (((E0.trans e3).toX _).trans X2).toExt (fun k hk => by have hk : k = w.heap.size + 1 + 1 := hk; omega)⟩

set_option maxRecDepth 20000 in
set_option maxHeartbeats 2000000 in
theorem union_any (b b2 : Nat) (ks ks2 : List Int) (a o c : Nat) (w : World) (H : SetI w b ks) (H2 : SetI w b2 ks2) (ha : w.cell? ⟨a, o, none⟩ = some (.map (some b2))) :
    Calls Tryd.prog 18 #[setV b, .slice (some ⟨a, o, none⟩) 1 c] w fun e w' => ∃ r rs, e = .returned (setV r) ∧ w.heap.size ≤ r ∧ SetI w' r rs ∧ (∀ x, x ∈ rs ↔ x ∈ ks ∨ x ∈ ks2) ∧ Ext w w' := by
  have hbl : b < w.heap.size := H.lt
  have hbl2 : b2 < w.heap.size := H2.lt
  have HS := Lib.hid H
  have HS2 := Lib.hid H2
  have HA := Lib.hid ha
  clear H H2 ha
  go_enter Tryd.func18, Tryd.ntmps18
  go_wp2_with fail
  refine (new_any [] (.slice none 0 0) _ (nil_iv _ _)).mono ?_
  rintro e w1 ⟨r0, rfl, hr0, HR, e1⟩
  have E0 := ((Ext.refl w).alloc (.cells #[.map (some b)] 34)).alloc (.cells #[.map none] 34)
  rw [World.size_alloc, World.size_alloc] at hr0
  have hrl := HR.lt
  have B0 : Blk w1 w.heap.size 34 [.map (some b)] := ((Blk.new w _ _).ext ((Ext.refl _).alloc _)).ext e1
  have B1 : Blk w1 (w.heap.size + 1) 34 [.map none] := (blk_at (w.alloc (.cells #[.map (some b)] 34)) _ [.map none] (w.heap.size + 1) (by rw [World.size_alloc])).ext e1
  have c0 := (B0.ext ((Ext.refl w1).alloc (.cells #[.map (some r0)] 34))).cell (o := 0) rfl
  have hB1 := B1.lt
  have E1 := (E0.trans e1).alloc (.cells #[.map (some r0)] 34)
  obtain ⟨w2, hrg, HI, E2, s2⟩ := IterL.start (P := Tryd.prog) keyI (HS.out.extW E1) Tryd.underlying32
  rw [unit_keys, World.size_alloc] at HI
  rw [World.size_alloc] at hrg
  have e12 := ((Ext.refl w1).alloc (.cells #[.map (some r0)] 34)).trans E2
  have HI2 := Lib.hid HI
  have HB1 := Lib.hid (B1.ext e12)
  have HB2 := Lib.hid ((Blk.new w1 34 [.map (some r0)]).ext E2)
  have HR2 := Lib.hid (HR.extW e12)
  have E02 := E1.trans E2
  clear E0 e1 HR HI E1 E2 s2 e12 B0 B1
  go_wp2_with fail
  clear hrg c0
  go_loopg [6] ks.length (fun g u6 wr => ∃ left done rs, left.length ≤ g ∧ Hid (IterL (Value.int .i64) wr b (w1.heap.size + 1) (ks.map unitP) left) ∧ Hid (Blk wr (w.heap.size + 1) 34 [.map none]) ∧ Hid (Blk wr w1.heap.size 34 [.map (some r0)]) ∧ Hid (SetI wr r0 rs) ∧ Hid (Came ks left done) ∧ Hid (∀ x, x ∈ rs ↔ x ∈ ([] : List Int) ∨ x ∈ done) ∧ Ext w wr)
  case atStart => exact ⟨ks, [], [], Nat.le_refl _, HI2, HB1, HB2, HR2, Lib.hid Came.start, Lib.hid (fun x => by simp), E02⟩
  case round =>
    obtain ⟨left, done, rs, hg, hI, hB1, hB2, hR, hC, hD, hE⟩ := hrel
    rcases hI.out.next (P := Tryd.prog) keyI 0 with ⟨h0, hnx⟩ | ⟨k9, v9, w9, hk9, hkv, hnx, HI9, X9, s9, hen⟩
    rotate_left
    · obtain rfl := unit_val hkv
      have hC2 := Lib.hid (hC.out.step hk9)
      have hless := filter_less hk9
      have HI9 := Lib.hid HI9
      have hrl9 := HI9.out.lt
      have HB19 := Lib.hid (hB1.out.extX X9 (fun hm => by have hm : w.heap.size + 1 = (w1.heap.size + 1) := hm; omega))
      have HB29 := Lib.hid (hB2.out.extX X9 (fun hm => by have hm : w1.heap.size = (w1.heap.size + 1) := hm; omega))
      have HR9 : Hid (SetI w9 r0 rs) := Lib.hid (MapL.extX hR.out X9 (fun hm => by have hm : r0 = (w1.heap.size + 1) := hm; omega))
      have E9 : Ext w w9 := ((hE.toX _).trans X9).toExt (fun k hk => by have hk : k = (w1.heap.size + 1) := hk; omega)
      clear hkv hk9 X9 s9 hI hC hR hB1 hB2
      have c2 := HB29.out.cell (o := 0) rfl
      have hD2 : Hid (∀ x, x ∈ insk rs k9 ↔ x ∈ ([] : List Int) ∨ x ∈ done ++ [k9]) := Lib.hid (fun x => by rw [mem_insk, hD.out x, List.mem_append, List.mem_singleton, or_assoc])
      go_wp2_with fail
      refine (add_any r0 rs [k9] _ _ (HR9.out.extW ((Ext.refl w9).alloc _)) (one_iv w9 k9 (by omega))).mono ?_
      rintro e w4 ⟨rfl, h4, x4⟩
      have X4 : ExtX (fun k => k = r0) w9 w4 := (((Ext.refl w9).alloc _).toX _).trans x4
      have HR4 : Hid (SetI w4 r0 (insk rs k9)) := Lib.hid h4
      have HI11 := Lib.hid (HI9.out.extX X4 (fun h => by have h : b = r0 := h; omega) (fun h => by have h : (w1.heap.size + 1) = r0 := h; omega))
      have HB14 := Lib.hid (HB19.out.extX X4 (fun h => by have h : w.heap.size + 1 = r0 := h; omega))
      have HB24 := Lib.hid (HB29.out.extX X4 (fun h => by have h : w1.heap.size = r0 := h; omega))
      have E4 : Ext w w4 := ((E9.toX _).trans X4).toExt (fun k hk => by have hk : k = r0 := hk; omega)
      clear h4 x4 X4 hnx hen c2
      go_wp2_with fail
      go_roundg (left.length - 1)
      case measure => omega
      case rel => exact ⟨_, _, _, by omega, HI11, HB14, HB24, HR4, hC2, hD2, E4⟩
    subst h0
    obtain ⟨wo, rfl⟩ : ∃ wo : World, wo = wr := ⟨_, rfl⟩
    have HM1 : Hid (∀ x, x ∈ rs ↔ x ∈ ks) := Lib.hid (fun x => by rw [hD.out x, hC.out.fin.2]; simp)
    have ca := hE.cellS HA.out
    have E1 := hE.alloc (.cells #[.map (some b2)] 34)
    have K8 := Blk.new wo 34 [.map (some b2)]
    obtain ⟨w2, hrg2, HIb, E2, s2⟩ := IterL.start (P := Tryd.prog) keyI (HS2.out.extW E1) Tryd.underlying32
    rw [unit_keys, World.size_alloc] at HIb
    rw [World.size_alloc] at hrg2
    have e12 := ((Ext.refl wo).alloc (.cells #[.map (some b2)] 34)).trans E2
    have hwo0 := e12.size
    have hB1l := hB1.out.lt
    have hB2l := hB2.out.lt
    have hRl := MapL.lt hR.out
    have HIb2 := Lib.hid HIb
    have HBb1 := Lib.hid (hB1.out.ext e12)
    have HBb2 := Lib.hid (hB2.out.ext e12)
    have HRb2 := Lib.hid (hR.out.extW e12)
    have E02b := E1.trans E2
    have hwE := hE.size
    clear hI hC hD hB1 hB2 hR HIb E1 E2 s2 e12 K8 HI2 HB1 HB2 HR2 E02
    go_wp2_with fail
    clear hnx
    refine wp_loop_rounds 2 ?_
    rw [rounds_succ]
    go_wp2_with fail
    clear hrg2 ca
    go_loopg [9] ks2.length (fun g u9 wr => ∃ left done rs2, left.length ≤ g ∧ Hid (IterL (Value.int .i64) wr b2 (wo.heap.size + 1) (ks2.map unitP) left) ∧ Hid (Blk wr (w.heap.size + 1) 34 [.map none]) ∧ Hid (Blk wr w1.heap.size 34 [.map (some r0)]) ∧ Hid (SetI wr r0 rs2) ∧ Hid (Came ks2 left done) ∧ Hid (∀ x, x ∈ rs2 ↔ x ∈ rs ∨ x ∈ done) ∧ Ext w wr)
    case atStart => exact ⟨ks2, [], rs, Nat.le_refl _, HIb2, HBb1, HBb2, HRb2, Lib.hid Came.start, Lib.hid (fun x => by simp), E02b⟩
    case round =>
      obtain ⟨left, done, rs2, hg, hI, hB1, hB2, hR, hC, hD, hE⟩ := hrel
      rcases hI.out.next (P := Tryd.prog) keyI 0 with ⟨h0, hnx⟩ | ⟨k9, v9, w9, hk9, hkv, hnx, HI9, X9, s9, hen⟩
      rotate_left
      · obtain rfl := unit_val hkv
        have hC2 := Lib.hid (hC.out.step hk9)
        have hless := filter_less hk9
        have HI9 := Lib.hid HI9
        have hrl9 := HI9.out.lt
        have HB19 := Lib.hid (hB1.out.extX X9 (fun hm => by have hm : w.heap.size + 1 = (wo.heap.size + 1) := hm; omega))
        have HB29 := Lib.hid (hB2.out.extX X9 (fun hm => by have hm : w1.heap.size = (wo.heap.size + 1) := hm; omega))
        have HR9 : Hid (SetI w9 r0 rs2) := Lib.hid (MapL.extX hR.out X9 (fun hm => by have hm : r0 = (wo.heap.size + 1) := hm; omega))
        have E9 : Ext w w9 := ((hE.toX _).trans X9).toExt (fun k hk => by have hk : k = (wo.heap.size + 1) := hk; omega)
        clear hkv hk9 X9 s9 hI hC hR hB1 hB2
        have c2 := HB29.out.cell (o := 0) rfl
        have hD2 : Hid (∀ x, x ∈ insk rs2 k9 ↔ x ∈ rs ∨ x ∈ done ++ [k9]) := Lib.hid (fun x => by rw [mem_insk, hD.out x, List.mem_append, List.mem_singleton, or_assoc])
        go_wp2_with fail
        refine (add_any r0 rs2 [k9] _ _ (HR9.out.extW ((Ext.refl w9).alloc _)) (one_iv w9 k9 (by omega))).mono ?_
        rintro e w4 ⟨rfl, h4, x4⟩
        have X4 : ExtX (fun k => k = r0) w9 w4 := (((Ext.refl w9).alloc _).toX _).trans x4
        have HR4 : Hid (SetI w4 r0 (insk rs2 k9)) := Lib.hid h4
        have HI11 := Lib.hid (HI9.out.extX X4 (fun h => by have h : b2 = r0 := h; omega) (fun h => by have h : (wo.heap.size + 1) = r0 := h; omega))
        have HB14 := Lib.hid (HB19.out.extX X4 (fun h => by have h : w.heap.size + 1 = r0 := h; omega))
        have HB24 := Lib.hid (HB29.out.extX X4 (fun h => by have h : w1.heap.size = r0 := h; omega))
        have E4 : Ext w w4 := ((E9.toX _).trans X4).toExt (fun k hk => by have hk : k = r0 := hk; omega)
        clear h4 x4 X4 hnx hen c2
        go_wp2_with fail
        go_roundg (left.length - 1)
        case measure => omega
        case rel => exact ⟨_, _, _, by omega, HI11, HB14, HB24, HR4, hC2, hD2, E4⟩
      subst h0
      have f1 := hB1.out.frozen 0
      have c1 := hB1.out.cell (o := 0) rfl
      have c2 := hB2.out.cell (o := 0) rfl
      go_wp2_with fail
      rw [rounds_succ]
      go_wp2_with fail
      have K5 := hB1.out.setCell 0 (.map (some r0))
      refine bodyPost_ret (results_cell_row rfl _ _ (w.heap.size + 1) _ _ (0, 0) _ rfl K5 Tryd.underlying34 rfl rfl) rfl ?_
      have X2 : ExtX (fun k => k = w.heap.size + 1) wr (wr.setCell ⟨w.heap.size + 1, 0, none⟩ (.map (some r0))) := (ExtX.refl (fun k => k = w.heap.size + 1) wr).setCell (p := ⟨w.heap.size + 1, 0, none⟩) rfl _
      exact ⟨r0, rs2, rfl, by omega, MapL.extX hR.out X2 (fun h => by have h : r0 = w.heap.size + 1 := h; omega), fun x => by rw [hD.out x, hC.out.fin.2, HM1.out], ((hE.toX _).trans X2).toExt (fun k hk => by have hk : k = w.heap.size + 1 := hk; omega)⟩
end Go.Proofs.YtfefnflcgkanpaaDoor
