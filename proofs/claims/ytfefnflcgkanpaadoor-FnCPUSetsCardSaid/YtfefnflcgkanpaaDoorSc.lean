/-
  cpuset: filter, Intersection, Difference, Union.
-/
import Derived.Test.YtfefnflcgkanpaaDoorSb
import Derived.LoopN
namespace Go.Proofs.YtfefnflcgkanpaaDoor
open Go.RowKit
set_option linter.unusedSimpArgs false
set_option linter.unusedVariables false

theorem nil_iv (w : World) (ok : Nat → Prop) : (Rp.slice Rp.iv).K w ok [] [.slice none 0 0] := ⟨none, 0, rfl, Nat.le_refl _, by decide, fun _ => rfl, fun i x hx => by simp at hx⟩
set_option maxRecDepth 20000 in
theorem inter1 (cc b2 : Nat) (ks2 : List Int) (x : Int) (w : World) (K : Blk w cc 34 [.map (some b2)]) (H : SetI w b2 ks2) :
    Calls Tryd.prog 40 #[.int .i64 x, .pointer (some ⟨cc, 0, none⟩)] w fun e w' => e = .returned (.bool (decide (x ∈ ks2))) ∧ Ext w w' := by
  have c0 := K.cell (o := 0) rfl
  have HS := Lib.hid H
  clear H K
  go_enter Tryd.func40, Tryd.ntmps40
  go_wp2_with fail
  refine (contains_any b2 ks2 x _ HS.out).mono ?_
  rintro e w2 ⟨rfl, e2⟩
  go_wp2_with fail
  go_ret
  exact ⟨rfl, e2⟩
set_option maxRecDepth 20000 in
theorem diff1 (cc b2 : Nat) (ks2 : List Int) (x : Int) (w : World) (K : Blk w cc 34 [.map (some b2)]) (H : SetI w b2 ks2) :
    Calls Tryd.prog 41 #[.int .i64 x, .pointer (some ⟨cc, 0, none⟩)] w fun e w' => e = .returned (.bool (decide (x ∉ ks2))) ∧ Ext w w' := by
  have c0 := K.cell (o := 0) rfl
  have HS := Lib.hid H
  clear H K
  go_enter Tryd.func41, Tryd.ntmps41
  go_wp2_with fail
  refine (contains_any b2 ks2 x _ HS.out).mono ?_
  rintro e w2 ⟨rfl, e2⟩
  go_wp2_with fail
  go_ret
  refine ⟨?_, e2⟩
  by_cases h : x ∈ ks2 <;> simp [h]
/-- what a filter has kept -/
def Kept (ks2 done rs : List Int) (s : Bool) : Prop := ∀ x, x ∈ rs ↔ x ∈ done ∧ (decide (x ∈ ks2) = s)
theorem Kept.skip {ks2 done rs : List Int} {s : Bool} {k : Int} (h : Kept ks2 done rs s) (hk : decide (k ∈ ks2) ≠ s) : Kept ks2 (done ++ [k]) rs s := fun x => by
  rw [h x, List.mem_append]
  constructor
  · rintro ⟨a, b⟩; exact ⟨.inl a, b⟩
  · rintro ⟨a | a, b⟩
    · exact ⟨a, b⟩
    · simp at a; subst a; exact absurd b hk
theorem Kept.put {ks2 done rs : List Int} {s : Bool} {k : Int} (h : Kept ks2 done rs s) (hk : decide (k ∈ ks2) = s) : Kept ks2 (done ++ [k]) (insk rs k) s := fun x => by
  rw [mem_insk, h x, List.mem_append]
  constructor
  · rintro (⟨a, b⟩ | rfl)
    · exact ⟨.inl a, b⟩
    · exact ⟨.inr (by simp), hk⟩
  · rintro ⟨a | a, b⟩
    · exact .inl ⟨a, b⟩
    · simp at a; exact .inr a
def FilterAns (w : World) (ks ks2 : List Int) (s : Bool) (e : Ending) (w' : World) : Prop :=
  ∃ r rs, e = .returned (setV r) ∧ w.heap.size ≤ r ∧ SetI w' r rs ∧ (∀ x, x ∈ rs ↔ x ∈ ks ∧ decide (x ∈ ks2) = s) ∧ Ext w w'
set_option maxRecDepth 20000 in
set_option maxHeartbeats 2000000 in
theorem filterI (b cc b2 : Nat) (ks ks2 : List Int) (w : World) (H : SetI w b ks) (H2 : SetI w b2 ks2) (K : Blk w cc 34 [.map (some b2)]) :
    Calls Tryd.prog 39 #[setV b, .func (.func 40) #[] #[.pointer (some ⟨cc, 0, none⟩)]] w (FilterAns w ks ks2 true) := by
    have hbl : b < w.heap.size := H.lt
    have hbl2 : b2 < w.heap.size := H2.lt
    have hcl : cc < w.heap.size := K.lt
    have HS := Lib.hid H
    have HS2 := Lib.hid H2
    have HK := Lib.hid K
    clear H H2 K
    go_enter Tryd.func39, Tryd.ntmps39
    go_wp2_with fail
    refine (new_any [] (.slice none 0 0) _ (nil_iv _ _)).mono ?_
    rintro e w1 ⟨r0, rfl, hr0, HR, e1⟩
    have E0 := ((Ext.refl w).alloc (.cells #[.map (some b)] 34)).alloc (.cells #[.map none] 34)
    rw [World.size_alloc, World.size_alloc] at hr0
    have hrl := HR.lt
    have B0 : Blk w1 w.heap.size 34 [.map (some b)] := ((Blk.new w _ _).ext ((Ext.refl _).alloc _)).ext e1
    have B1 : Blk w1 (w.heap.size + 1) 34 [.map none] := (blk_at (w.alloc (.cells #[.map (some b)] 34)) _ [.map none] (w.heap.size + 1) (by rw [World.size_alloc])).ext e1
    have c0 := (B0.ext ((Ext.refl w1).alloc (.cells #[.map (some r0)] 34))).cell (o := 0) rfl
    have hB1 := B1.lt
    have E1 := (E0.trans e1).alloc (.cells #[.map (some r0)] 34)
    obtain ⟨w2, hrg, HI, E2, s2⟩ := IterL.start (P := Tryd.prog) keyI (HS.out.extW E1) Tryd.underlying32
    rw [unit_keys, World.size_alloc] at HI
    rw [World.size_alloc] at hrg
    have e12 := ((Ext.refl w1).alloc (.cells #[.map (some r0)] 34)).trans E2
    have HI2 := Lib.hid HI
    have HB1 := Lib.hid (B1.ext e12)
    have HB2 := Lib.hid ((Blk.new w1 34 [.map (some r0)]).ext E2)
    have HR2 := Lib.hid (HR.extW e12)
    have E02 := E1.trans E2
    clear E0 e1 HR HI E1 E2 s2 e12 B0 B1
    go_wp2_with fail
    clear hrg c0
    go_loopg [6] ks.length (fun g u6 wr => ∃ left done rs, left.length ≤ g ∧ Hid (IterL (Value.int .i64) wr b (w1.heap.size + 1) (ks.map unitP) left) ∧ Hid (Blk wr (w.heap.size + 1) 34 [.map none]) ∧ Hid (Blk wr w1.heap.size 34 [.map (some r0)]) ∧ Hid (SetI wr r0 rs) ∧ Hid (Came ks left done) ∧ Hid (Kept ks2 done rs true) ∧ Ext w wr)
    case atStart => exact ⟨ks, [], [], Nat.le_refl _, HI2, HB1, HB2, HR2, Lib.hid Came.start, Lib.hid (fun x => by simp), E02⟩
    case round =>
      obtain ⟨left, done, rs, hg, hI, hB1, hB2, hR, hC, hD, hE⟩ := hrel
      have c2 := hB2.out.cell (o := 0) rfl
      rcases hI.out.next (P := Tryd.prog) keyI 0 with ⟨h0, hnx⟩ | ⟨k9, v9, w9, hk9, hkv, hnx, HI9, X9, s9, hen⟩
      · subst h0
        have f1 := hB1.out.frozen 0
        have c1 := hB1.out.cell (o := 0) rfl
        go_wp2_with fail
        have K5 := hB1.out.setCell 0 (.map (some r0))
        refine bodyPost_ret (results_cell_row rfl _ _ (w.heap.size + 1) _ _ (0, 0) _ rfl K5 Tryd.underlying34 rfl rfl) rfl ?_
        have X2 : ExtX (fun k => k = w.heap.size + 1) wr (wr.setCell ⟨w.heap.size + 1, 0, none⟩ (.map (some r0))) := (ExtX.refl (fun k => k = w.heap.size + 1) wr).setCell (p := ⟨w.heap.size + 1, 0, none⟩) rfl _
        exact ⟨_, rs, rfl, by omega, hR.out.extX X2 (fun h => by have h : r0 = w.heap.size + 1 := h; omega), fun x => by rw [hD.out x, hC.out.fin.2], ((hE.toX _).trans X2).toExt (fun k hk => by have hk : k = w.heap.size + 1 := hk; omega)⟩
      · obtain rfl := unit_val hkv
        have hC2 := Lib.hid (hC.out.step hk9)
        have hless := filter_less hk9
        have HI9 := Lib.hid HI9
        have hrl9 := HI9.out.lt
        have HB19 := Lib.hid (hB1.out.extX X9 (fun hm => by have hm : w.heap.size + 1 = w1.heap.size + 1 := hm; omega))
        have HB29 := Lib.hid (hB2.out.extX X9 (fun hm => by have hm : w1.heap.size = w1.heap.size + 1 := hm; omega))
        have HR9 : Hid (SetI w9 r0 rs) := Lib.hid (MapL.extX hR.out X9 (fun hm => by have hm : r0 = w1.heap.size + 1 := hm; omega))
        have E9 : Ext w w9 := ((hE.toX _).trans X9).toExt (fun k hk => by have hk : k = w1.heap.size + 1 := hk; omega)
        clear hkv hk9 X9 s9 hI hC hR hB1 hB2 c2
        have c2 := HB29.out.cell (o := 0) rfl
        go_wp2_with fail
        refine (inter1 cc b2 ks2 k9 _ (HK.out.ext E9) (HS2.out.extW E9)).mono ?_
        rintro e w3 ⟨rfl, e3⟩
        have HI10 := HI9.out.ext e3
        have HB13 := HB19.out.ext e3
        have HB23 := HB29.out.ext e3
        have HR3 := HR9.out.extW e3
        have c3 := HB23.cell (o := 0) rfl
        have hI3 := HI10.lt
        have c1' := HB13.lt
        replace HI10 := Lib.hid HI10
        replace HB13 := Lib.hid HB13
        replace HB23 := Lib.hid HB23
        replace HR3 := Lib.hid HR3
        have E93 := E9.trans e3
        clear hnx hen c2 HI9 HB19 HB29 HR9
        by_cases hin : decide (k9 ∈ ks2) = true
        · have t1 : (decide (k9 ∈ ks2)) = true := by revert hin; simp
          rw [t1]
          have hD2 := Lib.hid (hD.out.put hin)
          replace hin := Lib.hid hin
          go_wp2_with fail
          refine (add_any r0 rs [k9] _ _ (HR3.out.extW ((Ext.refl w3).alloc _)) (one_iv w3 k9 (by omega))).mono ?_
          rintro e w4 ⟨rfl, h4, x4⟩
          have X4 : ExtX (fun k => k = r0) w3 w4 := (((Ext.refl w3).alloc _).toX _).trans x4
          have HR4 : Hid (SetI w4 r0 (insk rs k9)) := Lib.hid h4
          have HI11 := Lib.hid (HI10.out.extX X4 (fun h => by have h : b = r0 := h; omega) (fun h => by have h : w1.heap.size + 1 = r0 := h; omega))
          have HB14 := Lib.hid (HB13.out.extX X4 (fun h => by have h : w.heap.size + 1 = r0 := h; omega))
          have HB24 := Lib.hid (HB23.out.extX X4 (fun h => by have h : w1.heap.size = r0 := h; omega))
          have E4 : Ext w w4 := ((E93.toX _).trans X4).toExt (fun k hk => by have hk : k = r0 := hk; omega)
          clear h4 x4 X4
          go_wp2_with fail
          go_roundg (left.length - 1)
          case measure => omega
          case rel => exact ⟨_, _, _, by omega, HI11, HB14, HB24, HR4, hC2, hD2, E4⟩
        · have t1 : (decide (k9 ∈ ks2)) = false := by revert hin; simp
          rw [t1]
          have hD2 := Lib.hid (hD.out.skip hin)
          replace hin := Lib.hid hin
          go_wp2_with fail
          go_roundg (left.length - 1)
          case measure => omega
          case rel => exact ⟨_, _, _, by omega, HI10, HB13, HB23, HR3, hC2, hD2, E93⟩
set_option maxRecDepth 20000 in
set_option maxHeartbeats 2000000 in
theorem filterD (b cc b2 : Nat) (ks ks2 : List Int) (w : World) (H : SetI w b ks) (H2 : SetI w b2 ks2) (K : Blk w cc 34 [.map (some b2)]) :
    Calls Tryd.prog 39 #[setV b, .func (.func 41) #[] #[.pointer (some ⟨cc, 0, none⟩)]] w (FilterAns w ks ks2 false) := by
    have hbl : b < w.heap.size := H.lt
    have hbl2 : b2 < w.heap.size := H2.lt
    have hcl : cc < w.heap.size := K.lt
    have HS := Lib.hid H
    have HS2 := Lib.hid H2
    have HK := Lib.hid K
    clear H H2 K
    go_enter Tryd.func39, Tryd.ntmps39
    go_wp2_with fail
    refine (new_any [] (.slice none 0 0) _ (nil_iv _ _)).mono ?_
    rintro e w1 ⟨r0, rfl, hr0, HR, e1⟩
    have E0 := ((Ext.refl w).alloc (.cells #[.map (some b)] 34)).alloc (.cells #[.map none] 34)
    rw [World.size_alloc, World.size_alloc] at hr0
    have hrl := HR.lt
    have B0 : Blk w1 w.heap.size 34 [.map (some b)] := ((Blk.new w _ _).ext ((Ext.refl _).alloc _)).ext e1
    have B1 : Blk w1 (w.heap.size + 1) 34 [.map none] := (blk_at (w.alloc (.cells #[.map (some b)] 34)) _ [.map none] (w.heap.size + 1) (by rw [World.size_alloc])).ext e1
    have c0 := (B0.ext ((Ext.refl w1).alloc (.cells #[.map (some r0)] 34))).cell (o := 0) rfl
    have hB1 := B1.lt
    have E1 := (E0.trans e1).alloc (.cells #[.map (some r0)] 34)
    obtain ⟨w2, hrg, HI, E2, s2⟩ := IterL.start (P := Tryd.prog) keyI (HS.out.extW E1) Tryd.underlying32
    rw [unit_keys, World.size_alloc] at HI
    rw [World.size_alloc] at hrg
    have e12 := ((Ext.refl w1).alloc (.cells #[.map (some r0)] 34)).trans E2
    have HI2 := Lib.hid HI
    have HB1 := Lib.hid (B1.ext e12)
    have HB2 := Lib.hid ((Blk.new w1 34 [.map (some r0)]).ext E2)
    have HR2 := Lib.hid (HR.extW e12)
    have E02 := E1.trans E2
    clear E0 e1 HR HI E1 E2 s2 e12 B0 B1
    go_wp2_with fail
    clear hrg c0
    go_loopg [6] ks.length (fun g u6 wr => ∃ left done rs, left.length ≤ g ∧ Hid (IterL (Value.int .i64) wr b (w1.heap.size + 1) (ks.map unitP) left) ∧ Hid (Blk wr (w.heap.size + 1) 34 [.map none]) ∧ Hid (Blk wr w1.heap.size 34 [.map (some r0)]) ∧ Hid (SetI wr r0 rs) ∧ Hid (Came ks left done) ∧ Hid (Kept ks2 done rs false) ∧ Ext w wr)
    case atStart => exact ⟨ks, [], [], Nat.le_refl _, HI2, HB1, HB2, HR2, Lib.hid Came.start, Lib.hid (fun x => by simp), E02⟩
    case round =>
      obtain ⟨left, done, rs, hg, hI, hB1, hB2, hR, hC, hD, hE⟩ := hrel
      have c2 := hB2.out.cell (o := 0) rfl
      rcases hI.out.next (P := Tryd.prog) keyI 0 with ⟨h0, hnx⟩ | ⟨k9, v9, w9, hk9, hkv, hnx, HI9, X9, s9, hen⟩
      · subst h0
        have f1 := hB1.out.frozen 0
        have c1 := hB1.out.cell (o := 0) rfl
        go_wp2_with fail
        have K5 := hB1.out.setCell 0 (.map (some r0))
        refine bodyPost_ret (results_cell_row rfl _ _ (w.heap.size + 1) _ _ (0, 0) _ rfl K5 Tryd.underlying34 rfl rfl) rfl ?_
        have X2 : ExtX (fun k => k = w.heap.size + 1) wr (wr.setCell ⟨w.heap.size + 1, 0, none⟩ (.map (some r0))) := (ExtX.refl (fun k => k = w.heap.size + 1) wr).setCell (p := ⟨w.heap.size + 1, 0, none⟩) rfl _
        exact ⟨_, rs, rfl, by omega, hR.out.extX X2 (fun h => by have h : r0 = w.heap.size + 1 := h; omega), fun x => by rw [hD.out x, hC.out.fin.2], ((hE.toX _).trans X2).toExt (fun k hk => by have hk : k = w.heap.size + 1 := hk; omega)⟩
      · obtain rfl := unit_val hkv
        have hC2 := Lib.hid (hC.out.step hk9)
        have hless := filter_less hk9
        have HI9 := Lib.hid HI9
        have hrl9 := HI9.out.lt
        have HB19 := Lib.hid (hB1.out.extX X9 (fun hm => by have hm : w.heap.size + 1 = w1.heap.size + 1 := hm; omega))
        have HB29 := Lib.hid (hB2.out.extX X9 (fun hm => by have hm : w1.heap.size = w1.heap.size + 1 := hm; omega))
        have HR9 : Hid (SetI w9 r0 rs) := Lib.hid (MapL.extX hR.out X9 (fun hm => by have hm : r0 = w1.heap.size + 1 := hm; omega))
        have E9 : Ext w w9 := ((hE.toX _).trans X9).toExt (fun k hk => by have hk : k = w1.heap.size + 1 := hk; omega)
        clear hkv hk9 X9 s9 hI hC hR hB1 hB2 c2
        have c2 := HB29.out.cell (o := 0) rfl
        go_wp2_with fail
        refine (diff1 cc b2 ks2 k9 _ (HK.out.ext E9) (HS2.out.extW E9)).mono ?_
        rintro e w3 ⟨rfl, e3⟩
        have HI10 := HI9.out.ext e3
        have HB13 := HB19.out.ext e3
        have HB23 := HB29.out.ext e3
        have HR3 := HR9.out.extW e3
        have c3 := HB23.cell (o := 0) rfl
        have hI3 := HI10.lt
        have c1' := HB13.lt
        replace HI10 := Lib.hid HI10
        replace HB13 := Lib.hid HB13
        replace HB23 := Lib.hid HB23
        replace HR3 := Lib.hid HR3
        have E93 := E9.trans e3
        clear hnx hen c2 HI9 HB19 HB29 HR9
        by_cases hin : decide (k9 ∈ ks2) = false
        · have t1 : (decide (k9 ∉ ks2)) = true := by revert hin; simp
          rw [t1]
          have hD2 := Lib.hid (hD.out.put hin)
          replace hin := Lib.hid hin
          go_wp2_with fail
          refine (add_any r0 rs [k9] _ _ (HR3.out.extW ((Ext.refl w3).alloc _)) (one_iv w3 k9 (by omega))).mono ?_
          rintro e w4 ⟨rfl, h4, x4⟩
          have X4 : ExtX (fun k => k = r0) w3 w4 := (((Ext.refl w3).alloc _).toX _).trans x4
          have HR4 : Hid (SetI w4 r0 (insk rs k9)) := Lib.hid h4
          have HI11 := Lib.hid (HI10.out.extX X4 (fun h => by have h : b = r0 := h; omega) (fun h => by have h : w1.heap.size + 1 = r0 := h; omega))
          have HB14 := Lib.hid (HB13.out.extX X4 (fun h => by have h : w.heap.size + 1 = r0 := h; omega))
          have HB24 := Lib.hid (HB23.out.extX X4 (fun h => by have h : w1.heap.size = r0 := h; omega))
          have E4 : Ext w w4 := ((E93.toX _).trans X4).toExt (fun k hk => by have hk : k = r0 := hk; omega)
          clear h4 x4 X4
          go_wp2_with fail
          go_roundg (left.length - 1)
          case measure => omega
          case rel => exact ⟨_, _, _, by omega, HI11, HB14, HB24, HR4, hC2, hD2, E4⟩
        · have t1 : (decide (k9 ∉ ks2)) = false := by revert hin; simp
          rw [t1]
          have hD2 := Lib.hid (hD.out.skip hin)
          replace hin := Lib.hid hin
          go_wp2_with fail
          go_roundg (left.length - 1)
          case measure => omega
          case rel => exact ⟨_, _, _, by omega, HI10, HB13, HB23, HR3, hC2, hD2, E93⟩
end Go.Proofs.YtfefnflcgkanpaaDoor
