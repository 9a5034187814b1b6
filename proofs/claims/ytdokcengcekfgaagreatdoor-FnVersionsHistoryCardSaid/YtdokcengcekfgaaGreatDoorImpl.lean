/-
  What the package's functions answer (impl.Decide, DecideStorage, DownValidate, DownEnable).
-/
import Derived.Test.YtdokcengcekfgaaGreatDoorDown
import Derived.Test.YtdokcengcekfgaaGreatDoorHeap
namespace Go.Proofs.YtdokcengcekfgaaGreatDoor
open Go.RowKit Go.Maps Go.WideMaps
set_option linter.unusedSimpArgs false
set_option linter.unusedVariables false

theorem sane_any (b : Nat) (g : GD) (A : Option Addr) (n cap : Nat) (x : VoteD) (w : World) (h : Grd w b g A n cap x) (hok : g.ok) (hw : VarsOk w) : Calls Tryz.prog 26 #[.pointer (some ⟨b, 0, none⟩)] w fun e w' => e = .returned (.bool true) ∧ Ext w w' := by
  have g2 := h.cell (o := 2) rfl
  have g3 := h.cell (o := 3) rfl
  have g4 := h.cell (o := 4) rfl
  cases hd : g.down with
  | false =>
    rw [hd] at g3
    replace hd := Lib.hid hd
    cases hhd : g.hasDown with
    | false =>
      rw [hhd] at g4
      replace hhd := Lib.hid hhd
      go_enter Tryz.func26, Tryz.ntmps26
      go_wp2
      go_ret
      exact ⟨rfl, Ext.refl _⟩
    | true =>
      rw [hhd] at g4
      replace hhd := Lib.hid hhd
      go_enter Tryz.func26, Tryz.ntmps26
      go_wp2
      go_ret
      exact ⟨rfl, Ext.refl _⟩
  | true =>
    obtain ⟨h1, v, hv⟩ := hok.d hd
    obtain ⟨h2, h3⟩ := verOfD_some hv
    have hvt : VTx g.target := by
      unfold VTx
      rw [hv]
      exact ⟨h2, h3⟩
    have HP := Lib.hid (parses_any g.target w hvt hw)
    rw [hv] at HP
    rw [hd] at g3
    rw [h1] at g4
    clear hd h1 hv h2 h3 hvt
    go_enter Tryz.func26, Tryz.ntmps26
    go_wp2_with fail
    refine HP.out.mono ?_
    rintro e w1 ⟨rfl, E1⟩
    go_wp2
    go_ret
    exact ⟨rfl, E1⟩
theorem newMon_any (b : Nat) (w : World) : Calls Tryz.prog 27 #[.pointer none, .iface 47 (.pointer (some ⟨b, 0, none⟩))] w fun e w' => ∃ mb, e = .returned (.pointer (some ⟨mb, 0, none⟩)) ∧ w.heap.size ≤ mb ∧ MonAt w' mb b ∧ Ext w w' := by
  go_enter Tryz.func27, Tryz.ntmps27
  go_wp2
  go_ret
  exact ⟨w.heap.size, rfl, Nat.le_refl _, Blk.new w _ _, (Ext.refl w).alloc _⟩
theorem newMan_any (b : Nat) (w : World) : Calls Tryz.prog 40 #[.pointer none, .iface 47 (.pointer (some ⟨b, 0, none⟩))] w fun e w' => ∃ mb, e = .returned (.pointer (some ⟨mb, 0, none⟩)) ∧ w.heap.size ≤ mb ∧ ManAt w' mb b ∧ Ext w w' := by
  go_enter Tryz.func40, Tryz.ntmps40
  go_wp2
  go_ret
  exact ⟨w.heap.size, rfl, Nat.le_refl _, Blk.new w _ _, (Ext.refl w).alloc _⟩
/-- the vote of a decision -/
def voteOf (r : Option VD × Bool) : VoteD := { updVote vote0 r.1 with err := errNo (if r.2 then 98 else 0) }
def DecideAns (g : GD) (w : World) (e : Ending) (w' : World) : Prop := ∃ l, Least (g.members.map verOfD) l ∧ e = .returned (voteV (voteOf (decideD (verOfD g.cluster) l g.down g.tv))) ∧ Ext w w'
theorem ext_two {w W w4 w5 : World} (EW : Ext w W) (E : ExtX (fun k => k = w.heap.size + 1 + 1) W w4) (x : ExtX (fun k => k = w.heap.size + 1) w4 w5) : Ext w w5 :=
  ((EW.toX (fun k => k = w.heap.size + 1 ∨ k = w.heap.size + 1 + 1)).trans ((E.mono (M' := fun k => k = w.heap.size + 1 ∨ k = w.heap.size + 1 + 1) (fun k _ h => .inr h)).trans' x (fun k _ h => .inl h))).toExt (fun k hk => by omega)
theorem errOf_if (c : Bool) : (if c then errDown else .nilIface) = errOf (if c then 98 else 0) := by cases c <;> rfl
set_option maxRecDepth 20000 in
set_option maxHeartbeats 4000000 in
theorem implDecide_any (g : GD) (A : Option Addr) (n cap : Nat) (w : World) (hn : n = g.members.length) (hm : (Rp.slice Rp.str).K w any g.members [.slice A n cap]) (hok : g.ok) (hw : VarsOk w) :
    Calls Tryz.prog 9 #[gdV g A n cap] w (DecideAns g w) := by
  have HM := Lib.hid hm
  have HOK := Lib.hid hok
  have HW := Lib.hid hw
  have HN := Lib.hid hn
  clear hm hok hw hn
  go_enter Tryz.func9, Tryz.ntmps9
  go_wp2_with fail
  obtain ⟨W, hW⟩ : ∃ W, W = ((w.alloc (.cells (gdCells g A n cap).toArray 24)).alloc (.cells (voteCells vote0).toArray 35)).alloc (.cells (guardCells g A n cap vote0).toArray 49) := ⟨_, rfl⟩
  have EW : Ext w W := by rw [hW]; exact (((Ext.refl w).alloc _).alloc _).alloc _
  have KR : Blk W (w.heap.size + 1) 35 (voteCells vote0) := by
    rw [hW]
    have := Blk.new (w.alloc (.cells (gdCells g A n cap).toArray 24)) 35 (voteCells vote0)
    rw [World.size_alloc] at this
    exact this.ext ((Ext.refl _).alloc _)
  have KG : Grd W (w.heap.size + 1 + 1) g A n cap vote0 := by
    rw [hW]
    have := Blk.new ((w.alloc (.cells (gdCells g A n cap).toArray 24)).alloc (.cells (voteCells vote0).toArray 35)) 49 (guardCells g A n cap vote0)
    rw [World.size_alloc, World.size_alloc] at this
    exact this
  change Calls _ _ _ (((w.alloc (.cells (gdCells g A n cap).toArray 24)).alloc (.cells (voteCells vote0).toArray 35)).alloc (.cells (guardCells g A n cap vote0).toArray 49)) _
  rw [← hW]
  clear hW
  refine (sane_any _ g A n cap vote0 W KG HOK.out (HW.out.ext EW)).mono ?_
  rintro e w1 ⟨rfl, E1⟩
  go_wp2_with fail
  refine (newMon_any _ w1).mono ?_
  rintro e w2 ⟨mb, rfl, hmb, KM, E2⟩
  have E02 := EW.trans (E1.trans E2)
  have hmb2 : mb ≠ w.heap.size + 1 + 1 := by have := (KG.ext E1).lt; omega
  go_wp2_with fail
  refine (updCluster_mon mb _ g A n cap vote0 w2 ((KG.ext E1).ext E2) KM hmb2 HN.out ((Rp.slice Rp.str).ext' E02 HM.out) HOK.out (HW.out.ext E02)).mono ?_
  rintro e w3 ⟨l, hl, rfl, G3, E3⟩
  have HL := Lib.hid hl
  clear hl
  generalize hr : decideD (verOfD g.cluster) l g.down g.tv = r at *
  replace hr := Lib.hid hr
  rw [errOf_if]
  obtain ⟨k, hk⟩ : ∃ k, (if r.2 then 98 else 0) = k := ⟨_, rfl⟩
  rw [hk]
  replace hk := Lib.hid hk
  have E23 : ExtX (fun k => k = w.heap.size + 1 + 1) W w3 := ((E1.trans E2).toX _).trans E3
  have KR3 := KR.extX E23 (by omega)
  go_wp2_with fail
  refine (voteKind_any _ w3).mono ?_
  rintro e w3' ⟨rfl, rfl⟩
  go_wp2_with (first
    | (refine wpList_store rfl rfl (.tmp 21) (.tmp 18) 3 rfl rfl rfl rfl G3 rfl (Nat.le_of_ble_eq_true rfl) rfl ?_; intro w4 K4 x4; have KR4 := KR3.extX x4 (by omega); have q6 := K4.cell (o := 6) rfl; have q7 := K4.cell (o := 7) rfl; have q8 := K4.cell (o := 8) rfl; have q9 := K4.cell (o := 9) rfl; have q10 := K4.cell (o := 10) rfl; have q11 := K4.cell (o := 11) rfl)
    | (refine wpList_store rfl rfl (.tmp 2) (.tmp 25) 35 rfl rfl rfl rfl KR4 rfl (Nat.le_of_ble_eq_true rfl) rfl ?_; intro w5 K5 x5))
  refine bodyPost_ret (results_cell_row rfl _ _ (w.heap.size + 1) _ _ (0, 0) _ rfl K5 Tryz.underlying35 rfl rfl) rfl ?_
  refine ⟨l, HL.out, ?_, ?_⟩
  · rw [hr.out]
    unfold voteOf
    rw [hk.out]
    rfl
  · exact ext_two EW (E23.trans x4) x5

def StoreAns (g : GD) (w : World) (e : Ending) (w' : World) : Prop := e = .returned (voteV (stVote vote0 (storageD (verOfD g.cluster) (verOfD g.storage)))) ∧ Ext w w'
set_option maxRecDepth 20000 in
set_option maxHeartbeats 4000000 in
theorem implStorage_any (g : GD) (A : Option Addr) (n cap : Nat) (w : World) (hok : g.ok) (hw : VarsOk w) :
    Calls Tryz.prog 10 #[gdV g A n cap] w (StoreAns g w) := by
  have HOK := Lib.hid hok
  have HW := Lib.hid hw
  clear hok hw
  go_enter Tryz.func10, Tryz.ntmps10
  go_wp2_with fail
  obtain ⟨W, hW⟩ : ∃ W, W = ((w.alloc (.cells (gdCells g A n cap).toArray 24)).alloc (.cells (voteCells vote0).toArray 35)).alloc (.cells (guardCells g A n cap vote0).toArray 49) := ⟨_, rfl⟩
  have EW : Ext w W := by rw [hW]; exact (((Ext.refl w).alloc _).alloc _).alloc _
  have KR : Blk W (w.heap.size + 1) 35 (voteCells vote0) := by
    rw [hW]
    have := Blk.new (w.alloc (.cells (gdCells g A n cap).toArray 24)) 35 (voteCells vote0)
    rw [World.size_alloc] at this
    exact this.ext ((Ext.refl _).alloc _)
  have KG : Grd W (w.heap.size + 1 + 1) g A n cap vote0 := by
    rw [hW]
    have := Blk.new ((w.alloc (.cells (gdCells g A n cap).toArray 24)).alloc (.cells (voteCells vote0).toArray 35)) 49 (guardCells g A n cap vote0)
    rw [World.size_alloc, World.size_alloc] at this
    exact this
  change Calls _ _ _ (((w.alloc (.cells (gdCells g A n cap).toArray 24)).alloc (.cells (voteCells vote0).toArray 35)).alloc (.cells (guardCells g A n cap vote0).toArray 49)) _
  rw [← hW]
  clear hW
  refine (newMon_any _ W).mono ?_
  rintro e w2 ⟨mb, rfl, hmb, KM, E2⟩
  have E02 := EW.trans E2
  have hmb2 : mb ≠ w.heap.size + 1 + 1 := by have := KG.lt; omega
  go_wp2_with fail
  refine (updStorage_mon mb _ g A n cap vote0 w2 (KG.ext E2) KM hmb2 HOK.out (HW.out.ext E02)).mono ?_
  rintro e w3 ⟨rfl, G3, E3⟩
  generalize hr : stVote vote0 (storageD (verOfD g.cluster) (verOfD g.storage)) = x at *
  replace hr := Lib.hid hr
  have E23 : ExtX (fun k => k = w.heap.size + 1 + 1) W w3 := (E2.toX _).trans E3
  have KR3 := KR.extX E23 (by omega)
  have K4 := G3
  have q0 := K4.cell (o := 0) rfl
  have q6 := K4.cell (o := 6) rfl
  have q7 := K4.cell (o := 7) rfl
  have q8 := K4.cell (o := 8) rfl
  have q9 := K4.cell (o := 9) rfl
  have q10 := K4.cell (o := 10) rfl
  have q11 := K4.cell (o := 11) rfl
  clear q0
  go_wp2_with (refine wpList_store rfl rfl (.tmp 2) (.tmp 14) 35 rfl rfl rfl rfl KR3 rfl (Nat.le_of_ble_eq_true rfl) rfl ?_; intro w5 K5 x5)
  refine bodyPost_ret (results_cell_row rfl _ _ (w.heap.size + 1) _ _ (0, 0) _ rfl K5 Tryz.underlying35 rfl rfl) rfl ?_
  refine ⟨?_, ?_⟩
  · rw [hr.out]
    rfl
  · exact ext_two EW E23 x5
theorem ext_two' {w W w4 w5 : World} (EW : Ext w W) (E : ExtX (fun k => k = w.heap.size + 1 + 1 + 1) W w4) (x : ExtX (fun k => k = w.heap.size + 1 + 1) w4 w5) : Ext w w5 :=
  ((EW.toX (fun k => k = w.heap.size + 1 + 1 ∨ k = w.heap.size + 1 + 1 + 1)).trans ((E.mono (M' := fun k => k = w.heap.size + 1 + 1 ∨ k = w.heap.size + 1 + 1 + 1) (fun k _ h => .inr h)).trans' x (fun k _ h => .inl h))).toExt (fun k hk => by omega)
theorem bg_any (w : World) : Calls Tryz.prog 42 #[] w fun e w' => ∃ u, e = .returned u ∧ Ext w w' := by
  go_enter Tryz.func42, Tryz.ntmps42
  go_wp2
  go_ret
  exact ⟨_, rfl, Ext.refl _⟩
def vErr (k : Nat) : VoteD := { vote0 with err := errNo k }
set_option maxRecDepth 20000 in
set_option maxHeartbeats 4000000 in
theorem implEnable_any (g : GD) (A : Option Addr) (n cap : Nat) (cv to : VD) (hto : to.ok) (w : World) (hok : g.ok) (hw : VarsOk w) (hc : verOfD g.cluster = some cv) :
    Calls Tryz.prog 17 #[gdV g A n cap, verV to] w fun e w' => e = .returned (voteV { enVote vote0 (validD cv to g.down) to with err := errNo (validD cv to g.down) }) ∧ Ext w w' := by
  have HOK := Lib.hid hok
  have HW := Lib.hid hw
  have hcv := Lib.hid hc
  have HTO := Lib.hid hto
  clear hok hw hc hto
  go_enter Tryz.func17, Tryz.ntmps17
  go_wp2_with fail
  obtain ⟨W, hW⟩ : ∃ W, W = (((w.alloc (.cells (gdCells g A n cap).toArray 24)).alloc (.cells (verCells to).toArray 29)).alloc (.cells (voteCells vote0).toArray 35)).alloc (.cells (guardCells g A n cap vote0).toArray 49) := ⟨_, rfl⟩
  have EW : Ext w W := by rw [hW]; exact ((((Ext.refl w).alloc _).alloc _).alloc _).alloc _
  have KT : Blk W (w.heap.size + 1) 29 (verCells to) := by
    rw [hW]
    have := Blk.new (w.alloc (.cells (gdCells g A n cap).toArray 24)) 29 (verCells to)
    rw [World.size_alloc] at this
    exact this.ext (((Ext.refl _).alloc _).alloc _)
  have KR : Blk W (w.heap.size + 1 + 1) 35 (voteCells vote0) := by
    rw [hW]
    have := Blk.new ((w.alloc (.cells (gdCells g A n cap).toArray 24)).alloc (.cells (verCells to).toArray 29)) 35 (voteCells vote0)
    rw [World.size_alloc, World.size_alloc] at this
    exact this.ext ((Ext.refl _).alloc _)
  have KG : Grd W (w.heap.size + 1 + 1 + 1) g A n cap vote0 := by
    rw [hW]
    have := Blk.new (((w.alloc (.cells (gdCells g A n cap).toArray 24)).alloc (.cells (verCells to).toArray 29)).alloc (.cells (voteCells vote0).toArray 35)) 49 (guardCells g A n cap vote0)
    rw [World.size_alloc, World.size_alloc, World.size_alloc] at this
    exact this
  change Calls _ _ _ ((((w.alloc (.cells (gdCells g A n cap).toArray 24)).alloc (.cells (verCells to).toArray 29)).alloc (.cells (voteCells vote0).toArray 35)).alloc (.cells (guardCells g A n cap vote0).toArray 49)) _
  rw [← hW]
  clear hW
  have hWs : w.heap.size + 1 + 1 + 1 < W.heap.size := KG.lt
  refine (parses_any g.cluster W HOK.out.c (HW.out.ext EW)).mono ?_
  rintro e w1 ⟨rfl, E1⟩
  rw [hcv.out]
  obtain ⟨t0, t1, t2⟩ := V3.of (KT.ext E1)
  go_wp2_with fail
  refine (verIn_any to.maj to.mnr to.pat w1).mono ?_
  rintro e w2 ⟨rfl, E2⟩
  clear t0 t1 t2
  go_wp2_with fail
  obtain ⟨w3, hw3⟩ : ∃ w3, w3 = w2.alloc (.cells (verCells to).toArray 60) := ⟨_, rfl⟩
  have E3 : Ext w2 w3 := by rw [hw3]; exact (Ext.refl _).alloc _
  have V3t : V3 w3 w2.heap.size 0 to.maj to.mnr to.pat := by rw [hw3]; exact V3.of (Blk.new w2 _ _)
  change Calls _ _ _ (w2.alloc (.cells (verCells to).toArray 60)) _
  rw [← hw3]
  clear hw3
  have E13 : Ext W w3 := (E1.trans E2).trans E3
  have hs2 : W.heap.size ≤ w2.heap.size := (E1.trans E2).size
  refine (newMan_any _ w3).mono ?_
  rintro e w4 ⟨mb, rfl, hmb, KM, E4⟩
  go_wp2_with fail
  refine (bg_any w4).mono ?_
  rintro e w5 ⟨u, rfl, E5⟩
  have E35 : Ext w3 w5 := E4.trans E5
  have E15 : Ext W w5 := E13.trans E35
  go_wp2_with fail
  refine (enable_any mb (w.heap.size + 1 + 1 + 1) w2.heap.size g A n cap vote0 cv to HTO.out u w5 (KG.ext E15) (KM.ext E5) (V3t.ext E35) (by omega) HOK.out (HW.out.ext (EW.trans E15)) hcv.out).mono ?_
  rintro e w6 ⟨rfl, G3, E6⟩
  have E23 : ExtX (fun k => k = w.heap.size + 1 + 1 + 1) W w6 := (E15.toX _).trans E6
  have KR3 := KR.extX E23 (by omega)
  generalize hr : validD cv to g.down = k at *
  replace hr := Lib.hid hr
  generalize hx : enVote vote0 k to = x at *
  replace hx := Lib.hid hx
  go_wp2_with fail
  refine (voteKind_any _ w6).mono ?_
  rintro e w3' ⟨rfl, rfl⟩
  go_wp2_with (first
    | (refine wpList_store rfl rfl (.tmp 28) (.tmp 25) 3 rfl rfl rfl rfl G3 rfl (Nat.le_of_ble_eq_true rfl) rfl ?_; intro w8 K4 x4; have KR4 := KR3.extX x4 (by omega); have q6 := K4.cell (o := 6) rfl; have q7 := K4.cell (o := 7) rfl; have q8 := K4.cell (o := 8) rfl; have q9 := K4.cell (o := 9) rfl; have q10 := K4.cell (o := 10) rfl; have q11 := K4.cell (o := 11) rfl)
    | (refine wpList_store rfl rfl (.tmp 4) (.tmp 32) 35 rfl rfl rfl rfl KR4 rfl (Nat.le_of_ble_eq_true rfl) rfl ?_; intro w9 K5 x5))
  refine bodyPost_ret (results_cell_row rfl _ _ (w.heap.size + 1 + 1) _ _ (0, 0) _ rfl K5 Tryz.underlying35 rfl rfl) rfl ?_
  refine ⟨?_, ?_⟩
  · rw [hr.out, hx.out]; rfl
  · exact ext_two' EW (E23.trans x4) x5
end Go.Proofs.YtdokcengcekfgaaGreatDoor
