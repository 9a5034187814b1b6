/-
  The walk of FnDownValidate.
-/
import Derived.Test.YtdokcengcekfgaaDoorStorage
import Derived.Deep.DeepCutAuto
namespace Go.Proofs.YtdokcengcekfgaaDoor
open Go.RowKit
set_option linter.unusedSimpArgs false
set_option linter.unusedVariables false

noncomputable def ops_3_5 : Array Oper := opsAt Tryd.f3 5
noncomputable def ops_3_6 : Array Oper := opsAt Tryd.f3 6
set_option maxRecDepth 20000 in
set_option maxHeartbeats 4000000 in
theorem walk_DownValidate (g : GD) (A : Option Addr) (n cap : Nat) (tw : VD) (w : World) (hn : n = g.members.length) (hm : (Rp.slice Rp.str).K w any g.members [.slice A n cap]) (hw : VarsOk w) :
    Calls Tryd.prog 3 #[gdV g A n cap, verV tw] w fun e w' => e = .returned (.bool true) ∧ Ext w w' := by
  have HM := Lib.hid hm
  have HW := Lib.hid hw
  have HN := Lib.hid hn
  clear hm hw hn
  go_enter Tryd.func3, Tryd.ntmps3
  go_wp2_with fail
  obtain ⟨W, hW⟩ : ∃ W, W = (w.alloc (.cells (gdCells g A n cap).toArray 24)).alloc (.cells (verCells tw).toArray 26) := ⟨_, rfl⟩
  have EW : Ext w W := by rw [hW]; exact ((Ext.refl w).alloc _).alloc _
  have KV : Blk W w.heap.size 24 (gdCells g A n cap) := by rw [hW]; exact (Blk.new w _ _).ext ((Ext.refl _).alloc _)
  have KT : Blk W (w.heap.size + 1) 26 (verCells tw) := by
    rw [hW]
    have := Blk.new (w.alloc (.cells (gdCells g A n cap).toArray 24)) 26 (verCells tw)
    rwa [World.size_alloc] at this
  change Calls _ _ _ ((w.alloc (.cells (gdCells g A n cap).toArray 24)).alloc (.cells (verCells tw).toArray 26)) _
  rw [← hW]
  clear hW
  refine (fits36 g A n cap W HN.out ((Rp.slice Rp.str).ext' EW HM.out)).mono ?_
  rintro e w1 ⟨c, rfl, hf, E1⟩
  replace hf := Lib.hid hf
  have E01 := EW.trans E1
  have KV1 := KV.ext E1
  cases c with
  | false =>
    go_wp2
    go_ret
    exact ⟨rfl, E01⟩
  | true =>
  have HF : Hid g.fits := Lib.hid (by simpa using hf.out)
  obtain ⟨s0, s1, s2, s3, s4, s5⟩ := gd_load KV1
  go_wp2_with fail
  refine (verGood_any g A n cap w1 HN.out ((Rp.slice Rp.str).ext' E01 HM.out) HF.out).mono ?_
  rintro e w2 ⟨c, rfl, hok, E2⟩
  have E02 := E01.trans E2
  have KV2 := KV1.ext E2
  replace hok := Lib.hid hok
  clear s0 s1 s2 s3 s4 s5
  cases c with
  | false =>
    go_wp2
    go_ret
    exact ⟨rfl, E02⟩
  | true =>
  have HOK : Hid g.ok := Lib.hid (by simpa using hok.out)
  obtain ⟨s0, s1, s2, s3, s4, s5⟩ := gd_load KV2
  go_wp2_with fail
  refine (there_any g A n cap w2 HF.out.c).mono ?_
  rintro e w3 ⟨rfl, E3⟩
  have E03 := E02.trans E3
  have KV3 := KV2.ext E3
  have KT3 := ((KT.ext E1).ext E2).ext E3
  clear s0 s1 s2 s3 s4 s5
  cases hcv : verOfD g.cluster with
  | none =>
    replace hcv := Lib.hid hcv
    go_wp2
    go_ret
    exact ⟨rfl, E03⟩
  | some cv =>
  replace hcv := Lib.hid hcv
  obtain ⟨t0, t1, t2⟩ := V3.of KT3
  simp only [Nat.zero_add] at t1 t2
  go_wp2_with fail
  cases hnum : vnum tw.maj tw.mnr tw.pat with
  | false =>
    refine (verNumbers_no tw.maj tw.mnr tw.pat w3 hnum).mono ?_
    rintro e w4 ⟨rfl, E4⟩
    go_wp2
    go_ret
    exact ⟨rfl, E03.trans E4⟩
  | true =>
  refine (verNumbers_yes tw.maj tw.mnr tw.pat w3 hnum).mono ?_
  rintro e w4 ⟨rfl, E4⟩
  have htok : tw.ok := by
    simp only [vnum, Bool.and_eq_true, decide_eq_true_eq] at hnum
    unfold VD.ok
    omega
  replace htok := Lib.hid htok
  have E04 := E03.trans E4
  obtain ⟨s0, s1, s2, s3, s4, s5⟩ := gd_load (KV3.ext E4)
  clear t0 t1 t2
  obtain ⟨t0, t1, t2⟩ := V3.of (KT3.ext E4)
  simp only [Nat.zero_add] at t1 t2
  clear hnum
  have hsW : w.heap.size + 1 < w4.heap.size := (KT3.ext E4).lt
  obtain ⟨x2, CE, SE⟩ : ∃ x2 : VoteD, Hid (∀ w, VarsOk w → Calls Tryd.prog 12 #[gdV g A n cap, verV tw] w fun e w' => e = .returned (voteV x2) ∧ Ext w w') ∧ Hid (∀ w, Calls Tryd.prog 14 #[gdV g A n cap, verV tw] w fun e w' => e = .returned (voteV x2) ∧ Ext w w') :=
    ⟨_, Lib.hid (fun w hw => implEnable_any g A n cap cv tw htok.out w HOK.out hw hcv.out), Lib.hid (fun w => specEnable_any g A n cap cv tw htok.out w HOK.out hcv.out)⟩
  go_upto_region 5 with fail
  obtain ⟨s, hs0⟩ : ∃ s, w4.heap.size = s := ⟨_, rfl⟩
  go_cut [5, 6] (fun p5 p6 wx => ∃ b5 b6, p5 = .pointer (some ⟨b5, 0, none⟩) ∧ p6 = .pointer (some ⟨b6, 0, none⟩) ∧ Hid (Blk wx b5 30 (voteCells (vErr (validD cv tw g.down)))) ∧
    Hid (Blk wx b6 30 (voteCells x2)) ∧ Ext w4 wx)
  case first =>
    have hsL0 : w.heap.size < s := by omega
    have hsL1 : w.heap.size + 1 < s := by omega
    have hs : s ≤ w4.drew.heap.size := Nat.le_of_eq hs0.symm
    replace hs0 := Lib.hid hs0
    refine wp_region_sched (ops := ops_3_5) (ExtB s) [9] (.quiet 0 (.quiet 1 (.quiet 3 (.quiet 4 (.loud 2 (.loud 5 (.loud 6 (.loud 7 (.loud 8 (.last 9 (.done)) (.stop)) (.stop)) (.loud 7 (.loud 6 (.loud 8 (.last 9 (.done)) (.stop)) (.stop)) (.stop))) (.loud 6 (.loud 5 (.loud 7 (.loud 8 (.last 9 (.done)) (.stop)) (.stop)) (.loud 7 (.loud 5 (.loud 8 (.last 9 (.done)) (.stop)) (.stop)) (.stop))) (.loud 7 (.loud 5 (.loud 6 (.loud 8 (.last 9 (.done)) (.stop)) (.stop)) (.loud 6 (.loud 5 (.loud 8 (.last 9 (.done)) (.stop)) (.stop)) (.stop))) (.stop)))) (.loud 6 (.loud 2 (.loud 5 (.loud 7 (.loud 8 (.last 9 (.done)) (.stop)) (.stop)) (.loud 7 (.loud 5 (.loud 8 (.last 9 (.done)) (.stop)) (.stop)) (.stop))) (.loud 7 (.loud 2 (.loud 5 (.loud 8 (.last 9 (.done)) (.stop)) (.stop)) (.stop)) (.stop))) (.loud 7 (.loud 2 (.loud 5 (.loud 6 (.loud 8 (.last 9 (.done)) (.stop)) (.stop)) (.loud 6 (.loud 5 (.loud 8 (.last 9 (.done)) (.stop)) (.stop)) (.stop))) (.loud 6 (.loud 2 (.loud 5 (.loud 8 (.last 9 (.done)) (.stop)) (.stop)) (.stop)) (.stop))) (.stop)))))))) (by kernel_rfl) (extB_refl s) (extB_trans s) (by kernel_rfl) (fun _ _ d _ _ h => by cases d <;> exact h) ?_
    have E : ExtB s w4 w4.drew := ExtB.refl _ _
    refine wpS_quiet (some 23) { dst := some 23, op := Op.load 24 (Operand.tmp 2), type := _, pos := _, after := _, guard := none } _ rfl rfl (by rfl) (fun wE hE => by (have zk0 := hE.cellS (by first | exact hsL0 | exact hsL1) s0; have zk1 := hE.cellS (by first | exact hsL0 | exact hsL1) s1; have zk2 := hE.cellS (by first | exact hsL0 | exact hsL1) s2; have zk3 := hE.cellS (by first | exact hsL0 | exact hsL1) s3; have zk4 := hE.cellS (by first | exact hsL0 | exact hsL1) s4; have zk5 := hE.cellS (by first | exact hsL0 | exact hsL1) s5; have zk6 := hE.cellS (by first | exact hsL0 | exact hsL1) t0; have zk7 := hE.cellS (by first | exact hsL0 | exact hsL1) t1; have zk8 := hE.cellS (by first | exact hsL0 | exact hsL1) t2; go_simp; try with_reducible rfl)) ?_; simp only [Act.put, List.setIfInBounds_toArray, List.set_cons_zero, List.set_cons_succ]
    refine wpS_quiet (some 24) { dst := some 24, op := Op.load 26 (Operand.tmp 3), type := _, pos := _, after := _, guard := none } _ rfl rfl (by rfl) (fun wE hE => by (have zk0 := hE.cellS (by first | exact hsL0 | exact hsL1) s0; have zk1 := hE.cellS (by first | exact hsL0 | exact hsL1) s1; have zk2 := hE.cellS (by first | exact hsL0 | exact hsL1) s2; have zk3 := hE.cellS (by first | exact hsL0 | exact hsL1) s3; have zk4 := hE.cellS (by first | exact hsL0 | exact hsL1) s4; have zk5 := hE.cellS (by first | exact hsL0 | exact hsL1) s5; have zk6 := hE.cellS (by first | exact hsL0 | exact hsL1) t0; have zk7 := hE.cellS (by first | exact hsL0 | exact hsL1) t1; have zk8 := hE.cellS (by first | exact hsL0 | exact hsL1) t2; go_simp; try with_reducible rfl)) ?_; simp only [Act.put, List.setIfInBounds_toArray, List.set_cons_zero, List.set_cons_succ]
    refine wpS_quiet (some 26) { dst := some 26, op := Op.load 24 (Operand.tmp 2), type := _, pos := _, after := _, guard := none } _ rfl rfl (by rfl) (fun wE hE => by (have zk0 := hE.cellS (by first | exact hsL0 | exact hsL1) s0; have zk1 := hE.cellS (by first | exact hsL0 | exact hsL1) s1; have zk2 := hE.cellS (by first | exact hsL0 | exact hsL1) s2; have zk3 := hE.cellS (by first | exact hsL0 | exact hsL1) s3; have zk4 := hE.cellS (by first | exact hsL0 | exact hsL1) s4; have zk5 := hE.cellS (by first | exact hsL0 | exact hsL1) s5; have zk6 := hE.cellS (by first | exact hsL0 | exact hsL1) t0; have zk7 := hE.cellS (by first | exact hsL0 | exact hsL1) t1; have zk8 := hE.cellS (by first | exact hsL0 | exact hsL1) t2; go_simp; try with_reducible rfl)) ?_; simp only [Act.put, List.setIfInBounds_toArray, List.set_cons_zero, List.set_cons_succ]
    refine wpS_quiet (some 27) { dst := some 27, op := Op.load 26 (Operand.tmp 3), type := _, pos := _, after := _, guard := none } _ rfl rfl (by rfl) (fun wE hE => by (have zk0 := hE.cellS (by first | exact hsL0 | exact hsL1) s0; have zk1 := hE.cellS (by first | exact hsL0 | exact hsL1) s1; have zk2 := hE.cellS (by first | exact hsL0 | exact hsL1) s2; have zk3 := hE.cellS (by first | exact hsL0 | exact hsL1) s3; have zk4 := hE.cellS (by first | exact hsL0 | exact hsL1) s4; have zk5 := hE.cellS (by first | exact hsL0 | exact hsL1) s5; have zk6 := hE.cellS (by first | exact hsL0 | exact hsL1) t0; have zk7 := hE.cellS (by first | exact hsL0 | exact hsL1) t1; have zk8 := hE.cellS (by first | exact hsL0 | exact hsL1) t2; go_simp; try with_reducible rfl)) ?_; simp only [Act.put, List.setIfInBounds_toArray, List.set_cons_zero, List.set_cons_succ]
    refine wpS_callm (some 25) { dst := some 25, op := Op.call { callee := Callee.value (Operand.func 11), args := #[Operand.tmp 23, Operand.tmp 24], argTypes := #[24, 26] }, type := _, pos := _, after := _, guard := none } 11 _ rfl rfl (by rfl) (by go_simp; try with_reducible rfl) ?_ ?_
    rotate_right
    · skip
      refine wpS_alloc (some 5) { dst := some 5, op := Op.alloc 30, type := _, pos := _, after := _, guard := none } _ _ rfl rfl (by rfl) (by go_simp; try with_reducible rfl) ?_ ?_ ?_
      rotate_right
      · skip
        refine wpS_alloc (some 6) { dst := some 6, op := Op.alloc 30, type := _, pos := _, after := _, guard := none } _ _ rfl rfl (by rfl) (by go_simp; try with_reducible rfl) ?_ ?_ trivial
        exact fun w' h => h.toB hs
        intro b6 wd hb ed K6
        have g6 : s ≤ b6 := by omega
        (try have n56 : b5 ≠ b6 := by (have := K5.lt; omega))
        clear hb
        (try replace K5 := K5.ext ed)
        have E := E.trans (ed.toB hs)
        have hs := Nat.le_trans hs ed.size
        simp only [Act.put, List.setIfInBounds_toArray, List.set_cons_zero, List.set_cons_succ]
        refine wpS_callm (some 25) { dst := some 25, op := Op.call { callee := Callee.value (Operand.func 11), args := #[Operand.tmp 23, Operand.tmp 24], argTypes := #[24, 26] }, type := _, pos := _, after := _, guard := none } 11 _ rfl rfl (by rfl) (by go_simp; try with_reducible rfl) ?_ ?_
        rotate_right
        · skip
          refine wpS_alloc (some 5) { dst := some 5, op := Op.alloc 30, type := _, pos := _, after := _, guard := none } _ _ rfl rfl (by rfl) (by go_simp; try with_reducible rfl) ?_ ?_ trivial
          exact fun w' h => h.toB hs
          intro b5 wc hb ec K5
          have g5 : s ≤ b5 := by omega
          (try have n56 : b5 ≠ b6 := by (have := K6.lt; omega))
          clear hb
          (try replace K6 := K6.ext ec)
          have E := E.trans (ec.toB hs)
          have hs := Nat.le_trans hs ec.size
          simp only [Act.put, List.setIfInBounds_toArray, List.set_cons_zero, List.set_cons_succ]
          refine wpS_callm (some 25) { dst := some 25, op := Op.call { callee := Callee.value (Operand.func 11), args := #[Operand.tmp 23, Operand.tmp 24], argTypes := #[24, 26] }, type := _, pos := _, after := _, guard := none } 11 _ rfl rfl (by rfl) (by go_simp; try with_reducible rfl) ?_ trivial
          refine (implValidate_any g A n cap cv tw wc HOK.out (HW.out.ext (E04.trans ((E.mono (Nat.le_of_eq hs0.out)).ext))) hcv.out).mono ?_
          rintro e wa ⟨rfl, ea⟩
          refine ⟨_, rfl, ea.toB hs, ?_⟩
          (try replace K5 := K5.ext ea)
          (try replace K6 := K6.ext ea)
          have E := E.trans (ea.toB hs)
          have hs := Nat.le_trans hs ea.size
          simp only [Act.put, List.setIfInBounds_toArray, List.set_cons_zero, List.set_cons_succ]
          refine wpS_callm (some 28) { dst := some 28, op := Op.call { callee := Callee.value (Operand.func 12), args := #[Operand.tmp 26, Operand.tmp 27], argTypes := #[24, 26] }, type := _, pos := _, after := _, guard := none } 12 _ rfl rfl (by rfl) (by go_simp; try with_reducible rfl) ?_ trivial
          refine (CE.out wa (HW.out.ext (E04.trans ((E.mono (Nat.le_of_eq hs0.out)).ext)))).mono ?_
          rintro e wb ⟨rfl, eb⟩
          refine ⟨_, rfl, eb.toB hs, ?_⟩
          (try replace K5 := K5.ext eb)
          (try replace K6 := K6.ext eb)
          have E := E.trans (eb.toB hs)
          have hs := Nat.le_trans hs eb.size
          simp only [Act.put, List.setIfInBounds_toArray, List.set_cons_zero, List.set_cons_succ]
          refine wpS_storeL none { dst := none, op := Op.store 30 (Operand.tmp 5) (Operand.tmp 25), type := _, pos := _, after := _, guard := none } rfl rfl (by rfl) (.tmp 5) (.tmp 25) 30 rfl rfl rfl rfl K5 rfl (Nat.le_refl 6) rfl (fun w' x => x.toB (fun k hk => by have hk : k = b5 := hk; omega) hs) ?_ trivial
          intro we Kn xe
          (have ee := xe.toB (B := s) (fun k hk => by have hk : k = b5 := hk; omega) hs)
          replace K5 := Kn
          (try replace K6 := K6.extX xe n56.symm)
          have E := E.trans ee
          have hs := Nat.le_trans hs ee.size
          simp only [Act.put, List.setIfInBounds_toArray, List.set_cons_zero, List.set_cons_succ]
          refine wpS_store none { dst := none, op := Op.store 30 (Operand.tmp 6) (Operand.tmp 28), type := _, pos := _, after := _, guard := none } rfl rfl (by rfl) (.tmp 6) (.tmp 28) 30 rfl rfl rfl rfl K6 rfl (Nat.le_refl 6) rfl ?_
          intro wf Kn xf
          (have ef := xf.toB (B := s) (fun k hk => by have hk : k = b6 := hk; omega) hs)
          replace K6 := Kn
          (try replace K5 := K5.extX xf n56)
          have E := E.trans ef
          have hs := Nat.le_trans hs ef.size
          simp only [Act.put, List.setIfInBounds_toArray, List.set_cons_zero, List.set_cons_succ]
          change Exit.then _ _ _ _ _
          go_wp2
          go_meet
          exact ⟨b5, b6, rfl, rfl, Lib.hid K5, Lib.hid K6, (E.mono (Nat.le_of_eq hs0.out)).ext⟩
        refine (implValidate_any g A n cap cv tw wd HOK.out (HW.out.ext (E04.trans ((E.mono (Nat.le_of_eq hs0.out)).ext))) hcv.out).mono ?_
        rintro e wa ⟨rfl, ea⟩
        refine ⟨_, rfl, ea.toB hs, ?_⟩
        (try replace K5 := K5.ext ea)
        (try replace K6 := K6.ext ea)
        have E := E.trans (ea.toB hs)
        have hs := Nat.le_trans hs ea.size
        simp only [Act.put, List.setIfInBounds_toArray, List.set_cons_zero, List.set_cons_succ]
        refine wpS_callm (some 28) { dst := some 28, op := Op.call { callee := Callee.value (Operand.func 12), args := #[Operand.tmp 26, Operand.tmp 27], argTypes := #[24, 26] }, type := _, pos := _, after := _, guard := none } 12 _ rfl rfl (by rfl) (by go_simp; try with_reducible rfl) ?_ ?_
        rotate_right
        · skip
          refine wpS_alloc (some 5) { dst := some 5, op := Op.alloc 30, type := _, pos := _, after := _, guard := none } _ _ rfl rfl (by rfl) (by go_simp; try with_reducible rfl) ?_ ?_ trivial
          exact fun w' h => h.toB hs
          intro b5 wc hb ec K5
          have g5 : s ≤ b5 := by omega
          (try have n56 : b5 ≠ b6 := by (have := K6.lt; omega))
          clear hb
          (try replace K6 := K6.ext ec)
          have E := E.trans (ec.toB hs)
          have hs := Nat.le_trans hs ec.size
          simp only [Act.put, List.setIfInBounds_toArray, List.set_cons_zero, List.set_cons_succ]
          refine wpS_callm (some 28) { dst := some 28, op := Op.call { callee := Callee.value (Operand.func 12), args := #[Operand.tmp 26, Operand.tmp 27], argTypes := #[24, 26] }, type := _, pos := _, after := _, guard := none } 12 _ rfl rfl (by rfl) (by go_simp; try with_reducible rfl) ?_ trivial
          refine (CE.out wc (HW.out.ext (E04.trans ((E.mono (Nat.le_of_eq hs0.out)).ext)))).mono ?_
          rintro e wb ⟨rfl, eb⟩
          refine ⟨_, rfl, eb.toB hs, ?_⟩
          (try replace K5 := K5.ext eb)
          (try replace K6 := K6.ext eb)
          have E := E.trans (eb.toB hs)
          have hs := Nat.le_trans hs eb.size
          simp only [Act.put, List.setIfInBounds_toArray, List.set_cons_zero, List.set_cons_succ]
          refine wpS_storeL none { dst := none, op := Op.store 30 (Operand.tmp 5) (Operand.tmp 25), type := _, pos := _, after := _, guard := none } rfl rfl (by rfl) (.tmp 5) (.tmp 25) 30 rfl rfl rfl rfl K5 rfl (Nat.le_refl 6) rfl (fun w' x => x.toB (fun k hk => by have hk : k = b5 := hk; omega) hs) ?_ trivial
          intro we Kn xe
          (have ee := xe.toB (B := s) (fun k hk => by have hk : k = b5 := hk; omega) hs)
          replace K5 := Kn
          (try replace K6 := K6.extX xe n56.symm)
          have E := E.trans ee
          have hs := Nat.le_trans hs ee.size
          simp only [Act.put, List.setIfInBounds_toArray, List.set_cons_zero, List.set_cons_succ]
          refine wpS_store none { dst := none, op := Op.store 30 (Operand.tmp 6) (Operand.tmp 28), type := _, pos := _, after := _, guard := none } rfl rfl (by rfl) (.tmp 6) (.tmp 28) 30 rfl rfl rfl rfl K6 rfl (Nat.le_refl 6) rfl ?_
          intro wf Kn xf
          (have ef := xf.toB (B := s) (fun k hk => by have hk : k = b6 := hk; omega) hs)
          replace K6 := Kn
          (try replace K5 := K5.extX xf n56)
          have E := E.trans ef
          have hs := Nat.le_trans hs ef.size
          simp only [Act.put, List.setIfInBounds_toArray, List.set_cons_zero, List.set_cons_succ]
          change Exit.then _ _ _ _ _
          go_wp2
          go_meet
          exact ⟨b5, b6, rfl, rfl, Lib.hid K5, Lib.hid K6, (E.mono (Nat.le_of_eq hs0.out)).ext⟩
        refine (CE.out wa (HW.out.ext (E04.trans ((E.mono (Nat.le_of_eq hs0.out)).ext)))).mono ?_
        rintro e wb ⟨rfl, eb⟩
        refine ⟨_, rfl, eb.toB hs, ?_⟩
        (try replace K5 := K5.ext eb)
        (try replace K6 := K6.ext eb)
        have E := E.trans (eb.toB hs)
        have hs := Nat.le_trans hs eb.size
        simp only [Act.put, List.setIfInBounds_toArray, List.set_cons_zero, List.set_cons_succ]
        refine wpS_alloc (some 5) { dst := some 5, op := Op.alloc 30, type := _, pos := _, after := _, guard := none } _ _ rfl rfl (by rfl) (by go_simp; try with_reducible rfl) ?_ ?_ trivial
        exact fun w' h => h.toB hs
        intro b5 wc hb ec K5
        have g5 : s ≤ b5 := by omega
        (try have n56 : b5 ≠ b6 := by (have := K6.lt; omega))
        clear hb
        (try replace K6 := K6.ext ec)
        have E := E.trans (ec.toB hs)
        have hs := Nat.le_trans hs ec.size
        simp only [Act.put, List.setIfInBounds_toArray, List.set_cons_zero, List.set_cons_succ]
        refine wpS_storeL none { dst := none, op := Op.store 30 (Operand.tmp 5) (Operand.tmp 25), type := _, pos := _, after := _, guard := none } rfl rfl (by rfl) (.tmp 5) (.tmp 25) 30 rfl rfl rfl rfl K5 rfl (Nat.le_refl 6) rfl (fun w' x => x.toB (fun k hk => by have hk : k = b5 := hk; omega) hs) ?_ trivial
        intro we Kn xe
        (have ee := xe.toB (B := s) (fun k hk => by have hk : k = b5 := hk; omega) hs)
        replace K5 := Kn
        (try replace K6 := K6.extX xe n56.symm)
        have E := E.trans ee
        have hs := Nat.le_trans hs ee.size
        simp only [Act.put, List.setIfInBounds_toArray, List.set_cons_zero, List.set_cons_succ]
        refine wpS_store none { dst := none, op := Op.store 30 (Operand.tmp 6) (Operand.tmp 28), type := _, pos := _, after := _, guard := none } rfl rfl (by rfl) (.tmp 6) (.tmp 28) 30 rfl rfl rfl rfl K6 rfl (Nat.le_refl 6) rfl ?_
        intro wf Kn xf
        (have ef := xf.toB (B := s) (fun k hk => by have hk : k = b6 := hk; omega) hs)
        replace K6 := Kn
        (try replace K5 := K5.extX xf n56)
        have E := E.trans ef
        have hs := Nat.le_trans hs ef.size
        simp only [Act.put, List.setIfInBounds_toArray, List.set_cons_zero, List.set_cons_succ]
        change Exit.then _ _ _ _ _
        go_wp2
        go_meet
        exact ⟨b5, b6, rfl, rfl, Lib.hid K5, Lib.hid K6, (E.mono (Nat.le_of_eq hs0.out)).ext⟩
      exact fun w' h => h.toB hs
      intro b5 wc hb ec K5
      have g5 : s ≤ b5 := by omega
      (try have n56 : b5 ≠ b6 := by (have := K6.lt; omega))
      clear hb
      (try replace K6 := K6.ext ec)
      have E := E.trans (ec.toB hs)
      have hs := Nat.le_trans hs ec.size
      simp only [Act.put, List.setIfInBounds_toArray, List.set_cons_zero, List.set_cons_succ]
      refine wpS_callm (some 25) { dst := some 25, op := Op.call { callee := Callee.value (Operand.func 11), args := #[Operand.tmp 23, Operand.tmp 24], argTypes := #[24, 26] }, type := _, pos := _, after := _, guard := none } 11 _ rfl rfl (by rfl) (by go_simp; try with_reducible rfl) ?_ ?_
      rotate_right
      · skip
        refine wpS_alloc (some 6) { dst := some 6, op := Op.alloc 30, type := _, pos := _, after := _, guard := none } _ _ rfl rfl (by rfl) (by go_simp; try with_reducible rfl) ?_ ?_ trivial
        exact fun w' h => h.toB hs
        intro b6 wd hb ed K6
        have g6 : s ≤ b6 := by omega
        (try have n56 : b5 ≠ b6 := by (have := K5.lt; omega))
        clear hb
        (try replace K5 := K5.ext ed)
        have E := E.trans (ed.toB hs)
        have hs := Nat.le_trans hs ed.size
        simp only [Act.put, List.setIfInBounds_toArray, List.set_cons_zero, List.set_cons_succ]
        refine wpS_callm (some 25) { dst := some 25, op := Op.call { callee := Callee.value (Operand.func 11), args := #[Operand.tmp 23, Operand.tmp 24], argTypes := #[24, 26] }, type := _, pos := _, after := _, guard := none } 11 _ rfl rfl (by rfl) (by go_simp; try with_reducible rfl) ?_ trivial
        refine (implValidate_any g A n cap cv tw wd HOK.out (HW.out.ext (E04.trans ((E.mono (Nat.le_of_eq hs0.out)).ext))) hcv.out).mono ?_
        rintro e wa ⟨rfl, ea⟩
        refine ⟨_, rfl, ea.toB hs, ?_⟩
        (try replace K5 := K5.ext ea)
        (try replace K6 := K6.ext ea)
        have E := E.trans (ea.toB hs)
        have hs := Nat.le_trans hs ea.size
        simp only [Act.put, List.setIfInBounds_toArray, List.set_cons_zero, List.set_cons_succ]
        refine wpS_callm (some 28) { dst := some 28, op := Op.call { callee := Callee.value (Operand.func 12), args := #[Operand.tmp 26, Operand.tmp 27], argTypes := #[24, 26] }, type := _, pos := _, after := _, guard := none } 12 _ rfl rfl (by rfl) (by go_simp; try with_reducible rfl) ?_ trivial
        refine (CE.out wa (HW.out.ext (E04.trans ((E.mono (Nat.le_of_eq hs0.out)).ext)))).mono ?_
        rintro e wb ⟨rfl, eb⟩
        refine ⟨_, rfl, eb.toB hs, ?_⟩
        (try replace K5 := K5.ext eb)
        (try replace K6 := K6.ext eb)
        have E := E.trans (eb.toB hs)
        have hs := Nat.le_trans hs eb.size
        simp only [Act.put, List.setIfInBounds_toArray, List.set_cons_zero, List.set_cons_succ]
        refine wpS_storeL none { dst := none, op := Op.store 30 (Operand.tmp 5) (Operand.tmp 25), type := _, pos := _, after := _, guard := none } rfl rfl (by rfl) (.tmp 5) (.tmp 25) 30 rfl rfl rfl rfl K5 rfl (Nat.le_refl 6) rfl (fun w' x => x.toB (fun k hk => by have hk : k = b5 := hk; omega) hs) ?_ trivial
        intro we Kn xe
        (have ee := xe.toB (B := s) (fun k hk => by have hk : k = b5 := hk; omega) hs)
        replace K5 := Kn
        (try replace K6 := K6.extX xe n56.symm)
        have E := E.trans ee
        have hs := Nat.le_trans hs ee.size
        simp only [Act.put, List.setIfInBounds_toArray, List.set_cons_zero, List.set_cons_succ]
        refine wpS_store none { dst := none, op := Op.store 30 (Operand.tmp 6) (Operand.tmp 28), type := _, pos := _, after := _, guard := none } rfl rfl (by rfl) (.tmp 6) (.tmp 28) 30 rfl rfl rfl rfl K6 rfl (Nat.le_refl 6) rfl ?_
        intro wf Kn xf
        (have ef := xf.toB (B := s) (fun k hk => by have hk : k = b6 := hk; omega) hs)
        replace K6 := Kn
        (try replace K5 := K5.extX xf n56)
        have E := E.trans ef
        have hs := Nat.le_trans hs ef.size
        simp only [Act.put, List.setIfInBounds_toArray, List.set_cons_zero, List.set_cons_succ]
        change Exit.then _ _ _ _ _
        go_wp2
        go_meet
        exact ⟨b5, b6, rfl, rfl, Lib.hid K5, Lib.hid K6, (E.mono (Nat.le_of_eq hs0.out)).ext⟩
      refine (implValidate_any g A n cap cv tw wc HOK.out (HW.out.ext (E04.trans ((E.mono (Nat.le_of_eq hs0.out)).ext))) hcv.out).mono ?_
      rintro e wa ⟨rfl, ea⟩
      refine ⟨_, rfl, ea.toB hs, ?_⟩
      (try replace K5 := K5.ext ea)
      (try replace K6 := K6.ext ea)
      have E := E.trans (ea.toB hs)
      have hs := Nat.le_trans hs ea.size
      simp only [Act.put, List.setIfInBounds_toArray, List.set_cons_zero, List.set_cons_succ]
      refine wpS_callm (some 28) { dst := some 28, op := Op.call { callee := Callee.value (Operand.func 12), args := #[Operand.tmp 26, Operand.tmp 27], argTypes := #[24, 26] }, type := _, pos := _, after := _, guard := none } 12 _ rfl rfl (by rfl) (by go_simp; try with_reducible rfl) ?_ ?_
      rotate_right
      · skip
        refine wpS_alloc (some 6) { dst := some 6, op := Op.alloc 30, type := _, pos := _, after := _, guard := none } _ _ rfl rfl (by rfl) (by go_simp; try with_reducible rfl) ?_ ?_ trivial
        exact fun w' h => h.toB hs
        intro b6 wd hb ed K6
        have g6 : s ≤ b6 := by omega
        (try have n56 : b5 ≠ b6 := by (have := K5.lt; omega))
        clear hb
        (try replace K5 := K5.ext ed)
        have E := E.trans (ed.toB hs)
        have hs := Nat.le_trans hs ed.size
        simp only [Act.put, List.setIfInBounds_toArray, List.set_cons_zero, List.set_cons_succ]
        refine wpS_callm (some 28) { dst := some 28, op := Op.call { callee := Callee.value (Operand.func 12), args := #[Operand.tmp 26, Operand.tmp 27], argTypes := #[24, 26] }, type := _, pos := _, after := _, guard := none } 12 _ rfl rfl (by rfl) (by go_simp; try with_reducible rfl) ?_ trivial
        refine (CE.out wd (HW.out.ext (E04.trans ((E.mono (Nat.le_of_eq hs0.out)).ext)))).mono ?_
        rintro e wb ⟨rfl, eb⟩
        refine ⟨_, rfl, eb.toB hs, ?_⟩
        (try replace K5 := K5.ext eb)
        (try replace K6 := K6.ext eb)
        have E := E.trans (eb.toB hs)
        have hs := Nat.le_trans hs eb.size
        simp only [Act.put, List.setIfInBounds_toArray, List.set_cons_zero, List.set_cons_succ]
        refine wpS_storeL none { dst := none, op := Op.store 30 (Operand.tmp 5) (Operand.tmp 25), type := _, pos := _, after := _, guard := none } rfl rfl (by rfl) (.tmp 5) (.tmp 25) 30 rfl rfl rfl rfl K5 rfl (Nat.le_refl 6) rfl (fun w' x => x.toB (fun k hk => by have hk : k = b5 := hk; omega) hs) ?_ trivial
        intro we Kn xe
        (have ee := xe.toB (B := s) (fun k hk => by have hk : k = b5 := hk; omega) hs)
        replace K5 := Kn
        (try replace K6 := K6.extX xe n56.symm)
        have E := E.trans ee
        have hs := Nat.le_trans hs ee.size
        simp only [Act.put, List.setIfInBounds_toArray, List.set_cons_zero, List.set_cons_succ]
        refine wpS_store none { dst := none, op := Op.store 30 (Operand.tmp 6) (Operand.tmp 28), type := _, pos := _, after := _, guard := none } rfl rfl (by rfl) (.tmp 6) (.tmp 28) 30 rfl rfl rfl rfl K6 rfl (Nat.le_refl 6) rfl ?_
        intro wf Kn xf
        (have ef := xf.toB (B := s) (fun k hk => by have hk : k = b6 := hk; omega) hs)
        replace K6 := Kn
        (try replace K5 := K5.extX xf n56)
        have E := E.trans ef
        have hs := Nat.le_trans hs ef.size
        simp only [Act.put, List.setIfInBounds_toArray, List.set_cons_zero, List.set_cons_succ]
        change Exit.then _ _ _ _ _
        go_wp2
        go_meet
        exact ⟨b5, b6, rfl, rfl, Lib.hid K5, Lib.hid K6, (E.mono (Nat.le_of_eq hs0.out)).ext⟩
      refine (CE.out wa (HW.out.ext (E04.trans ((E.mono (Nat.le_of_eq hs0.out)).ext)))).mono ?_
      rintro e wb ⟨rfl, eb⟩
      refine ⟨_, rfl, eb.toB hs, ?_⟩
      (try replace K5 := K5.ext eb)
      (try replace K6 := K6.ext eb)
      have E := E.trans (eb.toB hs)
      have hs := Nat.le_trans hs eb.size
      simp only [Act.put, List.setIfInBounds_toArray, List.set_cons_zero, List.set_cons_succ]
      refine wpS_alloc (some 6) { dst := some 6, op := Op.alloc 30, type := _, pos := _, after := _, guard := none } _ _ rfl rfl (by rfl) (by go_simp; try with_reducible rfl) ?_ ?_ trivial
      exact fun w' h => h.toB hs
      intro b6 wd hb ed K6
      have g6 : s ≤ b6 := by omega
      (try have n56 : b5 ≠ b6 := by (have := K5.lt; omega))
      clear hb
      (try replace K5 := K5.ext ed)
      have E := E.trans (ed.toB hs)
      have hs := Nat.le_trans hs ed.size
      simp only [Act.put, List.setIfInBounds_toArray, List.set_cons_zero, List.set_cons_succ]
      refine wpS_storeL none { dst := none, op := Op.store 30 (Operand.tmp 5) (Operand.tmp 25), type := _, pos := _, after := _, guard := none } rfl rfl (by rfl) (.tmp 5) (.tmp 25) 30 rfl rfl rfl rfl K5 rfl (Nat.le_refl 6) rfl (fun w' x => x.toB (fun k hk => by have hk : k = b5 := hk; omega) hs) ?_ trivial
      intro we Kn xe
      (have ee := xe.toB (B := s) (fun k hk => by have hk : k = b5 := hk; omega) hs)
      replace K5 := Kn
      (try replace K6 := K6.extX xe n56.symm)
      have E := E.trans ee
      have hs := Nat.le_trans hs ee.size
      simp only [Act.put, List.setIfInBounds_toArray, List.set_cons_zero, List.set_cons_succ]
      refine wpS_store none { dst := none, op := Op.store 30 (Operand.tmp 6) (Operand.tmp 28), type := _, pos := _, after := _, guard := none } rfl rfl (by rfl) (.tmp 6) (.tmp 28) 30 rfl rfl rfl rfl K6 rfl (Nat.le_refl 6) rfl ?_
      intro wf Kn xf
      (have ef := xf.toB (B := s) (fun k hk => by have hk : k = b6 := hk; omega) hs)
      replace K6 := Kn
      (try replace K5 := K5.extX xf n56)
      have E := E.trans ef
      have hs := Nat.le_trans hs ef.size
      simp only [Act.put, List.setIfInBounds_toArray, List.set_cons_zero, List.set_cons_succ]
      change Exit.then _ _ _ _ _
      go_wp2
      go_meet
      exact ⟨b5, b6, rfl, rfl, Lib.hid K5, Lib.hid K6, (E.mono (Nat.le_of_eq hs0.out)).ext⟩
    refine (implValidate_any g A n cap cv tw w4.drew HOK.out (HW.out.ext (E04.trans ((E.mono (Nat.le_of_eq hs0.out)).ext))) hcv.out).mono ?_
    rintro e wa ⟨rfl, ea⟩
    refine ⟨_, rfl, ea.toB hs, ?_⟩
    (try replace K5 := K5.ext ea)
    (try replace K6 := K6.ext ea)
    have E := E.trans (ea.toB hs)
    have hs := Nat.le_trans hs ea.size
    simp only [Act.put, List.setIfInBounds_toArray, List.set_cons_zero, List.set_cons_succ]
    refine wpS_callm (some 28) { dst := some 28, op := Op.call { callee := Callee.value (Operand.func 12), args := #[Operand.tmp 26, Operand.tmp 27], argTypes := #[24, 26] }, type := _, pos := _, after := _, guard := none } 12 _ rfl rfl (by rfl) (by go_simp; try with_reducible rfl) ?_ ?_
    rotate_right
    · skip
      refine wpS_alloc (some 5) { dst := some 5, op := Op.alloc 30, type := _, pos := _, after := _, guard := none } _ _ rfl rfl (by rfl) (by go_simp; try with_reducible rfl) ?_ ?_ ?_
      rotate_right
      · skip
        refine wpS_alloc (some 6) { dst := some 6, op := Op.alloc 30, type := _, pos := _, after := _, guard := none } _ _ rfl rfl (by rfl) (by go_simp; try with_reducible rfl) ?_ ?_ trivial
        exact fun w' h => h.toB hs
        intro b6 wd hb ed K6
        have g6 : s ≤ b6 := by omega
        (try have n56 : b5 ≠ b6 := by (have := K5.lt; omega))
        clear hb
        (try replace K5 := K5.ext ed)
        have E := E.trans (ed.toB hs)
        have hs := Nat.le_trans hs ed.size
        simp only [Act.put, List.setIfInBounds_toArray, List.set_cons_zero, List.set_cons_succ]
        refine wpS_callm (some 28) { dst := some 28, op := Op.call { callee := Callee.value (Operand.func 12), args := #[Operand.tmp 26, Operand.tmp 27], argTypes := #[24, 26] }, type := _, pos := _, after := _, guard := none } 12 _ rfl rfl (by rfl) (by go_simp; try with_reducible rfl) ?_ ?_
        rotate_right
        · skip
          refine wpS_alloc (some 5) { dst := some 5, op := Op.alloc 30, type := _, pos := _, after := _, guard := none } _ _ rfl rfl (by rfl) (by go_simp; try with_reducible rfl) ?_ ?_ trivial
          exact fun w' h => h.toB hs
          intro b5 wc hb ec K5
          have g5 : s ≤ b5 := by omega
          (try have n56 : b5 ≠ b6 := by (have := K6.lt; omega))
          clear hb
          (try replace K6 := K6.ext ec)
          have E := E.trans (ec.toB hs)
          have hs := Nat.le_trans hs ec.size
          simp only [Act.put, List.setIfInBounds_toArray, List.set_cons_zero, List.set_cons_succ]
          refine wpS_callm (some 28) { dst := some 28, op := Op.call { callee := Callee.value (Operand.func 12), args := #[Operand.tmp 26, Operand.tmp 27], argTypes := #[24, 26] }, type := _, pos := _, after := _, guard := none } 12 _ rfl rfl (by rfl) (by go_simp; try with_reducible rfl) ?_ trivial
          refine (CE.out wc (HW.out.ext (E04.trans ((E.mono (Nat.le_of_eq hs0.out)).ext)))).mono ?_
          rintro e wb ⟨rfl, eb⟩
          refine ⟨_, rfl, eb.toB hs, ?_⟩
          (try replace K5 := K5.ext eb)
          (try replace K6 := K6.ext eb)
          have E := E.trans (eb.toB hs)
          have hs := Nat.le_trans hs eb.size
          simp only [Act.put, List.setIfInBounds_toArray, List.set_cons_zero, List.set_cons_succ]
          refine wpS_storeL none { dst := none, op := Op.store 30 (Operand.tmp 5) (Operand.tmp 25), type := _, pos := _, after := _, guard := none } rfl rfl (by rfl) (.tmp 5) (.tmp 25) 30 rfl rfl rfl rfl K5 rfl (Nat.le_refl 6) rfl (fun w' x => x.toB (fun k hk => by have hk : k = b5 := hk; omega) hs) ?_ trivial
          intro we Kn xe
          (have ee := xe.toB (B := s) (fun k hk => by have hk : k = b5 := hk; omega) hs)
          replace K5 := Kn
          (try replace K6 := K6.extX xe n56.symm)
          have E := E.trans ee
          have hs := Nat.le_trans hs ee.size
          simp only [Act.put, List.setIfInBounds_toArray, List.set_cons_zero, List.set_cons_succ]
          refine wpS_store none { dst := none, op := Op.store 30 (Operand.tmp 6) (Operand.tmp 28), type := _, pos := _, after := _, guard := none } rfl rfl (by rfl) (.tmp 6) (.tmp 28) 30 rfl rfl rfl rfl K6 rfl (Nat.le_refl 6) rfl ?_
          intro wf Kn xf
          (have ef := xf.toB (B := s) (fun k hk => by have hk : k = b6 := hk; omega) hs)
          replace K6 := Kn
          (try replace K5 := K5.extX xf n56)
          have E := E.trans ef
          have hs := Nat.le_trans hs ef.size
          simp only [Act.put, List.setIfInBounds_toArray, List.set_cons_zero, List.set_cons_succ]
          change Exit.then _ _ _ _ _
          go_wp2
          go_meet
          exact ⟨b5, b6, rfl, rfl, Lib.hid K5, Lib.hid K6, (E.mono (Nat.le_of_eq hs0.out)).ext⟩
        refine (CE.out wd (HW.out.ext (E04.trans ((E.mono (Nat.le_of_eq hs0.out)).ext)))).mono ?_
        rintro e wb ⟨rfl, eb⟩
        refine ⟨_, rfl, eb.toB hs, ?_⟩
        (try replace K5 := K5.ext eb)
        (try replace K6 := K6.ext eb)
        have E := E.trans (eb.toB hs)
        have hs := Nat.le_trans hs eb.size
        simp only [Act.put, List.setIfInBounds_toArray, List.set_cons_zero, List.set_cons_succ]
        refine wpS_alloc (some 5) { dst := some 5, op := Op.alloc 30, type := _, pos := _, after := _, guard := none } _ _ rfl rfl (by rfl) (by go_simp; try with_reducible rfl) ?_ ?_ trivial
        exact fun w' h => h.toB hs
        intro b5 wc hb ec K5
        have g5 : s ≤ b5 := by omega
        (try have n56 : b5 ≠ b6 := by (have := K6.lt; omega))
        clear hb
        (try replace K6 := K6.ext ec)
        have E := E.trans (ec.toB hs)
        have hs := Nat.le_trans hs ec.size
        simp only [Act.put, List.setIfInBounds_toArray, List.set_cons_zero, List.set_cons_succ]
        refine wpS_storeL none { dst := none, op := Op.store 30 (Operand.tmp 5) (Operand.tmp 25), type := _, pos := _, after := _, guard := none } rfl rfl (by rfl) (.tmp 5) (.tmp 25) 30 rfl rfl rfl rfl K5 rfl (Nat.le_refl 6) rfl (fun w' x => x.toB (fun k hk => by have hk : k = b5 := hk; omega) hs) ?_ trivial
        intro we Kn xe
        (have ee := xe.toB (B := s) (fun k hk => by have hk : k = b5 := hk; omega) hs)
        replace K5 := Kn
        (try replace K6 := K6.extX xe n56.symm)
        have E := E.trans ee
        have hs := Nat.le_trans hs ee.size
        simp only [Act.put, List.setIfInBounds_toArray, List.set_cons_zero, List.set_cons_succ]
        refine wpS_store none { dst := none, op := Op.store 30 (Operand.tmp 6) (Operand.tmp 28), type := _, pos := _, after := _, guard := none } rfl rfl (by rfl) (.tmp 6) (.tmp 28) 30 rfl rfl rfl rfl K6 rfl (Nat.le_refl 6) rfl ?_
        intro wf Kn xf
        (have ef := xf.toB (B := s) (fun k hk => by have hk : k = b6 := hk; omega) hs)
        replace K6 := Kn
        (try replace K5 := K5.extX xf n56)
        have E := E.trans ef
        have hs := Nat.le_trans hs ef.size
        simp only [Act.put, List.setIfInBounds_toArray, List.set_cons_zero, List.set_cons_succ]
        change Exit.then _ _ _ _ _
        go_wp2
        go_meet
        exact ⟨b5, b6, rfl, rfl, Lib.hid K5, Lib.hid K6, (E.mono (Nat.le_of_eq hs0.out)).ext⟩
      exact fun w' h => h.toB hs
      intro b5 wc hb ec K5
      have g5 : s ≤ b5 := by omega
      (try have n56 : b5 ≠ b6 := by (have := K6.lt; omega))
      clear hb
      (try replace K6 := K6.ext ec)
      have E := E.trans (ec.toB hs)
      have hs := Nat.le_trans hs ec.size
      simp only [Act.put, List.setIfInBounds_toArray, List.set_cons_zero, List.set_cons_succ]
      refine wpS_callm (some 28) { dst := some 28, op := Op.call { callee := Callee.value (Operand.func 12), args := #[Operand.tmp 26, Operand.tmp 27], argTypes := #[24, 26] }, type := _, pos := _, after := _, guard := none } 12 _ rfl rfl (by rfl) (by go_simp; try with_reducible rfl) ?_ ?_
      rotate_right
      · skip
        refine wpS_alloc (some 6) { dst := some 6, op := Op.alloc 30, type := _, pos := _, after := _, guard := none } _ _ rfl rfl (by rfl) (by go_simp; try with_reducible rfl) ?_ ?_ trivial
        exact fun w' h => h.toB hs
        intro b6 wd hb ed K6
        have g6 : s ≤ b6 := by omega
        (try have n56 : b5 ≠ b6 := by (have := K5.lt; omega))
        clear hb
        (try replace K5 := K5.ext ed)
        have E := E.trans (ed.toB hs)
        have hs := Nat.le_trans hs ed.size
        simp only [Act.put, List.setIfInBounds_toArray, List.set_cons_zero, List.set_cons_succ]
        refine wpS_callm (some 28) { dst := some 28, op := Op.call { callee := Callee.value (Operand.func 12), args := #[Operand.tmp 26, Operand.tmp 27], argTypes := #[24, 26] }, type := _, pos := _, after := _, guard := none } 12 _ rfl rfl (by rfl) (by go_simp; try with_reducible rfl) ?_ trivial
        refine (CE.out wd (HW.out.ext (E04.trans ((E.mono (Nat.le_of_eq hs0.out)).ext)))).mono ?_
        rintro e wb ⟨rfl, eb⟩
        refine ⟨_, rfl, eb.toB hs, ?_⟩
        (try replace K5 := K5.ext eb)
        (try replace K6 := K6.ext eb)
        have E := E.trans (eb.toB hs)
        have hs := Nat.le_trans hs eb.size
        simp only [Act.put, List.setIfInBounds_toArray, List.set_cons_zero, List.set_cons_succ]
        refine wpS_storeL none { dst := none, op := Op.store 30 (Operand.tmp 5) (Operand.tmp 25), type := _, pos := _, after := _, guard := none } rfl rfl (by rfl) (.tmp 5) (.tmp 25) 30 rfl rfl rfl rfl K5 rfl (Nat.le_refl 6) rfl (fun w' x => x.toB (fun k hk => by have hk : k = b5 := hk; omega) hs) ?_ trivial
        intro we Kn xe
        (have ee := xe.toB (B := s) (fun k hk => by have hk : k = b5 := hk; omega) hs)
        replace K5 := Kn
        (try replace K6 := K6.extX xe n56.symm)
        have E := E.trans ee
        have hs := Nat.le_trans hs ee.size
        simp only [Act.put, List.setIfInBounds_toArray, List.set_cons_zero, List.set_cons_succ]
        refine wpS_store none { dst := none, op := Op.store 30 (Operand.tmp 6) (Operand.tmp 28), type := _, pos := _, after := _, guard := none } rfl rfl (by rfl) (.tmp 6) (.tmp 28) 30 rfl rfl rfl rfl K6 rfl (Nat.le_refl 6) rfl ?_
        intro wf Kn xf
        (have ef := xf.toB (B := s) (fun k hk => by have hk : k = b6 := hk; omega) hs)
        replace K6 := Kn
        (try replace K5 := K5.extX xf n56)
        have E := E.trans ef
        have hs := Nat.le_trans hs ef.size
        simp only [Act.put, List.setIfInBounds_toArray, List.set_cons_zero, List.set_cons_succ]
        change Exit.then _ _ _ _ _
        go_wp2
        go_meet
        exact ⟨b5, b6, rfl, rfl, Lib.hid K5, Lib.hid K6, (E.mono (Nat.le_of_eq hs0.out)).ext⟩
      refine (CE.out wc (HW.out.ext (E04.trans ((E.mono (Nat.le_of_eq hs0.out)).ext)))).mono ?_
      rintro e wb ⟨rfl, eb⟩
      refine ⟨_, rfl, eb.toB hs, ?_⟩
      (try replace K5 := K5.ext eb)
      (try replace K6 := K6.ext eb)
      have E := E.trans (eb.toB hs)
      have hs := Nat.le_trans hs eb.size
      simp only [Act.put, List.setIfInBounds_toArray, List.set_cons_zero, List.set_cons_succ]
      refine wpS_alloc (some 6) { dst := some 6, op := Op.alloc 30, type := _, pos := _, after := _, guard := none } _ _ rfl rfl (by rfl) (by go_simp; try with_reducible rfl) ?_ ?_ trivial
      exact fun w' h => h.toB hs
      intro b6 wd hb ed K6
      have g6 : s ≤ b6 := by omega
      (try have n56 : b5 ≠ b6 := by (have := K5.lt; omega))
      clear hb
      (try replace K5 := K5.ext ed)
      have E := E.trans (ed.toB hs)
      have hs := Nat.le_trans hs ed.size
      simp only [Act.put, List.setIfInBounds_toArray, List.set_cons_zero, List.set_cons_succ]
      refine wpS_storeL none { dst := none, op := Op.store 30 (Operand.tmp 5) (Operand.tmp 25), type := _, pos := _, after := _, guard := none } rfl rfl (by rfl) (.tmp 5) (.tmp 25) 30 rfl rfl rfl rfl K5 rfl (Nat.le_refl 6) rfl (fun w' x => x.toB (fun k hk => by have hk : k = b5 := hk; omega) hs) ?_ trivial
      intro we Kn xe
      (have ee := xe.toB (B := s) (fun k hk => by have hk : k = b5 := hk; omega) hs)
      replace K5 := Kn
      (try replace K6 := K6.extX xe n56.symm)
      have E := E.trans ee
      have hs := Nat.le_trans hs ee.size
      simp only [Act.put, List.setIfInBounds_toArray, List.set_cons_zero, List.set_cons_succ]
      refine wpS_store none { dst := none, op := Op.store 30 (Operand.tmp 6) (Operand.tmp 28), type := _, pos := _, after := _, guard := none } rfl rfl (by rfl) (.tmp 6) (.tmp 28) 30 rfl rfl rfl rfl K6 rfl (Nat.le_refl 6) rfl ?_
      intro wf Kn xf
      (have ef := xf.toB (B := s) (fun k hk => by have hk : k = b6 := hk; omega) hs)
      replace K6 := Kn
      (try replace K5 := K5.extX xf n56)
      have E := E.trans ef
      have hs := Nat.le_trans hs ef.size
      simp only [Act.put, List.setIfInBounds_toArray, List.set_cons_zero, List.set_cons_succ]
      change Exit.then _ _ _ _ _
      go_wp2
      go_meet
      exact ⟨b5, b6, rfl, rfl, Lib.hid K5, Lib.hid K6, (E.mono (Nat.le_of_eq hs0.out)).ext⟩
    refine (CE.out wa (HW.out.ext (E04.trans ((E.mono (Nat.le_of_eq hs0.out)).ext)))).mono ?_
    rintro e wb ⟨rfl, eb⟩
    refine ⟨_, rfl, eb.toB hs, ?_⟩
    (try replace K5 := K5.ext eb)
    (try replace K6 := K6.ext eb)
    have E := E.trans (eb.toB hs)
    have hs := Nat.le_trans hs eb.size
    simp only [Act.put, List.setIfInBounds_toArray, List.set_cons_zero, List.set_cons_succ]
    refine wpS_alloc (some 5) { dst := some 5, op := Op.alloc 30, type := _, pos := _, after := _, guard := none } _ _ rfl rfl (by rfl) (by go_simp; try with_reducible rfl) ?_ ?_ ?_
    rotate_right
    · skip
      refine wpS_alloc (some 6) { dst := some 6, op := Op.alloc 30, type := _, pos := _, after := _, guard := none } _ _ rfl rfl (by rfl) (by go_simp; try with_reducible rfl) ?_ ?_ trivial
      exact fun w' h => h.toB hs
      intro b6 wd hb ed K6
      have g6 : s ≤ b6 := by omega
      (try have n56 : b5 ≠ b6 := by (have := K5.lt; omega))
      clear hb
      (try replace K5 := K5.ext ed)
      have E := E.trans (ed.toB hs)
      have hs := Nat.le_trans hs ed.size
      simp only [Act.put, List.setIfInBounds_toArray, List.set_cons_zero, List.set_cons_succ]
      refine wpS_alloc (some 5) { dst := some 5, op := Op.alloc 30, type := _, pos := _, after := _, guard := none } _ _ rfl rfl (by rfl) (by go_simp; try with_reducible rfl) ?_ ?_ trivial
      exact fun w' h => h.toB hs
      intro b5 wc hb ec K5
      have g5 : s ≤ b5 := by omega
      (try have n56 : b5 ≠ b6 := by (have := K6.lt; omega))
      clear hb
      (try replace K6 := K6.ext ec)
      have E := E.trans (ec.toB hs)
      have hs := Nat.le_trans hs ec.size
      simp only [Act.put, List.setIfInBounds_toArray, List.set_cons_zero, List.set_cons_succ]
      refine wpS_storeL none { dst := none, op := Op.store 30 (Operand.tmp 5) (Operand.tmp 25), type := _, pos := _, after := _, guard := none } rfl rfl (by rfl) (.tmp 5) (.tmp 25) 30 rfl rfl rfl rfl K5 rfl (Nat.le_refl 6) rfl (fun w' x => x.toB (fun k hk => by have hk : k = b5 := hk; omega) hs) ?_ trivial
      intro we Kn xe
      (have ee := xe.toB (B := s) (fun k hk => by have hk : k = b5 := hk; omega) hs)
      replace K5 := Kn
      (try replace K6 := K6.extX xe n56.symm)
      have E := E.trans ee
      have hs := Nat.le_trans hs ee.size
      simp only [Act.put, List.setIfInBounds_toArray, List.set_cons_zero, List.set_cons_succ]
      refine wpS_store none { dst := none, op := Op.store 30 (Operand.tmp 6) (Operand.tmp 28), type := _, pos := _, after := _, guard := none } rfl rfl (by rfl) (.tmp 6) (.tmp 28) 30 rfl rfl rfl rfl K6 rfl (Nat.le_refl 6) rfl ?_
      intro wf Kn xf
      (have ef := xf.toB (B := s) (fun k hk => by have hk : k = b6 := hk; omega) hs)
      replace K6 := Kn
      (try replace K5 := K5.extX xf n56)
      have E := E.trans ef
      have hs := Nat.le_trans hs ef.size
      simp only [Act.put, List.setIfInBounds_toArray, List.set_cons_zero, List.set_cons_succ]
      change Exit.then _ _ _ _ _
      go_wp2
      go_meet
      exact ⟨b5, b6, rfl, rfl, Lib.hid K5, Lib.hid K6, (E.mono (Nat.le_of_eq hs0.out)).ext⟩
    exact fun w' h => h.toB hs
    intro b5 wc hb ec K5
    have g5 : s ≤ b5 := by omega
    (try have n56 : b5 ≠ b6 := by (have := K6.lt; omega))
    clear hb
    (try replace K6 := K6.ext ec)
    have E := E.trans (ec.toB hs)
    have hs := Nat.le_trans hs ec.size
    simp only [Act.put, List.setIfInBounds_toArray, List.set_cons_zero, List.set_cons_succ]
    refine wpS_alloc (some 6) { dst := some 6, op := Op.alloc 30, type := _, pos := _, after := _, guard := none } _ _ rfl rfl (by rfl) (by go_simp; try with_reducible rfl) ?_ ?_ trivial
    exact fun w' h => h.toB hs
    intro b6 wd hb ed K6
    have g6 : s ≤ b6 := by omega
    (try have n56 : b5 ≠ b6 := by (have := K5.lt; omega))
    clear hb
    (try replace K5 := K5.ext ed)
    have E := E.trans (ed.toB hs)
    have hs := Nat.le_trans hs ed.size
    simp only [Act.put, List.setIfInBounds_toArray, List.set_cons_zero, List.set_cons_succ]
    refine wpS_storeL none { dst := none, op := Op.store 30 (Operand.tmp 5) (Operand.tmp 25), type := _, pos := _, after := _, guard := none } rfl rfl (by rfl) (.tmp 5) (.tmp 25) 30 rfl rfl rfl rfl K5 rfl (Nat.le_refl 6) rfl (fun w' x => x.toB (fun k hk => by have hk : k = b5 := hk; omega) hs) ?_ trivial
    intro we Kn xe
    (have ee := xe.toB (B := s) (fun k hk => by have hk : k = b5 := hk; omega) hs)
    replace K5 := Kn
    (try replace K6 := K6.extX xe n56.symm)
    have E := E.trans ee
    have hs := Nat.le_trans hs ee.size
    simp only [Act.put, List.setIfInBounds_toArray, List.set_cons_zero, List.set_cons_succ]
    refine wpS_store none { dst := none, op := Op.store 30 (Operand.tmp 6) (Operand.tmp 28), type := _, pos := _, after := _, guard := none } rfl rfl (by rfl) (.tmp 6) (.tmp 28) 30 rfl rfl rfl rfl K6 rfl (Nat.le_refl 6) rfl ?_
    intro wf Kn xf
    (have ef := xf.toB (B := s) (fun k hk => by have hk : k = b6 := hk; omega) hs)
    replace K6 := Kn
    (try replace K5 := K5.extX xf n56)
    have E := E.trans ef
    have hs := Nat.le_trans hs ef.size
    simp only [Act.put, List.setIfInBounds_toArray, List.set_cons_zero, List.set_cons_succ]
    change Exit.then _ _ _ _ _
    go_wp2
    go_meet
    exact ⟨b5, b6, rfl, rfl, Lib.hid K5, Lib.hid K6, (E.mono (Nat.le_of_eq hs0.out)).ext⟩
  case rest =>
    obtain ⟨b5, b6, rfl, rfl, K5, K6, E5⟩ := hcut
    have E05 := E04.trans E5
    replace s0 := E5.cellS s0
    replace s1 := E5.cellS s1
    replace s2 := E5.cellS s2
    replace s3 := E5.cellS s3
    replace s4 := E5.cellS s4
    replace s5 := E5.cellS s5
    replace t0 := E5.cellS t0
    replace t1 := E5.cellS t1
    replace t2 := E5.cellS t2
    have a0 := K5.out.cell (o := 0) rfl
    have a1 := K5.out.cell (o := 1) rfl
    have a2 := K5.out.cell (o := 2) rfl
    have a3 := K5.out.cell (o := 3) rfl
    have a4 := K5.out.cell (o := 4) rfl
    have a5 := K5.out.cell (o := 5) rfl
    have c0 := K6.out.cell (o := 0) rfl
    have c1 := K6.out.cell (o := 1) rfl
    have c2 := K6.out.cell (o := 2) rfl
    have c3 := K6.out.cell (o := 3) rfl
    have c4 := K6.out.cell (o := 4) rfl
    have c5 := K6.out.cell (o := 5) rfl
    clear hs0
    go_wp2_with fail
    have q1 := vote_eql (vErr (validD cv tw g.down))
    have q2 := vote_eql x2
    refine wp_region_sched (ops := ops_3_6) Ext [] (.quiet 0 (.quiet 1 (.quiet 2 (.loud 3 (.quiet 4 (.quiet 5 (.quiet 6 (.quiet 7 (.quiet 8 (.loud 9 (.quiet 10 (.quiet 11 (.quiet 12 (.loud 13 (.quiet 14 (.quiet 15 (.done))) (.stop))))) (.stop))))))) (.stop))))) (by kernel_rfl) ext_refl ext_trans (by kernel_rfl) (fun _ _ d _ _ h => by cases d <;> exact h) ?_
    refine wpS_quiet (some 29) { dst := some 29, op := Op.load 30 (Operand.tmp 5), type := _, pos := _, after := _, guard := none } _ rfl rfl (by rfl) (fun wE hE => by (have zk0 := hE.cellS s0; have zk1 := hE.cellS s1; have zk2 := hE.cellS s2; have zk3 := hE.cellS s3; have zk4 := hE.cellS s4; have zk5 := hE.cellS s5; have zk6 := hE.cellS t0; have zk7 := hE.cellS t1; have zk8 := hE.cellS t2; have zk9 := hE.cellS a0; have zk10 := hE.cellS a1; have zk11 := hE.cellS a2; have zk12 := hE.cellS a3; have zk13 := hE.cellS a4; have zk14 := hE.cellS a5; go_simp; try with_reducible rfl)) ?_; simp only [Act.put, List.setIfInBounds_toArray, List.set_cons_zero, List.set_cons_succ]
    refine wpS_quiet (some 30) { dst := some 30, op := Op.load 24 (Operand.tmp 2), type := _, pos := _, after := _, guard := none } _ rfl rfl (by rfl) (fun wE hE => by (have zk0 := hE.cellS s0; have zk1 := hE.cellS s1; have zk2 := hE.cellS s2; have zk3 := hE.cellS s3; have zk4 := hE.cellS s4; have zk5 := hE.cellS s5; have zk6 := hE.cellS t0; have zk7 := hE.cellS t1; have zk8 := hE.cellS t2; have zk9 := hE.cellS a0; have zk10 := hE.cellS a1; have zk11 := hE.cellS a2; have zk12 := hE.cellS a3; have zk13 := hE.cellS a4; have zk14 := hE.cellS a5; go_simp; try with_reducible rfl)) ?_; simp only [Act.put, List.setIfInBounds_toArray, List.set_cons_zero, List.set_cons_succ]
    refine wpS_quiet (some 31) { dst := some 31, op := Op.load 26 (Operand.tmp 3), type := _, pos := _, after := _, guard := none } _ rfl rfl (by rfl) (fun wE hE => by (have zk0 := hE.cellS s0; have zk1 := hE.cellS s1; have zk2 := hE.cellS s2; have zk3 := hE.cellS s3; have zk4 := hE.cellS s4; have zk5 := hE.cellS s5; have zk6 := hE.cellS t0; have zk7 := hE.cellS t1; have zk8 := hE.cellS t2; have zk9 := hE.cellS a0; have zk10 := hE.cellS a1; have zk11 := hE.cellS a2; have zk12 := hE.cellS a3; have zk13 := hE.cellS a4; have zk14 := hE.cellS a5; go_simp; try with_reducible rfl)) ?_; simp only [Act.put, List.setIfInBounds_toArray, List.set_cons_zero, List.set_cons_succ]
    refine wpS_call (some 32) { dst := some 32, op := Op.call { callee := Callee.value (Operand.func 13), args := #[Operand.tmp 30, Operand.tmp 31], argTypes := #[24, 26] }, type := _, pos := _, after := _, guard := none } 13 _ rfl rfl (by rfl) (by go_simp; try first | with_reducible rfl | exact ⟨rfl, rfl⟩) ?_
    refine (specValidate_any g A n cap cv tw _ HOK.out hcv.out).mono ?_; rintro e y1 ⟨rfl, f1⟩; refine ⟨_, rfl, f1, ?_⟩; simp only [Act.put, List.setIfInBounds_toArray, List.set_cons_zero, List.set_cons_succ]
    have E06 := E05.trans f1.undrew
    replace c0 := f1.undrew.cellS c0
    replace c1 := f1.undrew.cellS c1
    replace c2 := f1.undrew.cellS c2
    replace c3 := f1.undrew.cellS c3
    replace c4 := f1.undrew.cellS c4
    replace c5 := f1.undrew.cellS c5
    replace s0 := f1.undrew.cellS s0
    replace s1 := f1.undrew.cellS s1
    replace s2 := f1.undrew.cellS s2
    replace s3 := f1.undrew.cellS s3
    replace s4 := f1.undrew.cellS s4
    replace s5 := f1.undrew.cellS s5
    replace t0 := f1.undrew.cellS t0
    replace t1 := f1.undrew.cellS t1
    replace t2 := f1.undrew.cellS t2
    refine wpS_quiet (some 33) { dst := some 33, op := Op.binOp BinOp.eql 30 (Operand.tmp 29) (Operand.tmp 32) 30, type := _, pos := _, after := _, guard := none } _ rfl rfl (by rfl) (fun wE hE => by (go_simp; try with_reducible rfl)) ?_; simp only [Act.put, List.setIfInBounds_toArray, List.set_cons_zero, List.set_cons_succ]
    refine wpS_quiet (some 34) { dst := some 34, op := Op.move (Operand.tmp 33), type := _, pos := _, after := _, guard := none } _ rfl rfl (by rfl) (fun wE hE => by (go_simp; try with_reducible rfl)) ?_; simp only [Act.put, List.setIfInBounds_toArray, List.set_cons_zero, List.set_cons_succ]
    (first | refine wpS_quiet (some 35) { dst := some 35, op := Op.load 30 (Operand.tmp 6), type := _, pos := _, after := _, guard := some (5, true) } _ rfl rfl (by rfl) (fun wE hE => by (have zk0 := hE.cellS s0; have zk1 := hE.cellS s1; have zk2 := hE.cellS s2; have zk3 := hE.cellS s3; have zk4 := hE.cellS s4; have zk5 := hE.cellS s5; have zk6 := hE.cellS t0; have zk7 := hE.cellS t1; have zk8 := hE.cellS t2; have zk9 := hE.cellS c0; have zk10 := hE.cellS c1; have zk11 := hE.cellS c2; have zk12 := hE.cellS c3; have zk13 := hE.cellS c4; have zk14 := hE.cellS c5; go_simp; try with_reducible rfl)) ?_ | refine wpS_pass (some 35) _ rfl rfl (by rfl) ?_); simp only [Act.put, List.setIfInBounds_toArray, List.set_cons_zero, List.set_cons_succ]
    (first | refine wpS_quiet (some 36) { dst := some 36, op := Op.load 24 (Operand.tmp 2), type := _, pos := _, after := _, guard := some (5, true) } _ rfl rfl (by rfl) (fun wE hE => by (have zk0 := hE.cellS s0; have zk1 := hE.cellS s1; have zk2 := hE.cellS s2; have zk3 := hE.cellS s3; have zk4 := hE.cellS s4; have zk5 := hE.cellS s5; have zk6 := hE.cellS t0; have zk7 := hE.cellS t1; have zk8 := hE.cellS t2; have zk9 := hE.cellS c0; have zk10 := hE.cellS c1; have zk11 := hE.cellS c2; have zk12 := hE.cellS c3; have zk13 := hE.cellS c4; have zk14 := hE.cellS c5; go_simp; try with_reducible rfl)) ?_ | refine wpS_pass (some 36) _ rfl rfl (by rfl) ?_); simp only [Act.put, List.setIfInBounds_toArray, List.set_cons_zero, List.set_cons_succ]
    (first | refine wpS_quiet (some 37) { dst := some 37, op := Op.load 26 (Operand.tmp 3), type := _, pos := _, after := _, guard := some (5, true) } _ rfl rfl (by rfl) (fun wE hE => by (have zk0 := hE.cellS s0; have zk1 := hE.cellS s1; have zk2 := hE.cellS s2; have zk3 := hE.cellS s3; have zk4 := hE.cellS s4; have zk5 := hE.cellS s5; have zk6 := hE.cellS t0; have zk7 := hE.cellS t1; have zk8 := hE.cellS t2; have zk9 := hE.cellS c0; have zk10 := hE.cellS c1; have zk11 := hE.cellS c2; have zk12 := hE.cellS c3; have zk13 := hE.cellS c4; have zk14 := hE.cellS c5; go_simp; try with_reducible rfl)) ?_ | refine wpS_pass (some 37) _ rfl rfl (by rfl) ?_); simp only [Act.put, List.setIfInBounds_toArray, List.set_cons_zero, List.set_cons_succ]
    refine wpS_call (some 38) { dst := some 38, op := Op.call { callee := Callee.value (Operand.func 14), args := #[Operand.tmp 36, Operand.tmp 37], argTypes := #[24, 26] }, type := _, pos := _, after := _, guard := some (5, true) } 14 _ rfl rfl (by rfl) (by go_simp; try first | with_reducible rfl | exact ⟨rfl, rfl⟩) ?_
    refine (SE.out _).mono ?_; rintro e y2 ⟨rfl, f2⟩; refine ⟨_, rfl, f2, ?_⟩; simp only [Act.put, List.setIfInBounds_toArray, List.set_cons_zero, List.set_cons_succ]
    have E07 := E06.trans f2
    (first | refine wpS_quiet (some 39) { dst := some 39, op := Op.binOp BinOp.eql 30 (Operand.tmp 35) (Operand.tmp 38) 30, type := _, pos := _, after := _, guard := some (5, true) } _ rfl rfl (by rfl) (fun wE hE => by (go_simp; try with_reducible rfl)) ?_ | refine wpS_pass (some 39) _ rfl rfl (by rfl) ?_); simp only [Act.put, List.setIfInBounds_toArray, List.set_cons_zero, List.set_cons_succ]
    refine wpS_quiet (some 40) { dst := some 40, op := Op.pick (Operand.tmp 34) (Operand.tmp 39) (Operand.const (Value.bool false)), type := _, pos := _, after := _, guard := none } _ rfl rfl (by rfl) (fun wE hE => by (go_simp; try with_reducible rfl)) ?_; simp only [Act.put, List.setIfInBounds_toArray, List.set_cons_zero, List.set_cons_succ]
    refine wpS_quiet (some 41) { dst := some 41, op := Op.move (Operand.tmp 40), type := _, pos := _, after := _, guard := none } _ rfl rfl (by rfl) (fun wE hE => by (go_simp; try with_reducible rfl)) ?_; simp only [Act.put, List.setIfInBounds_toArray, List.set_cons_zero, List.set_cons_succ]
    refine wpS_call (some 42) { dst := some 42, op := Op.call { callee := Callee.value (Operand.func 15), args := #[], argTypes := #[] }, type := _, pos := _, after := _, guard := some (12, true) } 15 _ rfl rfl (by rfl) (by go_simp; try first | with_reducible rfl | exact ⟨rfl, rfl⟩) ?_
    refine (awake_any y2 (HW.out.ext E07)).mono ?_; rintro e y3 ⟨rfl, f3⟩; refine ⟨_, rfl, f3, ?_⟩; simp only [Act.put, List.setIfInBounds_toArray, List.set_cons_zero, List.set_cons_succ]
    refine wpS_quiet (some 43) { dst := some 43, op := Op.pick (Operand.tmp 41) (Operand.tmp 42) (Operand.const (Value.bool false)), type := _, pos := _, after := _, guard := none } _ rfl rfl (by rfl) (fun wE hE => by (go_simp; try with_reducible rfl)) ?_; simp only [Act.put, List.setIfInBounds_toArray, List.set_cons_zero, List.set_cons_succ]
    refine wpS_quiet (some 4) { dst := some 4, op := Op.assign (Operand.tmp 43), type := _, pos := _, after := _, guard := none } _ rfl rfl (by rfl) (fun wE hE => by (go_simp; try with_reducible rfl)) ?_; simp only [Act.put, List.setIfInBounds_toArray, List.set_cons_zero, List.set_cons_succ]
    change Exit.then _ _ _ _ _
    go_wp2
    go_ret
    exact ⟨rfl, E07.trans f3⟩
end Go.Proofs.YtdokcengcekfgaaDoor
