/-
  The specification's end of a downgrade (spec.DecideCancel).
-/
import Derived.Test.YtdokcengcekfgaaGreatDoorSDec
namespace Go.Proofs.YtdokcengcekfgaaGreatDoor
open Go.RowKit Go.Maps
set_option linter.unusedSimpArgs false
set_option linter.unusedVariables false

theorem ver_neq (a b : VD) (w : World) : (binOp .neq 29 (verV a) (verV b)).run Tryz.prog w = .ok (.bool (!veqV a b)) w := by
  obtain ⟨a1, a2, a3⟩ := a
  obtain ⟨b1, b2, b3⟩ := b
  by_cases h1 : a1 = b1 <;> by_cases h2 : a2 = b2 <;> by_cases h3 : a3 = b3 <;> (go_simp; simp [veqV, veq, h1, h2, h3])
theorem veqV_comm (a b : VD) : veqV a b = veqV b a := by
  rw [Bool.eq_iff_iff, veqV_iff, veqV_iff]
  exact eq_comm
theorem all_ok {ms : List ByteArray} {t : VD} (h : ∀ m ∈ ms, okFor t (verOfD m) = true) : matchD (ms.map verOfD) t = true := by
  unfold matchD
  rw [List.all_eq_true]
  intro x hx
  obtain ⟨m, hm, rfl⟩ := List.mem_map.1 hx
  exact h m hm
theorem ok_step {ms : List ByteArray} {k : Nat} {m : ByteArray} {t : VD} (hm : ms[k]? = some m) (h : ∀ m ∈ ms.take k, okFor t (verOfD m) = true) (hk : okFor t (verOfD m) = true) : ∀ m ∈ ms.take (k + 1), okFor t (verOfD m) = true := by
  intro x hx
  rw [List.take_add_one, hm] at hx
  simp only [Option.toList_some, List.mem_append, List.mem_singleton] at hx
  rcases hx with hx | rfl
  · exact h x hx
  · exact hk
noncomputable def ops_14_8 : Array Oper := opsAt Tryz.f14 8
set_option maxRecDepth 20000 in
set_option maxHeartbeats 4000000 in
theorem specCancel_any (g : GD) (A : Option Addr) (n cap : Nat) (w : World) (hn : n = g.members.length) (hm : (Rp.slice Rp.str).K w any g.members [.slice A n cap]) (hok : g.ok) :
    Calls Tryz.prog 14 #[gdV g A n cap] w (CancelAns g w) := by
  have hle : n ≤ 12 := by rw [hn]; exact hok.n
  obtain ⟨A', cap', hv, p1, p2, p3, hrow⟩ := hm
  simp only [List.cons.injEq, Value.slice.injEq, and_true] at hv
  obtain ⟨rfl, -, rfl⟩ := hv
  obtain ⟨gc, gs, gt, gd, gh, gm⟩ := g
  have HR := Lib.hid hrow
  have HN := Lib.hid (show n = gm.length from hn)
  clear hrow hn p1 p2 p3
  cases gd with
  | false =>
    clear hok
    cases gh with
    | false =>
      go_enter Tryz.func14, Tryz.ntmps14
      go_wp2
      refine bodyPost_ret (v := voteV vote0) (by simp [results, Tryz.results14, go_sem, vote0]) rfl ⟨rfl, ?_⟩
      exact ((Ext.refl w).alloc _).alloc _
    | true =>
      go_enter Tryz.func14, Tryz.ntmps14
      go_wp2
      refine bodyPost_ret (v := voteV vote0) (by simp [results, Tryz.results14, go_sem, vote0]) rfl ⟨rfl, ?_⟩
      exact ((Ext.refl w).alloc _).alloc _
  | true =>
    obtain ⟨htok, htg, hhd⟩ := hok.tgt rfl
    obtain rfl : gh = true := hhd
    have HG : Hid (cancelD ⟨gc, gs, gt, true, true, gm⟩ = matchD (gm.map verOfD) (GD.tv ⟨gc, gs, gt, true, true, gm⟩)) := Lib.hid rfl
    have htv : verOfD gt = some (GD.tv ⟨gc, gs, gt, true, true, gm⟩) := by
      have h : gt = vt (GD.tv ⟨gc, gs, gt, true, true, gm⟩) := htg
      generalize GD.tv ⟨gc, gs, gt, true, true, gm⟩ = tv at *
      rw [h]; exact verOfD_vt htok
    have lt : gt.size ≤ 2147483647 := by have : gt.size ≤ 20 := hok.t; omega
    have HS : Hid (∀ m ∈ gm, m.size ≤ 20) := Lib.hid (fun m hm => (hok.m m hm).le)
    clear hok htg
    generalize GD.tv ⟨gc, gs, gt, true, true, gm⟩ = tv at *
    obtain ⟨g, hg⟩ : ∃ g : GD, g = ⟨gc, gs, gt, true, true, gm⟩ := ⟨_, rfl⟩
    rw [← hg] at HG
    have hge : CancelAns ⟨gc, gs, gt, true, true, gm⟩ w = CancelAns g w := by rw [hg]
    rw [hge]
    replace hg := Lib.hid hg
    clear hge
    go_enter Tryz.func14, Tryz.ntmps14
    go_wp2_with fail
    obtain ⟨W, hW⟩ : ∃ W, W = (w.alloc (.cells #[.string gc, .string gs, .string gt, .bool true, .bool true, .slice A n cap] 24)).alloc (.cells (voteCells vote0).toArray 35) := ⟨_, rfl⟩
    have EW : Ext w W := by rw [hW]; exact ((Ext.refl w).alloc _).alloc _
    have KV : Blk W w.heap.size 24 (gdCells ⟨gc, gs, gt, true, true, gm⟩ A n cap) := by
      rw [hW]
      exact (Blk.new w 24 (gdCells ⟨gc, gs, gt, true, true, gm⟩ A n cap)).ext ((Ext.refl _).alloc _)
    have KR : Blk W (w.heap.size + 1) 35 (voteCells vote0) := by
      rw [hW]
      have := Blk.new (w.alloc (.cells (gdCells ⟨gc, gs, gt, true, true, gm⟩ A n cap).toArray 24)) 35 (voteCells vote0)
      rwa [World.size_alloc] at this
    change Calls _ _ _ ((w.alloc (.cells #[.string gc, .string gs, .string gt, .bool true, .bool true, .slice A n cap] 24)).alloc (.cells (voteCells vote0).toArray 35)) _
    rw [← hW]
    clear hW
    refine (verOf_any gt W lt).mono ?_
    rintro e w1 ⟨rfl, E1⟩
    rw [htv]
    replace htv := Lib.hid htv
    have hs1 : w.heap.size + 1 < w1.heap.size := (KR.ext E1).lt
    go_wp2_with fail
    obtain ⟨W1, hW1⟩ : ∃ W1, W1 = w1.alloc (.cells (verCells tv).toArray 29) := ⟨_, rfl⟩
    have EA : Ext W W1 := by rw [hW1]; exact E1.alloc _
    have KT : Blk W1 w1.heap.size 29 (verCells tv) := by rw [hW1]; exact Blk.new w1 _ _
    change Code.wp _ _ _ _ (w1.alloc (.cells (verCells tv).toArray 29))
    rw [← hW1]
    clear hW1
    go_loopw [5] (fun u wr => ∃ k : Nat, u = .int .i64 k ∧ k ≤ n ∧ Hid (∀ m ∈ gm.take k, okFor tv (verOfD m) = true) ∧ Ext W1 wr) (fun u _ => n - (intOf u).toNat)
    case atStart => exact ⟨0, rfl, Nat.zero_le _, Lib.hid (fun m hm => by simp at hm), Ext.refl _⟩
    case round =>
      obtain ⟨k, rfl, hk, hF, hE⟩ := hrel
      have E0 := EA.trans hE
      obtain ⟨s0, s1, s2, s3, s4, s5⟩ := gd_load (KV.ext E0)
      by_cases hlt : k < n
      · obtain ⟨m, hm⟩ : ∃ m, gm[k]? = some m := ⟨_, List.getElem?_eq_getElem (by have := HN.out; omega)⟩
        obtain ⟨ba, o, rfl, _⟩ := HR.out.addr (List.ne_nil_of_length_pos (by have := HN.out; omega))
        have c1 := str_at HR.out rfl hm (EW.trans E0)
        have HM := Lib.hid hm
        have h20 := HS.out m (List.mem_of_getElem? hm)
        clear hm
        go_wp2_with fail
        refine (verOf_any m wr (by omega)).mono ?_
        rintro e w2 ⟨rfl, E2⟩
        have E02 := E0.trans E2
        have hs2 : w1.heap.size < w2.heap.size := (KT.ext (hE.trans E2)).lt
        cases hv : verOfD m with
        | none =>
          have hno : Hid (matchD (gm.map verOfD) tv = false) := Lib.hid (match_no HM.out (by rw [hv]; rfl))
          replace hv := Lib.hid hv
          go_wp2_with fail
          obtain ⟨W3, hW3⟩ : ∃ W3, W3 = w2.alloc (.cells (verCells zeroV).toArray 29) := ⟨_, rfl⟩
          have E23 : Ext w2 W3 := by rw [hW3]; exact (Ext.refl _).alloc _
          change Code.wp _ _ _ _ (w2.alloc (.cells (verCells zeroV).toArray 29))
          rw [← hW3]
          clear hW3
          refine wp_region_sched (ops := ops_14_8) Ext [] (.quiet 0 (.quiet 1 (.quiet 2 (.quiet 3 (.quiet 5 (.loud 4 (.loud 6 (.quiet 7 (.quiet 8 (.done))) (.stop)) (.stop))))))) (by kernel_rfl) ext_refl ext_trans (by kernel_rfl) (fun _ _ d _ _ h => by cases d <;> exact h) ?_
          refine wpS_quiet (some 39) { dst := some 39, op := Op.move (Operand.tmp 7), type := _, pos := _, after := _, guard := none } _ rfl rfl (by rfl) (fun wE hE => by (go_simp; try with_reducible rfl)) ?_; simp only [Act.put, List.setIfInBounds_toArray, List.set_cons_zero, List.set_cons_succ]
          refine wpS_quiet (some 40) { dst := some 40, op := Op.unOp UnOp.not 4 (Operand.tmp 39), type := _, pos := _, after := _, guard := none } _ rfl rfl (by rfl) (fun wE hE => by (go_simp; try with_reducible rfl)) ?_; simp only [Act.put, List.setIfInBounds_toArray, List.set_cons_zero, List.set_cons_succ]
          refine wpS_quiet (some 41) { dst := some 41, op := Op.move (Operand.tmp 40), type := _, pos := _, after := _, guard := none } _ rfl rfl (by rfl) (fun wE hE => by (go_simp; try with_reducible rfl)) ?_; simp only [Act.put, List.setIfInBounds_toArray, List.set_cons_zero, List.set_cons_succ]
          (first | refine wpS_quiet (some 42) { dst := some 42, op := Op.load 29 (Operand.tmp 6), type := _, pos := _, after := _, guard := some (2, false) } _ rfl rfl (by rfl) (fun wE hE => by (go_simp; try with_reducible rfl)) ?_ | refine wpS_pass (some 42) _ rfl rfl (by rfl) ?_); simp only [Act.put, List.setIfInBounds_toArray, List.set_cons_zero, List.set_cons_succ]
          (first | refine wpS_quiet (some 44) { dst := some 44, op := Op.load 29 (Operand.tmp 3), type := _, pos := _, after := _, guard := some (2, false) } _ rfl rfl (by rfl) (fun wE hE => by (go_simp; try with_reducible rfl)) ?_ | refine wpS_pass (some 44) _ rfl rfl (by rfl) ?_); simp only [Act.put, List.setIfInBounds_toArray, List.set_cons_zero, List.set_cons_succ]
          refine wpS_loud_pass (ext_refl _) (some 43) _ rfl rfl (by rfl) ?_; simp only [Act.put, List.setIfInBounds_toArray, List.set_cons_zero, List.set_cons_succ]
          refine wpS_loud_pass (ext_refl _) (some 45) _ rfl rfl (by rfl) ?_; simp only [Act.put, List.setIfInBounds_toArray, List.set_cons_zero, List.set_cons_succ]
          (first | refine wpS_quiet (some 46) { dst := some 46, op := Op.binOp BinOp.neq 29 (Operand.tmp 43) (Operand.tmp 45) 29, type := _, pos := _, after := _, guard := some (2, false) } _ rfl rfl (by rfl) (fun wE hE => by (go_simp; try with_reducible rfl)) ?_ | refine wpS_pass (some 46) _ rfl rfl (by rfl) ?_); simp only [Act.put, List.setIfInBounds_toArray, List.set_cons_zero, List.set_cons_succ]
          refine wpS_quiet (some 47) { dst := some 47, op := Op.pick (Operand.tmp 41) (Operand.const (Value.bool true)) (Operand.tmp 46), type := _, pos := _, after := _, guard := none } _ rfl rfl (by rfl) (fun wE hE => by (go_simp; try with_reducible rfl)) ?_; simp only [Act.put, List.setIfInBounds_toArray, List.set_cons_zero, List.set_cons_succ]
          change Exit.then _ _ _ _ _
          have KR3 := KR.ext (E02.trans E23)
          go_wp2_with (refine wpList_store rfl rfl (.tmp 2) (.tmp 48) 35 rfl rfl rfl rfl KR3 rfl (Nat.le_of_ble_eq_true rfl) rfl ?_; intro w9 K9 x9)
          refine bodyPost_ret (results_cell_row rfl _ _ (w.heap.size + 1) _ _ (0, 0) _ rfl K9 Tryz.underlying35 rfl rfl) rfl ?_
          refine ⟨?_, ext_one EW (((E02.trans E23).toX _).trans x9) (by omega)⟩
          rw [HG.out, hno.out]
          rfl
        | some v =>
          have HV := Lib.hid hv
          clear hv
          go_wp2_with fail
          obtain ⟨W3, hW3⟩ : ∃ W3, W3 = w2.alloc (.cells (verCells v).toArray 29) := ⟨_, rfl⟩
          have E23 : Ext w2 W3 := by rw [hW3]; exact (Ext.refl _).alloc _
          have KX : Blk W3 w2.heap.size 29 (verCells v) := by rw [hW3]; exact Blk.new _ _ _
          change Code.wp _ _ _ _ (w2.alloc (.cells (verCells v).toArray 29))
          rw [← hW3]
          clear hW3
          obtain ⟨v0, v1, v2⟩ := V3.of KX
          obtain ⟨d0, d1, d2⟩ := V3.of (KT.ext ((hE.trans E2).trans E23))
          simp only [Nat.zero_add] at v1 v2 d1 d2
          have qb : ∀ w : World, (binOp .neq 29 (vv v.maj v.mnr 0) (vv tv.maj tv.mnr 0)).run Tryz.prog w = .ok (.bool (!veqV (base v) (base tv))) w := ver_neq (base v) (base tv)
          clear s0 s1 s2 s3 s4 s5 c1
          cases hb : veqV (base v) (base tv) with
          | false =>
            rw [hb] at qb
            simp only [Bool.not_false] at qb
            have hno : Hid (matchD (gm.map verOfD) tv = false) := Lib.hid (match_no HM.out (by rw [HV.out]; show veqV (base tv) (base v) = false; rw [veqV_comm]; exact hb))
            replace hb := Lib.hid hb
            refine wp_region_sched (ops := ops_14_8) Ext [] (.quiet 0 (.quiet 1 (.quiet 2 (.quiet 3 (.quiet 5 (.loud 4 (.loud 6 (.quiet 7 (.quiet 8 (.done))) (.stop)) (.stop))))))) (by kernel_rfl) ext_refl ext_trans (by kernel_rfl) (fun _ _ d _ _ h => by cases d <;> exact h) ?_
            refine wpS_quiet (some 39) { dst := some 39, op := Op.move (Operand.tmp 7), type := _, pos := _, after := _, guard := none } _ rfl rfl (by rfl) (fun wE hE => by (go_simp; try with_reducible rfl)) ?_; simp only [Act.put, List.setIfInBounds_toArray, List.set_cons_zero, List.set_cons_succ]
            refine wpS_quiet (some 40) { dst := some 40, op := Op.unOp UnOp.not 4 (Operand.tmp 39), type := _, pos := _, after := _, guard := none } _ rfl rfl (by rfl) (fun wE hE => by (go_simp; try with_reducible rfl)) ?_; simp only [Act.put, List.setIfInBounds_toArray, List.set_cons_zero, List.set_cons_succ]
            refine wpS_quiet (some 41) { dst := some 41, op := Op.move (Operand.tmp 40), type := _, pos := _, after := _, guard := none } _ rfl rfl (by rfl) (fun wE hE => by (go_simp; try with_reducible rfl)) ?_; simp only [Act.put, List.setIfInBounds_toArray, List.set_cons_zero, List.set_cons_succ]
            (first | refine wpS_quiet (some 42) { dst := some 42, op := Op.load 29 (Operand.tmp 6), type := _, pos := _, after := _, guard := some (2, false) } _ rfl rfl (by rfl) (fun wE hE => by (have zk0 := hE.cellS v0; have zk1 := hE.cellS v1; have zk2 := hE.cellS v2; have zk3 := hE.cellS d0; have zk4 := hE.cellS d1; have zk5 := hE.cellS d2; go_simp; try with_reducible rfl)) ?_ | refine wpS_pass (some 42) _ rfl rfl (by rfl) ?_); simp only [Act.put, List.setIfInBounds_toArray, List.set_cons_zero, List.set_cons_succ]
            (first | refine wpS_quiet (some 44) { dst := some 44, op := Op.load 29 (Operand.tmp 3), type := _, pos := _, after := _, guard := some (2, false) } _ rfl rfl (by rfl) (fun wE hE => by (have zk0 := hE.cellS v0; have zk1 := hE.cellS v1; have zk2 := hE.cellS v2; have zk3 := hE.cellS d0; have zk4 := hE.cellS d1; have zk5 := hE.cellS d2; go_simp; try with_reducible rfl)) ?_ | refine wpS_pass (some 44) _ rfl rfl (by rfl) ?_); simp only [Act.put, List.setIfInBounds_toArray, List.set_cons_zero, List.set_cons_succ]
            refine wpS_call (some 43) { dst := some 43, op := Op.call { callee := Callee.value (Operand.func 34), args := #[Operand.tmp 42], argTypes := #[29] }, type := _, pos := _, after := _, guard := some (2, false) } 34 _ rfl rfl (by rfl) (by go_simp; try first | with_reducible rfl | exact ⟨rfl, rfl⟩) ?_
            refine (specBase_any v.maj v.mnr v.pat _).mono ?_; rintro e w4 ⟨rfl, e4⟩; refine ⟨_, rfl, e4, ?_⟩; simp only [Act.put, List.setIfInBounds_toArray, List.set_cons_zero, List.set_cons_succ]
            refine wpS_call (some 45) { dst := some 45, op := Op.call { callee := Callee.value (Operand.func 34), args := #[Operand.tmp 44], argTypes := #[29] }, type := _, pos := _, after := _, guard := some (2, false) } 34 _ rfl rfl (by rfl) (by go_simp; try first | with_reducible rfl | exact ⟨rfl, rfl⟩) ?_
            refine (specBase_any tv.maj tv.mnr tv.pat _).mono ?_; rintro e w5 ⟨rfl, e5⟩; refine ⟨_, rfl, e5, ?_⟩; simp only [Act.put, List.setIfInBounds_toArray, List.set_cons_zero, List.set_cons_succ]
            (first | refine wpS_quiet (some 46) { dst := some 46, op := Op.binOp BinOp.neq 29 (Operand.tmp 43) (Operand.tmp 45) 29, type := _, pos := _, after := _, guard := some (2, false) } _ rfl rfl (by rfl) (fun wE hE => by (go_simp; try with_reducible rfl)) ?_ | refine wpS_pass (some 46) _ rfl rfl (by rfl) ?_); simp only [Act.put, List.setIfInBounds_toArray, List.set_cons_zero, List.set_cons_succ]
            refine wpS_quiet (some 47) { dst := some 47, op := Op.pick (Operand.tmp 41) (Operand.const (Value.bool true)) (Operand.tmp 46), type := _, pos := _, after := _, guard := none } _ rfl rfl (by rfl) (fun wE hE => by (go_simp; try with_reducible rfl)) ?_; simp only [Act.put, List.setIfInBounds_toArray, List.set_cons_zero, List.set_cons_succ]
            change Exit.then _ _ _ _ _
            have E25 : Ext W w5 := ((E02.trans E23).trans e4.undrew).trans e5
            have KR5 := KR.ext E25
            clear qb
            go_wp2_with (refine wpList_store rfl rfl (.tmp 2) (.tmp 48) 35 rfl rfl rfl rfl KR5 rfl (Nat.le_of_ble_eq_true rfl) rfl ?_; intro w9 K9 x9)
            refine bodyPost_ret (results_cell_row rfl _ _ (w.heap.size + 1) _ _ (0, 0) _ rfl K9 Tryz.underlying35 rfl rfl) rfl ?_
            refine ⟨?_, ext_one EW ((E25.toX _).trans x9) (by omega)⟩
            rw [HG.out, hno.out]
            rfl
          | true =>
            rw [hb] at qb
            simp only [Bool.not_true] at qb
            have hst := Lib.hid (ok_step HM.out hF.out (show okFor tv (verOfD m) = true by rw [HV.out]; show veqV (base tv) (base v) = true; rw [veqV_comm]; exact hb))
            replace hb := Lib.hid hb
            refine wp_region_sched (ops := ops_14_8) Ext [] (.quiet 0 (.quiet 1 (.quiet 2 (.quiet 3 (.quiet 5 (.loud 4 (.loud 6 (.quiet 7 (.quiet 8 (.done))) (.stop)) (.stop))))))) (by kernel_rfl) ext_refl ext_trans (by kernel_rfl) (fun _ _ d _ _ h => by cases d <;> exact h) ?_
            refine wpS_quiet (some 39) { dst := some 39, op := Op.move (Operand.tmp 7), type := _, pos := _, after := _, guard := none } _ rfl rfl (by rfl) (fun wE hE => by (go_simp; try with_reducible rfl)) ?_; simp only [Act.put, List.setIfInBounds_toArray, List.set_cons_zero, List.set_cons_succ]
            refine wpS_quiet (some 40) { dst := some 40, op := Op.unOp UnOp.not 4 (Operand.tmp 39), type := _, pos := _, after := _, guard := none } _ rfl rfl (by rfl) (fun wE hE => by (go_simp; try with_reducible rfl)) ?_; simp only [Act.put, List.setIfInBounds_toArray, List.set_cons_zero, List.set_cons_succ]
            refine wpS_quiet (some 41) { dst := some 41, op := Op.move (Operand.tmp 40), type := _, pos := _, after := _, guard := none } _ rfl rfl (by rfl) (fun wE hE => by (go_simp; try with_reducible rfl)) ?_; simp only [Act.put, List.setIfInBounds_toArray, List.set_cons_zero, List.set_cons_succ]
            (first | refine wpS_quiet (some 42) { dst := some 42, op := Op.load 29 (Operand.tmp 6), type := _, pos := _, after := _, guard := some (2, false) } _ rfl rfl (by rfl) (fun wE hE => by (have zk0 := hE.cellS v0; have zk1 := hE.cellS v1; have zk2 := hE.cellS v2; have zk3 := hE.cellS d0; have zk4 := hE.cellS d1; have zk5 := hE.cellS d2; go_simp; try with_reducible rfl)) ?_ | refine wpS_pass (some 42) _ rfl rfl (by rfl) ?_); simp only [Act.put, List.setIfInBounds_toArray, List.set_cons_zero, List.set_cons_succ]
            (first | refine wpS_quiet (some 44) { dst := some 44, op := Op.load 29 (Operand.tmp 3), type := _, pos := _, after := _, guard := some (2, false) } _ rfl rfl (by rfl) (fun wE hE => by (have zk0 := hE.cellS v0; have zk1 := hE.cellS v1; have zk2 := hE.cellS v2; have zk3 := hE.cellS d0; have zk4 := hE.cellS d1; have zk5 := hE.cellS d2; go_simp; try with_reducible rfl)) ?_ | refine wpS_pass (some 44) _ rfl rfl (by rfl) ?_); simp only [Act.put, List.setIfInBounds_toArray, List.set_cons_zero, List.set_cons_succ]
            refine wpS_call (some 43) { dst := some 43, op := Op.call { callee := Callee.value (Operand.func 34), args := #[Operand.tmp 42], argTypes := #[29] }, type := _, pos := _, after := _, guard := some (2, false) } 34 _ rfl rfl (by rfl) (by go_simp; try first | with_reducible rfl | exact ⟨rfl, rfl⟩) ?_
            refine (specBase_any v.maj v.mnr v.pat _).mono ?_; rintro e w4 ⟨rfl, e4⟩; refine ⟨_, rfl, e4, ?_⟩; simp only [Act.put, List.setIfInBounds_toArray, List.set_cons_zero, List.set_cons_succ]
            refine wpS_call (some 45) { dst := some 45, op := Op.call { callee := Callee.value (Operand.func 34), args := #[Operand.tmp 44], argTypes := #[29] }, type := _, pos := _, after := _, guard := some (2, false) } 34 _ rfl rfl (by rfl) (by go_simp; try first | with_reducible rfl | exact ⟨rfl, rfl⟩) ?_
            refine (specBase_any tv.maj tv.mnr tv.pat _).mono ?_; rintro e w5 ⟨rfl, e5⟩; refine ⟨_, rfl, e5, ?_⟩; simp only [Act.put, List.setIfInBounds_toArray, List.set_cons_zero, List.set_cons_succ]
            (first | refine wpS_quiet (some 46) { dst := some 46, op := Op.binOp BinOp.neq 29 (Operand.tmp 43) (Operand.tmp 45) 29, type := _, pos := _, after := _, guard := some (2, false) } _ rfl rfl (by rfl) (fun wE hE => by (go_simp; try with_reducible rfl)) ?_ | refine wpS_pass (some 46) _ rfl rfl (by rfl) ?_); simp only [Act.put, List.setIfInBounds_toArray, List.set_cons_zero, List.set_cons_succ]
            refine wpS_quiet (some 47) { dst := some 47, op := Op.pick (Operand.tmp 41) (Operand.const (Value.bool true)) (Operand.tmp 46), type := _, pos := _, after := _, guard := none } _ rfl rfl (by rfl) (fun wE hE => by (go_simp; try with_reducible rfl)) ?_; simp only [Act.put, List.setIfInBounds_toArray, List.set_cons_zero, List.set_cons_succ]
            change Exit.then _ _ _ _ _
            have E15 : Ext W1 w5 := (((hE.trans E2).trans E23).trans e4.undrew).trans e5
            clear qb
            go_wp2
            go_roundw
            case rel => exact ⟨k + 1, by go_num, by omega, hst, E15⟩
            case measure => simp [intOf]; omega
      · obtain rfl : k = n := by omega
        have hyes : Hid (matchD (gm.map verOfD) tv = true) := Lib.hid (all_ok (fun m hm => hF.out m (by rw [HN.out, List.take_length]; exact hm)))
        have KR3 := KR.ext E0
        go_wp2_with (refine wpList_store rfl rfl (.tmp 2) (.tmp 49) 35 rfl rfl rfl rfl KR3 rfl (Nat.le_of_ble_eq_true rfl) rfl ?_; intro w9 K9 x9)
        refine bodyPost_ret (results_cell_row rfl _ _ (w.heap.size + 1) _ _ (0, 0) _ rfl K9 Tryz.underlying35 rfl rfl) rfl ?_
        refine ⟨?_, ext_one EW ((E0.toX _).trans x9) (by omega)⟩
        rw [HG.out, hyes.out]
        rfl
end Go.Proofs.YtdokcengcekfgaaGreatDoor
