/-
  What the reference answers (spec.DecideStorage, DownValidate, DownEnable).
-/
import Derived.Test.YtdokcengcekfgaaGreatDoorVGood
namespace Go.Proofs.YtdokcengcekfgaaGreatDoor
open Go.RowKit
set_option linter.unusedSimpArgs false
set_option linter.unusedVariables false

theorem ver_eql (a b : VD) (w : World) : (binOp .eql 29 (verV a) (verV b)).run Tryz.prog w = .ok (.bool (veqV a b)) w := by
  obtain ⟨a1, a2, a3⟩ := a
  obtain ⟨b1, b2, b3⟩ := b
  by_cases h1 : a1 = b1 <;> by_cases h2 : a2 = b2 <;> by_cases h3 : a3 = b3 <;> (go_simp; simp [veqV, veq, h1, h2, h3])
theorem vote_eql (x : VoteD) (w : World) : (binOp .eql 35 (voteV x) (voteV x)).run Tryz.prog w = .ok (.bool true) w := by
  go_simp
theorem votezero : voteCells vote0 = [.int .i64 0, .string ⟨#[]⟩, .string ⟨#[]⟩, .bool false, .bool false, .string ⟨#[]⟩] := rfl
theorem storageD_some (cv sv : VD) (h3 : veqV cv ⟨3, 0, 0⟩ = false) : storageD (some cv) (some sv) = if veqV (base sv) (base cv) then none else some (base cv) := by
  unfold storageD
  simp only [h3, if_false, Bool.false_eq_true]
  congr 1
  simp [veqV, veq, base]
theorem ext_one {w W w5 : World} {k0 : Nat} (EW : Ext w W) (x : ExtX (fun k => k = k0) W w5) (h : w.heap.size ≤ k0) : Ext w w5 := ((EW.toX (fun k => k = k0)).trans x).toExt (fun k hk => by have hk : k = k0 := hk; omega)
noncomputable def ops_13_5 : Array Oper := opsAt Tryz.f13 5
set_option maxRecDepth 20000 in
set_option maxHeartbeats 4000000 in
theorem specStorage_any (g : GD) (A : Option Addr) (n cap : Nat) (w : World) (hok : g.ok) :
    Calls Tryz.prog 13 #[gdV g A n cap] w (StoreAns g w) := by
  have lc : g.cluster.size ≤ 2147483647 := by have := hok.c.le; omega
  have ls : g.storage.size ≤ 2147483647 := by have := hok.s.le; omega
  have HOK := Lib.hid hok
  clear hok
  go_enter Tryz.func13, Tryz.ntmps13
  go_wp2_with fail
  obtain ⟨W, hW⟩ : ∃ W, W = (w.alloc (.cells (gdCells g A n cap).toArray 24)).alloc (.cells (voteCells vote0).toArray 35) := ⟨_, rfl⟩
  have EW : Ext w W := by rw [hW]; exact ((Ext.refl w).alloc _).alloc _
  have KV : Blk W w.heap.size 24 (gdCells g A n cap) := by
    rw [hW]
    exact (Blk.new w 24 (gdCells g A n cap)).ext ((Ext.refl _).alloc _)
  have KR : Blk W (w.heap.size + 1) 35 (voteCells vote0) := by
    rw [hW]
    have := Blk.new (w.alloc (.cells (gdCells g A n cap).toArray 24)) 35 (voteCells vote0)
    rwa [World.size_alloc] at this
  change Calls _ _ _ ((w.alloc (.cells (gdCells g A n cap).toArray 24)).alloc (.cells (voteCells vote0).toArray 35)) _
  rw [← hW]
  clear hW
  refine (verOf_any g.cluster W lc).mono ?_
  rintro e w1 ⟨rfl, E1⟩
  have hs1 : w.heap.size + 1 < w1.heap.size := (KR.ext E1).lt
  have hs0 : w.heap.size < w1.heap.size := by omega
  cases hc : verOfD g.cluster with
  | none =>
    have KR1 : Blk (w1.alloc (.cells (verCells zeroV).toArray 29)) (w.heap.size + 1) 35 (voteCells vote0) := (KR.ext E1).ext ((Ext.refl _).alloc _)
    replace hc := Lib.hid hc
    go_wp2_with (refine wpList_store rfl rfl (.tmp 2) (.tmp 20) 35 rfl rfl rfl rfl KR1 rfl (Nat.le_of_ble_eq_true rfl) rfl ?_; intro w9 K9 x9)
    refine bodyPost_ret (results_cell_row rfl _ _ (w.heap.size + 1) _ _ (0, 0) _ rfl K9 Tryz.underlying35 rfl rfl) rfl ?_
    refine ⟨?_, ext_one EW (((E1.alloc _).toX _).trans x9) (by omega)⟩
    rw [hc.out]
    rfl
  | some cv =>
    have hcok : cv.ok := (verOfD_some hc).1
    obtain ⟨W1, hW1⟩ : ∃ W1, W1 = w1.alloc (.cells (verCells cv).toArray 29) := ⟨_, rfl⟩
    have EW1 : Ext w1 W1 := by rw [hW1]; exact (Ext.refl _).alloc _
    have KC : Blk W1 w1.heap.size 29 (verCells cv) := by rw [hW1]; exact Blk.new _ _ _
    have KR1 : Blk (w1.alloc (.cells (verCells cv).toArray 29)) (w.heap.size + 1) 35 (voteCells vote0) := (KR.ext E1).ext ((Ext.refl _).alloc _)
    have s1 := ((KV.ext E1)).cell (o := 1) rfl
    have q3 := ver_eql cv ⟨3, 0, 0⟩
    replace hc := Lib.hid hc
    cases h3 : veqV cv ⟨3, 0, 0⟩ with
    | true =>
      rw [h3] at q3
      replace h3 := Lib.hid h3
      clear hW1
      go_wp2_with (refine wpList_store rfl rfl (.tmp 2) (.tmp 20) 35 rfl rfl rfl rfl KR1 rfl (Nat.le_of_ble_eq_true rfl) rfl ?_; intro w9 K9 x9)
      refine bodyPost_ret (results_cell_row rfl _ _ (w.heap.size + 1) _ _ (0, 0) _ rfl K9 Tryz.underlying35 rfl rfl) rfl ?_
      refine ⟨?_, ext_one EW (((E1.alloc _).toX _).trans x9) (by omega)⟩
      rw [hc.out]
      simp only [storageD, h3.out, if_true]
      rfl
    | false =>
      rw [h3] at q3
      replace h3 := Lib.hid h3
      have s1W := (KV.ext (E1.trans EW1)).cell (o := 1) rfl
      have hsW : w.heap.size < W1.heap.size := by have := EW1.size; omega
      replace hW1 := Lib.hid hW1
      go_wp2_with fail
      change Calls _ _ _ (w1.alloc (.cells (verCells cv).toArray 29)) _
      rw [← hW1.out]
      replace s1 := s1W
      refine (verOf_any g.storage W1 ls).mono ?_
      rintro e w2 ⟨rfl, E2⟩
      have E02 : Ext W w2 := (E1.trans EW1).trans E2
      have KC2 := KC.ext E2
      have hs2 : w1.heap.size < w2.heap.size := KC2.lt
      have hs02 : w.heap.size < w2.heap.size := by omega
      obtain ⟨c0, c1, c2⟩ := V3.of KC2
      simp only [Nat.zero_add] at c1 c2
      cases hsv : verOfD g.storage with
      | none =>
        replace hsv := Lib.hid hsv
        go_wp2_with fail
        have hset : Hid (storageD (verOfD g.cluster) (verOfD g.storage) = some (base cv)) := Lib.hid (by
          rw [hc.out, hsv.out]; simp [storageD, h3.out])
        have E23 : Ext w2 (w2.alloc (.cells (verCells zeroV).toArray 29)).drew := ((Ext.refl _).alloc _).drew
        obtain ⟨W3, hW3⟩ : ∃ W3, W3 = w2.alloc (.cells (verCells zeroV).toArray 29) := ⟨_, rfl⟩
        have E23 : Ext w2 W3 := by rw [hW3]; exact (Ext.refl _).alloc _
        change Code.wp _ _ _ _ (w2.alloc (.cells (verCells zeroV).toArray 29))
        rw [← hW3]
        clear hW3
        refine wp_region_sched (ops := ops_13_5) Ext [] (.quiet 0 (.quiet 1 (.quiet 2 (.quiet 4 (.loud 3 (.loud 5 (.quiet 6 (.quiet 7 (.done))) (.stop)) (.stop)))))) (by kernel_rfl) ext_refl ext_trans (by kernel_rfl) (fun _ _ d _ _ h => by cases d <;> exact h) ?_
        refine wpS_quiet (some 27) { dst := some 27, op := Op.move (Operand.tmp 6), type := _, pos := _, after := _, guard := none } _ rfl rfl (by rfl) (fun wE hE => by (go_simp; try with_reducible rfl)) ?_; simp only [Act.put, List.setIfInBounds_toArray, List.set_cons_zero, List.set_cons_succ]
        refine wpS_quiet (some 28) { dst := some 28, op := Op.move (Operand.tmp 27), type := _, pos := _, after := _, guard := none } _ rfl rfl (by rfl) (fun wE hE => by (go_simp; try with_reducible rfl)) ?_; simp only [Act.put, List.setIfInBounds_toArray, List.set_cons_zero, List.set_cons_succ]
        (first | refine wpS_quiet (some 29) { dst := some 29, op := Op.load 29 (Operand.tmp 5), type := _, pos := _, after := _, guard := some (1, true) } _ rfl rfl (by rfl) (fun wE hE => by (go_simp; try with_reducible rfl)) ?_ | refine wpS_pass (some 29) _ rfl rfl (by rfl) ?_); simp only [Act.put, List.setIfInBounds_toArray, List.set_cons_zero, List.set_cons_succ]
        (first | refine wpS_quiet (some 31) { dst := some 31, op := Op.load 29 (Operand.tmp 3), type := _, pos := _, after := _, guard := some (1, true) } _ rfl rfl (by rfl) (fun wE hE => by (go_simp; try with_reducible rfl)) ?_ | refine wpS_pass (some 31) _ rfl rfl (by rfl) ?_); simp only [Act.put, List.setIfInBounds_toArray, List.set_cons_zero, List.set_cons_succ]
        refine wpS_loud_pass (ext_refl _) (some 30) _ rfl rfl (by rfl) ?_; simp only [Act.put, List.setIfInBounds_toArray, List.set_cons_zero, List.set_cons_succ]
        refine wpS_loud_pass (ext_refl _) (some 32) _ rfl rfl (by rfl) ?_; simp only [Act.put, List.setIfInBounds_toArray, List.set_cons_zero, List.set_cons_succ]
        (first | refine wpS_quiet (some 33) { dst := some 33, op := Op.binOp BinOp.eql 29 (Operand.tmp 30) (Operand.tmp 32) 29, type := _, pos := _, after := _, guard := some (1, true) } _ rfl rfl (by rfl) (fun wE hE => by (go_simp; try with_reducible rfl)) ?_ | refine wpS_pass (some 33) _ rfl rfl (by rfl) ?_); simp only [Act.put, List.setIfInBounds_toArray, List.set_cons_zero, List.set_cons_succ]
        refine wpS_quiet (some 34) { dst := some 34, op := Op.pick (Operand.tmp 28) (Operand.tmp 33) (Operand.const (Value.bool false)), type := _, pos := _, after := _, guard := none } _ rfl rfl (by rfl) (fun wE hE => by (go_simp; try with_reducible rfl)) ?_; simp only [Act.put, List.setIfInBounds_toArray, List.set_cons_zero, List.set_cons_succ]
        change Exit.then _ _ _ _ _
        have E03 : Ext W W3 := E02.trans E23
        obtain ⟨b0, b1, b2⟩ := V3.of ((KC2).ext E23)
        simp only [Nat.zero_add] at b1 b2
        go_wp2_with fail
        refine (specBase_any cv.maj cv.mnr cv.pat _).mono ?_
        rintro e w7 ⟨rfl, E7⟩
        go_wp2_with fail
        refine (verText_any (base cv) (base_ok hcok) w7).mono ?_
        rintro e w8 ⟨rfl, E8⟩
        have E78 : Ext W3 w8 := Ext.trans (by first | exact E7 | exact E7.undrew) E8
        have KR8 := (KR.ext E03).ext E78
        go_wp2_with (refine wpList_store rfl rfl (.tmp 2) (.tmp 39) 35 rfl rfl rfl rfl KR8 rfl (Nat.le_of_ble_eq_true rfl) rfl ?_; intro w9 K9 x9)
        refine bodyPost_ret (results_cell_row rfl _ _ (w.heap.size + 1) _ _ (0, 0) _ rfl K9 Tryz.underlying35 rfl rfl) rfl ?_
        refine ⟨?_, ext_one EW (((E03.trans E78).toX _).trans x9) (by omega)⟩
        rw [hset.out]
        rfl
      | some sv =>
        replace hsv := Lib.hid hsv
        go_wp2_with fail
        obtain ⟨W3, hW3⟩ : ∃ W3, W3 = w2.alloc (.cells (verCells sv).toArray 29) := ⟨_, rfl⟩
        have E23 : Ext w2 W3 := by rw [hW3]; exact (Ext.refl _).alloc _
        obtain ⟨v0, v1, v2⟩ := V3.of (show Blk W3 w2.heap.size 29 (verCells sv) by rw [hW3]; exact Blk.new _ _ _)
        simp only [Nat.zero_add] at v1 v2
        change Code.wp _ _ _ _ (w2.alloc (.cells (verCells sv).toArray 29))
        rw [← hW3]
        clear hW3
        have d0 := E23.cellS c0
        have d1 := E23.cellS c1
        have d2 := E23.cellS c2
        have qb : ∀ w : World, (binOp .eql 29 (vv sv.maj sv.mnr 0) (vv cv.maj cv.mnr 0)).run Tryz.prog w = .ok (.bool (veqV (base sv) (base cv))) w := ver_eql (base sv) (base cv)
        cases hb : veqV (base sv) (base cv) with
        | true =>
          rw [hb] at qb
          have hset : Hid (storageD (verOfD g.cluster) (verOfD g.storage) = none) := Lib.hid (by
            rw [hc.out, hsv.out, storageD_some _ _ h3.out, hb]; rfl)
          replace hb := Lib.hid hb
          refine wp_region_sched (ops := ops_13_5) Ext [] (.quiet 0 (.quiet 1 (.quiet 2 (.quiet 4 (.loud 3 (.loud 5 (.quiet 6 (.quiet 7 (.done))) (.stop)) (.stop)))))) (by kernel_rfl) ext_refl ext_trans (by kernel_rfl) (fun _ _ d _ _ h => by cases d <;> exact h) ?_
          refine wpS_quiet (some 27) { dst := some 27, op := Op.move (Operand.tmp 6), type := _, pos := _, after := _, guard := none } _ rfl rfl (by rfl) (fun wE hE => by (go_simp; try with_reducible rfl)) ?_; simp only [Act.put, List.setIfInBounds_toArray, List.set_cons_zero, List.set_cons_succ]
          refine wpS_quiet (some 28) { dst := some 28, op := Op.move (Operand.tmp 27), type := _, pos := _, after := _, guard := none } _ rfl rfl (by rfl) (fun wE hE => by (go_simp; try with_reducible rfl)) ?_; simp only [Act.put, List.setIfInBounds_toArray, List.set_cons_zero, List.set_cons_succ]
          (first | refine wpS_quiet (some 29) { dst := some 29, op := Op.load 29 (Operand.tmp 5), type := _, pos := _, after := _, guard := some (1, true) } _ rfl rfl (by rfl) (fun wE hE => by (have zk0 := hE.cellS v0; have zk1 := hE.cellS v1; have zk2 := hE.cellS v2; have zk3 := hE.cellS d0; have zk4 := hE.cellS d1; have zk5 := hE.cellS d2; go_simp; try with_reducible rfl)) ?_ | refine wpS_pass (some 29) _ rfl rfl (by rfl) ?_); simp only [Act.put, List.setIfInBounds_toArray, List.set_cons_zero, List.set_cons_succ]
          (first | refine wpS_quiet (some 31) { dst := some 31, op := Op.load 29 (Operand.tmp 3), type := _, pos := _, after := _, guard := some (1, true) } _ rfl rfl (by rfl) (fun wE hE => by (have zk0 := hE.cellS v0; have zk1 := hE.cellS v1; have zk2 := hE.cellS v2; have zk3 := hE.cellS d0; have zk4 := hE.cellS d1; have zk5 := hE.cellS d2; go_simp; try with_reducible rfl)) ?_ | refine wpS_pass (some 31) _ rfl rfl (by rfl) ?_); simp only [Act.put, List.setIfInBounds_toArray, List.set_cons_zero, List.set_cons_succ]
          refine wpS_call (some 30) { dst := some 30, op := Op.call { callee := Callee.value (Operand.func 34), args := #[Operand.tmp 29], argTypes := #[29] }, type := _, pos := _, after := _, guard := some (1, true) } 34 _ rfl rfl (by rfl) (by go_simp; try first | with_reducible rfl | exact ⟨rfl, rfl⟩) ?_
          refine (specBase_any sv.maj sv.mnr sv.pat _).mono ?_; rintro e w4 ⟨rfl, e4⟩; refine ⟨_, rfl, e4, ?_⟩; simp only [Act.put, List.setIfInBounds_toArray, List.set_cons_zero, List.set_cons_succ]
          refine wpS_call (some 32) { dst := some 32, op := Op.call { callee := Callee.value (Operand.func 34), args := #[Operand.tmp 31], argTypes := #[29] }, type := _, pos := _, after := _, guard := some (1, true) } 34 _ rfl rfl (by rfl) (by go_simp; try first | with_reducible rfl | exact ⟨rfl, rfl⟩) ?_
          refine (specBase_any cv.maj cv.mnr cv.pat _).mono ?_; rintro e w5 ⟨rfl, e5⟩; refine ⟨_, rfl, e5, ?_⟩; simp only [Act.put, List.setIfInBounds_toArray, List.set_cons_zero, List.set_cons_succ]
          (first | refine wpS_quiet (some 33) { dst := some 33, op := Op.binOp BinOp.eql 29 (Operand.tmp 30) (Operand.tmp 32) 29, type := _, pos := _, after := _, guard := some (1, true) } _ rfl rfl (by rfl) (fun wE hE => by (go_simp; try with_reducible rfl)) ?_ | refine wpS_pass (some 33) _ rfl rfl (by rfl) ?_); simp only [Act.put, List.setIfInBounds_toArray, List.set_cons_zero, List.set_cons_succ]
          refine wpS_quiet (some 34) { dst := some 34, op := Op.pick (Operand.tmp 28) (Operand.tmp 33) (Operand.const (Value.bool false)), type := _, pos := _, after := _, guard := none } _ rfl rfl (by rfl) (fun wE hE => by (go_simp; try with_reducible rfl)) ?_; simp only [Act.put, List.setIfInBounds_toArray, List.set_cons_zero, List.set_cons_succ]
          change Exit.then _ _ _ _ _
          have E25 : Ext w2 w5 := (E23.trans e4.undrew).trans e5
          have KR5 := (KR.ext (E02)).ext E25
          go_wp2_with (refine wpList_store rfl rfl (.tmp 2) (.tmp 35) 35 rfl rfl rfl rfl KR5 rfl (Nat.le_of_ble_eq_true rfl) rfl ?_; intro w9 K9 x9)
          refine bodyPost_ret (results_cell_row rfl _ _ (w.heap.size + 1) _ _ (0, 0) _ rfl K9 Tryz.underlying35 rfl rfl) rfl ?_
          refine ⟨?_, ext_one EW (((E02.trans E25).toX _).trans x9) (by omega)⟩
          rw [hset.out]
          rfl
        | false =>
          rw [hb] at qb
          have hset : Hid (storageD (verOfD g.cluster) (verOfD g.storage) = some (base cv)) := Lib.hid (by
            rw [hc.out, hsv.out, storageD_some _ _ h3.out, hb]; rfl)
          replace hb := Lib.hid hb
          refine wp_region_sched (ops := ops_13_5) Ext [] (.quiet 0 (.quiet 1 (.quiet 2 (.quiet 4 (.loud 3 (.loud 5 (.quiet 6 (.quiet 7 (.done))) (.stop)) (.stop)))))) (by kernel_rfl) ext_refl ext_trans (by kernel_rfl) (fun _ _ d _ _ h => by cases d <;> exact h) ?_
          refine wpS_quiet (some 27) { dst := some 27, op := Op.move (Operand.tmp 6), type := _, pos := _, after := _, guard := none } _ rfl rfl (by rfl) (fun wE hE => by (go_simp; try with_reducible rfl)) ?_; simp only [Act.put, List.setIfInBounds_toArray, List.set_cons_zero, List.set_cons_succ]
          refine wpS_quiet (some 28) { dst := some 28, op := Op.move (Operand.tmp 27), type := _, pos := _, after := _, guard := none } _ rfl rfl (by rfl) (fun wE hE => by (go_simp; try with_reducible rfl)) ?_; simp only [Act.put, List.setIfInBounds_toArray, List.set_cons_zero, List.set_cons_succ]
          (first | refine wpS_quiet (some 29) { dst := some 29, op := Op.load 29 (Operand.tmp 5), type := _, pos := _, after := _, guard := some (1, true) } _ rfl rfl (by rfl) (fun wE hE => by (have zk0 := hE.cellS v0; have zk1 := hE.cellS v1; have zk2 := hE.cellS v2; have zk3 := hE.cellS d0; have zk4 := hE.cellS d1; have zk5 := hE.cellS d2; go_simp; try with_reducible rfl)) ?_ | refine wpS_pass (some 29) _ rfl rfl (by rfl) ?_); simp only [Act.put, List.setIfInBounds_toArray, List.set_cons_zero, List.set_cons_succ]
          (first | refine wpS_quiet (some 31) { dst := some 31, op := Op.load 29 (Operand.tmp 3), type := _, pos := _, after := _, guard := some (1, true) } _ rfl rfl (by rfl) (fun wE hE => by (have zk0 := hE.cellS v0; have zk1 := hE.cellS v1; have zk2 := hE.cellS v2; have zk3 := hE.cellS d0; have zk4 := hE.cellS d1; have zk5 := hE.cellS d2; go_simp; try with_reducible rfl)) ?_ | refine wpS_pass (some 31) _ rfl rfl (by rfl) ?_); simp only [Act.put, List.setIfInBounds_toArray, List.set_cons_zero, List.set_cons_succ]
          refine wpS_call (some 30) { dst := some 30, op := Op.call { callee := Callee.value (Operand.func 34), args := #[Operand.tmp 29], argTypes := #[29] }, type := _, pos := _, after := _, guard := some (1, true) } 34 _ rfl rfl (by rfl) (by go_simp; try first | with_reducible rfl | exact ⟨rfl, rfl⟩) ?_
          refine (specBase_any sv.maj sv.mnr sv.pat _).mono ?_; rintro e w4 ⟨rfl, e4⟩; refine ⟨_, rfl, e4, ?_⟩; simp only [Act.put, List.setIfInBounds_toArray, List.set_cons_zero, List.set_cons_succ]
          refine wpS_call (some 32) { dst := some 32, op := Op.call { callee := Callee.value (Operand.func 34), args := #[Operand.tmp 31], argTypes := #[29] }, type := _, pos := _, after := _, guard := some (1, true) } 34 _ rfl rfl (by rfl) (by go_simp; try first | with_reducible rfl | exact ⟨rfl, rfl⟩) ?_
          refine (specBase_any cv.maj cv.mnr cv.pat _).mono ?_; rintro e w5 ⟨rfl, e5⟩; refine ⟨_, rfl, e5, ?_⟩; simp only [Act.put, List.setIfInBounds_toArray, List.set_cons_zero, List.set_cons_succ]
          (first | refine wpS_quiet (some 33) { dst := some 33, op := Op.binOp BinOp.eql 29 (Operand.tmp 30) (Operand.tmp 32) 29, type := _, pos := _, after := _, guard := some (1, true) } _ rfl rfl (by rfl) (fun wE hE => by (go_simp; try with_reducible rfl)) ?_ | refine wpS_pass (some 33) _ rfl rfl (by rfl) ?_); simp only [Act.put, List.setIfInBounds_toArray, List.set_cons_zero, List.set_cons_succ]
          refine wpS_quiet (some 34) { dst := some 34, op := Op.pick (Operand.tmp 28) (Operand.tmp 33) (Operand.const (Value.bool false)), type := _, pos := _, after := _, guard := none } _ rfl rfl (by rfl) (fun wE hE => by (go_simp; try with_reducible rfl)) ?_; simp only [Act.put, List.setIfInBounds_toArray, List.set_cons_zero, List.set_cons_succ]
          change Exit.then _ _ _ _ _
          have E23 : Ext w2 w5 := (E23.trans e4.undrew).trans e5
          have E03 : Ext W w5 := E02.trans E23
          obtain ⟨b0, b1, b2⟩ := V3.of ((KC2).ext E23)
          simp only [Nat.zero_add] at b1 b2
          go_wp2_with fail
          refine (specBase_any cv.maj cv.mnr cv.pat _).mono ?_
          rintro e w7 ⟨rfl, E7⟩
          go_wp2_with fail
          refine (verText_any (base cv) (base_ok hcok) w7).mono ?_
          rintro e w8 ⟨rfl, E8⟩
          have E78 : Ext w5 w8 := Ext.trans (by first | exact E7 | exact E7.undrew) E8
          have KR8 := (KR.ext E03).ext E78
          go_wp2_with (refine wpList_store rfl rfl (.tmp 2) (.tmp 39) 35 rfl rfl rfl rfl KR8 rfl (Nat.le_of_ble_eq_true rfl) rfl ?_; intro w9 K9 x9)
          refine bodyPost_ret (results_cell_row rfl _ _ (w.heap.size + 1) _ _ (0, 0) _ rfl K9 Tryz.underlying35 rfl rfl) rfl ?_
          refine ⟨?_, ext_one EW (((E03.trans E78).toX _).trans x9) (by omega)⟩
          rw [hset.out]
          rfl
set_option maxRecDepth 20000 in
set_option maxHeartbeats 4000000 in
theorem specValidate_any (g : GD) (A : Option Addr) (n cap : Nat) (cv to : VD) (w : World) (hok : g.ok) (hc : verOfD g.cluster = some cv) :
    Calls Tryz.prog 43 #[gdV g A n cap, verV to] w fun e w' => e = .returned (voteV (vErr (validD cv to g.down))) ∧ Ext w w' := by
  have lc : g.cluster.size ≤ 2147483647 := by have := hok.c.le; omega
  have HOK := Lib.hid hok
  replace hc := Lib.hid hc
  clear hok
  go_enter Tryz.func43, Tryz.ntmps43
  go_wp2_with fail
  obtain ⟨W, hW⟩ : ∃ W, W = ((w.alloc (.cells (gdCells g A n cap).toArray 24)).alloc (.cells (verCells to).toArray 29)).alloc (.cells (voteCells vote0).toArray 35) := ⟨_, rfl⟩
  have EW : Ext w W := by rw [hW]; exact (((Ext.refl w).alloc _).alloc _).alloc _
  have KV : Blk W w.heap.size 24 (gdCells g A n cap) := by
    rw [hW]
    exact (Blk.new w 24 (gdCells g A n cap)).ext (((Ext.refl _).alloc _).alloc _)
  have KT : Blk W (w.heap.size + 1) 29 (verCells to) := by
    rw [hW]
    have := Blk.new (w.alloc (.cells (gdCells g A n cap).toArray 24)) 29 (verCells to)
    rw [World.size_alloc] at this
    exact this.ext ((Ext.refl _).alloc _)
  have KR : Blk W (w.heap.size + 1 + 1) 35 (voteCells vote0) := by
    rw [hW]
    have := Blk.new ((w.alloc (.cells (gdCells g A n cap).toArray 24)).alloc (.cells (verCells to).toArray 29)) 35 (voteCells vote0)
    rwa [World.size_alloc, World.size_alloc] at this
  change Calls _ _ _ (((w.alloc (.cells (gdCells g A n cap).toArray 24)).alloc (.cells (verCells to).toArray 29)).alloc (.cells (voteCells vote0).toArray 35)) _
  rw [← hW]
  clear hW
  refine (verOf_any g.cluster W lc).mono ?_
  rintro e w1 ⟨rfl, E1⟩
  rw [hc.out]
  have hs1 : w.heap.size + 1 + 1 < w1.heap.size := (KR.ext E1).lt
  have hs10 : w.heap.size + 1 < w1.heap.size := by omega
  have hs0 : w.heap.size < w1.heap.size := by omega
  obtain ⟨t0, t1, t2⟩ := V3.of (KT.ext E1)
  simp only [Nat.zero_add] at t1 t2
  go_wp2_with fail
  obtain ⟨W1, hW1⟩ : ∃ W1, W1 = w1.alloc (.cells (verCells cv).toArray 29) := ⟨_, rfl⟩
  have EW1 : Ext w1 W1 := by rw [hW1]; exact (Ext.refl _).alloc _
  change Calls _ _ _ (w1.alloc (.cells (verCells cv).toArray 29)) _
  rw [← hW1]
  clear hW1
  refine (specDown_any cv.maj cv.mnr cv.pat to.maj to.mnr to.pat W1).mono ?_
  rintro e w2 ⟨rfl, E2⟩
  have E02 : Ext W w2 := (E1.trans EW1).trans E2
  have KR2 := KR.ext E02
  have s3 := (KV.ext E02).cell (o := 3) rfl
  have s4 := (KV.ext E02).cell (o := 4) rfl
  cases hv : vdownV cv to with
  | false =>
    rw [show vdown cv.maj cv.mnr to.maj to.mnr to.pat = false from hv]
    replace hv := Lib.hid hv
    go_wp2_with (refine wpList_store rfl rfl (.tmp 4) (.tmp 17) 35 rfl rfl rfl rfl KR2 rfl (Nat.le_of_ble_eq_true rfl) rfl ?_; intro w9 K9 x9)
    refine bodyPost_ret (results_cell_row rfl _ _ (w.heap.size + 1 + 1) _ _ (0, 0) _ rfl K9 Tryz.underlying35 rfl rfl) rfl ?_
    refine ⟨?_, ext_one EW (((E02).toX _).trans x9) (by omega)⟩
    simp only [validD, hv.out, if_false, Bool.false_eq_true]
    rfl
  | true =>
    rw [show vdown cv.maj cv.mnr to.maj to.mnr to.pat = true from hv]
    replace hv := Lib.hid hv
    cases hd : g.down with
    | true =>
      have hh := (HOK.out.d hd).1
      rw [hd] at s3
      rw [hh] at s4
      replace hd := Lib.hid hd
      clear hh
      go_wp2_with (refine wpList_store rfl rfl (.tmp 4) (.tmp 24) 35 rfl rfl rfl rfl KR2 rfl (Nat.le_of_ble_eq_true rfl) rfl ?_; intro w9 K9 x9)
      refine bodyPost_ret (results_cell_row rfl _ _ (w.heap.size + 1 + 1) _ _ (0, 0) _ rfl K9 Tryz.underlying35 rfl rfl) rfl ?_
      refine ⟨?_, ext_one EW (((E02).toX _).trans x9) (by omega)⟩
      simp only [validD, hv.out, hd.out, if_true]
      rfl
    | false =>
      rw [hd] at s3
      replace hd := Lib.hid hd
      cases hh : g.hasDown with
      | true =>
        rw [hh] at s4
        clear hh
        go_wp2_with (refine wpList_store rfl rfl (.tmp 4) (.tmp 25) 35 rfl rfl rfl rfl KR2 rfl (Nat.le_of_ble_eq_true rfl) rfl ?_; intro w9 K9 x9)
        refine bodyPost_ret (results_cell_row rfl _ _ (w.heap.size + 1 + 1) _ _ (0, 0) _ rfl K9 Tryz.underlying35 rfl rfl) rfl ?_
        refine ⟨?_, ext_one EW (((E02).toX _).trans x9) (by omega)⟩
        simp only [validD, hv.out, hd.out, if_true, if_false, Bool.false_eq_true]
        rfl
      | false =>
        rw [hh] at s4
        clear hh
        go_wp2_with (refine wpList_store rfl rfl (.tmp 4) (.tmp 25) 35 rfl rfl rfl rfl KR2 rfl (Nat.le_of_ble_eq_true rfl) rfl ?_; intro w9 K9 x9)
        refine bodyPost_ret (results_cell_row rfl _ _ (w.heap.size + 1 + 1) _ _ (0, 0) _ rfl K9 Tryz.underlying35 rfl rfl) rfl ?_
        refine ⟨?_, ext_one EW (((E02).toX _).trans x9) (by omega)⟩
        simp only [validD, hv.out, hd.out, if_true, if_false, Bool.false_eq_true]
        rfl
set_option maxRecDepth 20000 in
set_option maxHeartbeats 4000000 in
theorem specEnable_any (g : GD) (A : Option Addr) (n cap : Nat) (cv to : VD) (hto : to.ok) (w : World) (hok : g.ok) (hc : verOfD g.cluster = some cv) :
    Calls Tryz.prog 18 #[gdV g A n cap, verV to] w fun e w' => e = .returned (voteV { enVote vote0 (validD cv to g.down) to with err := errNo (validD cv to g.down) }) ∧ Ext w w' := by
  have HV := Lib.hid (fun w => specValidate_any g A n cap cv to w hok hc)
  have HTO := Lib.hid hto
  have hle := validD_le cv to g.down
  clear hok hc hto
  generalize validD cv to g.down = k at *
  go_enter Tryz.func18, Tryz.ntmps18
  go_wp2_with fail
  obtain ⟨W, hW⟩ : ∃ W, W = ((w.alloc (.cells (gdCells g A n cap).toArray 24)).alloc (.cells (verCells to).toArray 29)).alloc (.cells (voteCells vote0).toArray 35) := ⟨_, rfl⟩
  have EW : Ext w W := by rw [hW]; exact (((Ext.refl w).alloc _).alloc _).alloc _
  have KV : Blk W w.heap.size 24 (gdCells g A n cap) := by
    rw [hW]
    exact (Blk.new w 24 (gdCells g A n cap)).ext (((Ext.refl _).alloc _).alloc _)
  have KT : Blk W (w.heap.size + 1) 29 (verCells to) := by
    rw [hW]
    have := Blk.new (w.alloc (.cells (gdCells g A n cap).toArray 24)) 29 (verCells to)
    rw [World.size_alloc] at this
    exact this.ext ((Ext.refl _).alloc _)
  have KR : Blk W (w.heap.size + 1 + 1) 35 (voteCells vote0) := by
    rw [hW]
    have := Blk.new ((w.alloc (.cells (gdCells g A n cap).toArray 24)).alloc (.cells (verCells to).toArray 29)) 35 (voteCells vote0)
    rwa [World.size_alloc, World.size_alloc] at this
  change Calls _ _ _ (((w.alloc (.cells (gdCells g A n cap).toArray 24)).alloc (.cells (verCells to).toArray 29)).alloc (.cells (voteCells vote0).toArray 35)) _
  rw [← hW]
  clear hW
  refine (HV.out W).mono ?_
  rintro e w1 ⟨rfl, E1⟩
  have hs1 : w.heap.size + 1 + 1 < w1.heap.size := (KR.ext E1).lt
  have hs10 : w.heap.size + 1 < w1.heap.size := by omega
  have hs0 : w.heap.size < w1.heap.size := by omega
  obtain ⟨t0, t1, t2⟩ := V3.of (KT.ext E1)
  simp only [Nat.zero_add] at t1 t2
  rcases hle with rfl | rfl | rfl
  · go_wp2_with fail
    obtain ⟨W1, hW1⟩ : ∃ W1, W1 = w1.alloc (.cells (voteCells vote0).toArray 35) := ⟨_, rfl⟩
    have EW1 : Ext w1 W1 := by rw [hW1]; exact (Ext.refl _).alloc _
    have KX : Blk W1 w1.heap.size 35 (voteCells vote0) := by rw [hW1]; exact Blk.new _ _ _
    change Calls _ _ _ (w1.alloc (.cells (voteCells vote0).toArray 35)) _
    rw [← hW1]
    clear hW1
    refine (verText_any to HTO.out W1).mono ?_
    rintro e w2 ⟨rfl, E2⟩
    have KX2 := KX.ext E2
    have E02 : Ext W w2 := (E1.trans EW1).trans E2
    have KR2 := KR.ext E02
    go_wp2_with (first
      | (refine wpList_store rfl rfl (.tmp 14) (.const (.bool true)) 4 rfl rfl rfl rfl KX2 rfl (Nat.le_of_ble_eq_true rfl) rfl ?_; intro w3 K3 x3; have KR3 := KR2.extX x3 (by omega))
      | (refine wpList_store rfl rfl (.tmp 15) (.tmp 13) 9 rfl rfl rfl rfl K3 rfl (Nat.le_of_ble_eq_true rfl) rfl ?_; intro w4 K4 x4; have KR4 := KR3.extX x4 (by omega); have q0 := K4.cell (o := 0) rfl; have q1 := K4.cell (o := 1) rfl; have q2 := K4.cell (o := 2) rfl; have q3 := K4.cell (o := 3) rfl; have q4 := K4.cell (o := 4) rfl; have q5 := K4.cell (o := 5) rfl)
      | (refine wpList_store rfl rfl (.tmp 4) (.tmp 16) 35 rfl rfl rfl rfl KR4 rfl (Nat.le_of_ble_eq_true rfl) rfl ?_; intro w9 K9 x9))
    refine bodyPost_ret (results_cell_row rfl _ _ (w.heap.size + 1 + 1) _ _ (0, 0) _ rfl K9 Tryz.underlying35 rfl rfl) rfl ?_
    refine ⟨rfl, ?_⟩
    exact ((EW.trans E02).toX (fun k => k = w.heap.size + 1 + 1 ∨ k = w1.heap.size) |>.trans ((((x3.trans x4).mono (M' := fun k => k = w.heap.size + 1 + 1 ∨ k = w1.heap.size) (fun k _ h => .inr h))).trans' x9 (fun k _ h => .inl h))).toExt (fun k hk => by omega)
  · have KR1 : Blk (w1.alloc (.cells (voteCells (vErr 1)).toArray 35)) (w.heap.size + 1 + 1) 35 (voteCells vote0) := (KR.ext E1).ext ((Ext.refl _).alloc _)
    go_wp2_with (refine wpList_store rfl rfl (.tmp 4) (.tmp 16) 35 rfl rfl rfl rfl KR1 rfl (Nat.le_of_ble_eq_true rfl) rfl ?_; intro w9 K9 x9)
    refine bodyPost_ret (results_cell_row rfl _ _ (w.heap.size + 1 + 1) _ _ (0, 0) _ rfl K9 Tryz.underlying35 rfl rfl) rfl ?_
    refine ⟨?_, ext_one EW ((((E1.alloc _)).toX _).trans x9) (by omega)⟩
    rfl
  · have KR1 : Blk (w1.alloc (.cells (voteCells (vErr 2)).toArray 35)) (w.heap.size + 1 + 1) 35 (voteCells vote0) := (KR.ext E1).ext ((Ext.refl _).alloc _)
    go_wp2_with (refine wpList_store rfl rfl (.tmp 4) (.tmp 16) 35 rfl rfl rfl rfl KR1 rfl (Nat.le_of_ble_eq_true rfl) rfl ?_; intro w9 K9 x9)
    refine bodyPost_ret (results_cell_row rfl _ _ (w.heap.size + 1 + 1) _ _ (0, 0) _ rfl K9 Tryz.underlying35 rfl rfl) rfl ?_
    refine ⟨?_, ext_one EW ((((E1.alloc _)).toX _).trans x9) (by omega)⟩
    rfl
end Go.Proofs.YtdokcengcekfgaaGreatDoor
