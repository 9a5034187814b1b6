/-
  Key-values, events and responses read back as data (impl.kvOf, eventOut, sentOut).
-/
import Derived.Test.YtmimpfenlhfkiaaFrag
import Derived.Test.YtmimpfenlhfkiaaHeap
namespace Go.Proofs.Ytmimpfenlhfkiaa
open Go.RowKit
set_option linter.unusedSimpArgs false
set_option linter.unusedVariables false

noncomputable def ops_27_1 : Array Oper := opsAt Try.f27 1
set_option maxHeartbeats 1000000 in
set_option maxRecDepth 20000 in
theorem kvOf_any (b : Nat) (x : KVd) (w : World) (h : KvAt w any x b) :
    Calls Try.prog 27 #[.pointer (some ⟨b, 0, none⟩)] w fun e w' => e = .returned (kvV x) ∧ Ext w w' := by
  obtain ⟨_, Ak, ck, Av, cv, K, h1, h2⟩ := h
  have c0 := K.cell (o := 0) rfl
  have c1 := K.cell (o := 1) rfl
  have c2 := K.cell (o := 2) rfl
  have c3 := K.cell (o := 3) rfl
  have c4 := K.cell (o := 4) rfl
  have c5 := K.cell (o := 5) rfl
  have v1 : ∀ w', Ext w w' → (convert 51 9 (.slice Ak x.key.size ck)).run Try.prog w' = .ok (.string x.key) w' := fun w' e => text_back w' _ _ 5 x.key Try.underlying51 Try.underlying5 Try.underlying9 ((Rp.slice Rp.u8).ext' e h1)
  have v2 : ∀ w', Ext w w' → (convert 51 9 (.slice Av x.value.size cv)).run Try.prog w' = .ok (.string x.value) w' := fun w' e => text_back w' _ _ 5 x.value Try.underlying51 Try.underlying5 Try.underlying9 ((Rp.slice Rp.u8).ext' e h2)
  have V1 := Lib.hid v1
  have V2 := Lib.hid v2
  clear v1 v2 h1 h2
  go_enter Try.func27, Try.ntmps27
  go_wp2_with fail
  obtain ⟨W, hW⟩ : ∃ W, W = w.alloc (.cells #[.string ⟨#[]⟩, .string ⟨#[]⟩, .int .i64 0, .int .i64 0, .int .i64 0, .int .i64 0] 35) := ⟨_, rfl⟩
  rw [← hW]
  have E0 : Ext w W := by rw [hW]; exact (Ext.refl w).alloc _
  have KW : Blk W w.heap.size 35 [.string ⟨#[]⟩, .string ⟨#[]⟩, .int .i64 0, .int .i64 0, .int .i64 0, .int .i64 0] := by rw [hW]; exact Blk.new w _ _
  clear hW
  have c0 := E0.cellS c0
  have c1 := E0.cellS c1
  have c2 := E0.cellS c2
  have c3 := E0.cellS c3
  have c4 := E0.cellS c4
  have c5 := E0.cellS c5
  have v1 : ∀ w', Ext W.drew w' → _ := fun w' e => V1.out w' (E0.trans e)
  have v2 : ∀ w', Ext W.drew w' → _ := fun w' e => V2.out w' (E0.trans e)
  refine wp_region_sched (ops := ops_27_1) Ext [27] (.quiet 0 (.quiet 1 (.quiet 2 (.quiet 3 (.quiet 4 (.quiet 5 (.quiet 6 (.quiet 7 (.quiet 8 (.quiet 9 (.quiet 10 (.quiet 11 (.quiet 12 (.quiet 13 (.quiet 14 (.quiet 15 (.quiet 16 (.quiet 17 (.quiet 18 (.quiet 19 (.quiet 20 (.quiet 21 (.quiet 22 (.quiet 23 (.quiet 24 (.quiet 25 (.quiet 26 (.last 27 (.done))))))))))))))))))))))))))))) (by kernel_rfl) ext_refl ext_trans (by kernel_rfl) (fun _ _ d _ _ h => by cases d <;> exact h) ?_
  refine wpS_quiet (some 3) { dst := some 3, op := Op.move (Operand.tmp 0), type := _, pos := _, after := _, guard := none } _ rfl rfl (by rfl) (fun wE hE => by (go_simp; try with_reducible rfl)) ?_; simp only [Act.put, List.setIfInBounds_toArray, List.set_cons_zero, List.set_cons_succ]
  refine wpS_quiet (some 4) { dst := some 4, op := Op.nilCheck (Operand.tmp 3), type := _, pos := _, after := _, guard := none } _ rfl rfl (by rfl) (fun wE hE => by (go_simp; try with_reducible rfl)) ?_; simp only [Act.put, List.setIfInBounds_toArray, List.set_cons_zero, List.set_cons_succ]
  refine wpS_quiet (some 5) { dst := some 5, op := Op.fieldAddr 76 (Operand.tmp 4) 0, type := _, pos := _, after := _, guard := none } _ rfl rfl (by rfl) (fun wE hE => by (go_simp; try with_reducible rfl)) ?_; simp only [Act.put, List.setIfInBounds_toArray, List.set_cons_zero, List.set_cons_succ]
  refine wpS_quiet (some 6) { dst := some 6, op := Op.load 51 (Operand.tmp 5), type := _, pos := _, after := _, guard := none } _ rfl rfl (by rfl) (fun wE hE => by (have zk0 := hE.cellS c0; have zk1 := hE.cellS c1; have zk2 := hE.cellS c2; have zk3 := hE.cellS c3; have zk4 := hE.cellS c4; have zk5 := hE.cellS c5; go_simp; try with_reducible rfl)) ?_; simp only [Act.put, List.setIfInBounds_toArray, List.set_cons_zero, List.set_cons_succ]
  refine wpS_quiet (some 7) { dst := some 7, op := Op.convert 51 9 (Operand.tmp 6), type := _, pos := _, after := _, guard := none } _ rfl rfl (by rfl) (fun wE hE => by (go_simp; try with_reducible rfl)) ?_; simp only [Act.put, List.setIfInBounds_toArray, List.set_cons_zero, List.set_cons_succ]
  refine wpS_quiet (some 8) { dst := some 8, op := Op.move (Operand.tmp 0), type := _, pos := _, after := _, guard := none } _ rfl rfl (by rfl) (fun wE hE => by (go_simp; try with_reducible rfl)) ?_; simp only [Act.put, List.setIfInBounds_toArray, List.set_cons_zero, List.set_cons_succ]
  refine wpS_quiet (some 9) { dst := some 9, op := Op.nilCheck (Operand.tmp 8), type := _, pos := _, after := _, guard := none } _ rfl rfl (by rfl) (fun wE hE => by (go_simp; try with_reducible rfl)) ?_; simp only [Act.put, List.setIfInBounds_toArray, List.set_cons_zero, List.set_cons_succ]
  refine wpS_quiet (some 10) { dst := some 10, op := Op.fieldAddr 76 (Operand.tmp 9) 4, type := _, pos := _, after := _, guard := none } _ rfl rfl (by rfl) (fun wE hE => by (go_simp; try with_reducible rfl)) ?_; simp only [Act.put, List.setIfInBounds_toArray, List.set_cons_zero, List.set_cons_succ]
  refine wpS_quiet (some 11) { dst := some 11, op := Op.load 51 (Operand.tmp 10), type := _, pos := _, after := _, guard := none } _ rfl rfl (by rfl) (fun wE hE => by (have zk0 := hE.cellS c0; have zk1 := hE.cellS c1; have zk2 := hE.cellS c2; have zk3 := hE.cellS c3; have zk4 := hE.cellS c4; have zk5 := hE.cellS c5; go_simp; try with_reducible rfl)) ?_; simp only [Act.put, List.setIfInBounds_toArray, List.set_cons_zero, List.set_cons_succ]
  refine wpS_quiet (some 12) { dst := some 12, op := Op.convert 51 9 (Operand.tmp 11), type := _, pos := _, after := _, guard := none } _ rfl rfl (by rfl) (fun wE hE => by (go_simp; try with_reducible rfl)) ?_; simp only [Act.put, List.setIfInBounds_toArray, List.set_cons_zero, List.set_cons_succ]
  refine wpS_quiet (some 13) { dst := some 13, op := Op.move (Operand.tmp 0), type := _, pos := _, after := _, guard := none } _ rfl rfl (by rfl) (fun wE hE => by (go_simp; try with_reducible rfl)) ?_; simp only [Act.put, List.setIfInBounds_toArray, List.set_cons_zero, List.set_cons_succ]
  refine wpS_quiet (some 14) { dst := some 14, op := Op.nilCheck (Operand.tmp 13), type := _, pos := _, after := _, guard := none } _ rfl rfl (by rfl) (fun wE hE => by (go_simp; try with_reducible rfl)) ?_; simp only [Act.put, List.setIfInBounds_toArray, List.set_cons_zero, List.set_cons_succ]
  refine wpS_quiet (some 15) { dst := some 15, op := Op.fieldAddr 76 (Operand.tmp 14) 1, type := _, pos := _, after := _, guard := none } _ rfl rfl (by rfl) (fun wE hE => by (go_simp; try with_reducible rfl)) ?_; simp only [Act.put, List.setIfInBounds_toArray, List.set_cons_zero, List.set_cons_succ]
  refine wpS_quiet (some 16) { dst := some 16, op := Op.load 2 (Operand.tmp 15), type := _, pos := _, after := _, guard := none } _ rfl rfl (by rfl) (fun wE hE => by (have zk0 := hE.cellS c0; have zk1 := hE.cellS c1; have zk2 := hE.cellS c2; have zk3 := hE.cellS c3; have zk4 := hE.cellS c4; have zk5 := hE.cellS c5; go_simp; try with_reducible rfl)) ?_; simp only [Act.put, List.setIfInBounds_toArray, List.set_cons_zero, List.set_cons_succ]
  refine wpS_quiet (some 17) { dst := some 17, op := Op.move (Operand.tmp 0), type := _, pos := _, after := _, guard := none } _ rfl rfl (by rfl) (fun wE hE => by (go_simp; try with_reducible rfl)) ?_; simp only [Act.put, List.setIfInBounds_toArray, List.set_cons_zero, List.set_cons_succ]
  refine wpS_quiet (some 18) { dst := some 18, op := Op.nilCheck (Operand.tmp 17), type := _, pos := _, after := _, guard := none } _ rfl rfl (by rfl) (fun wE hE => by (go_simp; try with_reducible rfl)) ?_; simp only [Act.put, List.setIfInBounds_toArray, List.set_cons_zero, List.set_cons_succ]
  refine wpS_quiet (some 19) { dst := some 19, op := Op.fieldAddr 76 (Operand.tmp 18) 2, type := _, pos := _, after := _, guard := none } _ rfl rfl (by rfl) (fun wE hE => by (go_simp; try with_reducible rfl)) ?_; simp only [Act.put, List.setIfInBounds_toArray, List.set_cons_zero, List.set_cons_succ]
  refine wpS_quiet (some 20) { dst := some 20, op := Op.load 2 (Operand.tmp 19), type := _, pos := _, after := _, guard := none } _ rfl rfl (by rfl) (fun wE hE => by (have zk0 := hE.cellS c0; have zk1 := hE.cellS c1; have zk2 := hE.cellS c2; have zk3 := hE.cellS c3; have zk4 := hE.cellS c4; have zk5 := hE.cellS c5; go_simp; try with_reducible rfl)) ?_; simp only [Act.put, List.setIfInBounds_toArray, List.set_cons_zero, List.set_cons_succ]
  refine wpS_quiet (some 21) { dst := some 21, op := Op.move (Operand.tmp 0), type := _, pos := _, after := _, guard := none } _ rfl rfl (by rfl) (fun wE hE => by (go_simp; try with_reducible rfl)) ?_; simp only [Act.put, List.setIfInBounds_toArray, List.set_cons_zero, List.set_cons_succ]
  refine wpS_quiet (some 22) { dst := some 22, op := Op.nilCheck (Operand.tmp 21), type := _, pos := _, after := _, guard := none } _ rfl rfl (by rfl) (fun wE hE => by (go_simp; try with_reducible rfl)) ?_; simp only [Act.put, List.setIfInBounds_toArray, List.set_cons_zero, List.set_cons_succ]
  refine wpS_quiet (some 23) { dst := some 23, op := Op.fieldAddr 76 (Operand.tmp 22) 3, type := _, pos := _, after := _, guard := none } _ rfl rfl (by rfl) (fun wE hE => by (go_simp; try with_reducible rfl)) ?_; simp only [Act.put, List.setIfInBounds_toArray, List.set_cons_zero, List.set_cons_succ]
  refine wpS_quiet (some 24) { dst := some 24, op := Op.load 2 (Operand.tmp 23), type := _, pos := _, after := _, guard := none } _ rfl rfl (by rfl) (fun wE hE => by (have zk0 := hE.cellS c0; have zk1 := hE.cellS c1; have zk2 := hE.cellS c2; have zk3 := hE.cellS c3; have zk4 := hE.cellS c4; have zk5 := hE.cellS c5; go_simp; try with_reducible rfl)) ?_; simp only [Act.put, List.setIfInBounds_toArray, List.set_cons_zero, List.set_cons_succ]
  refine wpS_quiet (some 25) { dst := some 25, op := Op.move (Operand.tmp 0), type := _, pos := _, after := _, guard := none } _ rfl rfl (by rfl) (fun wE hE => by (go_simp; try with_reducible rfl)) ?_; simp only [Act.put, List.setIfInBounds_toArray, List.set_cons_zero, List.set_cons_succ]
  refine wpS_quiet (some 26) { dst := some 26, op := Op.nilCheck (Operand.tmp 25), type := _, pos := _, after := _, guard := none } _ rfl rfl (by rfl) (fun wE hE => by (go_simp; try with_reducible rfl)) ?_; simp only [Act.put, List.setIfInBounds_toArray, List.set_cons_zero, List.set_cons_succ]
  refine wpS_quiet (some 27) { dst := some 27, op := Op.fieldAddr 76 (Operand.tmp 26) 5, type := _, pos := _, after := _, guard := none } _ rfl rfl (by rfl) (fun wE hE => by (go_simp; try with_reducible rfl)) ?_; simp only [Act.put, List.setIfInBounds_toArray, List.set_cons_zero, List.set_cons_succ]
  refine wpS_quiet (some 28) { dst := some 28, op := Op.load 2 (Operand.tmp 27), type := _, pos := _, after := _, guard := none } _ rfl rfl (by rfl) (fun wE hE => by (have zk0 := hE.cellS c0; have zk1 := hE.cellS c1; have zk2 := hE.cellS c2; have zk3 := hE.cellS c3; have zk4 := hE.cellS c4; have zk5 := hE.cellS c5; go_simp; try with_reducible rfl)) ?_; simp only [Act.put, List.setIfInBounds_toArray, List.set_cons_zero, List.set_cons_succ]
  refine wpS_quiet (some 29) { dst := some 29, op := Op.build 35 #[(0, Operand.tmp 7), (1, Operand.tmp 12), (2, Operand.tmp 16), (3, Operand.tmp 20), (4, Operand.tmp 24), (5, Operand.tmp 28)], type := _, pos := _, after := _, guard := none } _ rfl rfl (by rfl) (fun wE hE => by (go_simp; try with_reducible rfl)) ?_; simp only [Act.put, List.setIfInBounds_toArray, List.set_cons_zero, List.set_cons_succ]
  have k0 := KW.cell (o := 0) rfl
  have k1 := KW.cell (o := 1) rfl
  have k2 := KW.cell (o := 2) rfl
  have k3 := KW.cell (o := 3) rfl
  have k4 := KW.cell (o := 4) rfl
  have k5 := KW.cell (o := 5) rfl
  have f0 := fun o => KW.frozen o
  refine wpS_lastK none { dst := none, op := Op.store 35 (Operand.tmp 2) (Operand.tmp 29), type := _, pos := _, after := _, guard := none } rfl rfl (by rfl) ?_
  refine ⟨_, by go_simp; try rfl, ?_⟩
  simp only [Act.put, List.setIfInBounds_toArray, List.set_cons_zero, List.set_cons_succ]
  change Exit.then _ _ _ _ _
  go_wp2
  refine bodyPost_ret (by simp [results, Try.results27, go_sem, k0, k1, k2, k3, k4, k5]; try rfl) rfl ?_
  refine ⟨rfl, ?_⟩
  refine ExtX.toExt (M := fun k => k = w.heap.size) (ExtX.trans (E0.toX _) ?_) (fun j hj => Nat.le_of_eq hj.symm)
  repeat (first | with_reducible exact ExtX.refl _ _ | with_reducible refine ExtX.drew ?_ | with_reducible refine ExtX.setCell ?_ ?_ _)
  all_goals rfl

abbrev evZero : List Value := [.bool false, .string ⟨#[]⟩, .string ⟨#[]⟩, .int .i64 0, .int .i64 0, .int .i64 0, .int .i64 0, .bool false, .string ⟨#[]⟩, .string ⟨#[]⟩, .int .i64 0, .int .i64 0, .int .i64 0, .int .i64 0]
noncomputable def ops_24_1 : Array Oper := opsAt Try.f24 1
set_option maxHeartbeats 2000000 in
set_option maxRecDepth 20000 in
theorem eventOut_any (b : Nat) (x : EvD) (w : World) (hp : x.hasPrev = false → x.prev = ⟨⟨#[]⟩, ⟨#[]⟩, 0, 0, 0, 0⟩) (h : EvAt w any x b) :
    Calls Try.prog 24 #[.pointer (some ⟨b, 0, none⟩)] w fun e w' => e = .returned (evV x) ∧ Ext w w' := by
  obtain ⟨gone, kv, hasPrev, prev⟩ := x
  obtain ⟨_, bk, pv, K, hkv, hpv⟩ := h
  have c0 := K.cell (o := 0) rfl
  have c1 := K.cell (o := 1) rfl
  have c2 := K.cell (o := 2) rfl
  have c2w := c2
  cases gone with
  | false =>
    have c0 : w.cell? ⟨b, 0, none⟩ = some (.int .i32 0) := c0
    have HK := Lib.hid hkv
    have HP := Lib.hid hpv
    have HZ := Lib.hid hp
    clear hkv hpv hp
    go_enter Try.func24, Try.ntmps24
    go_wp2_with fail
    obtain ⟨W, hW⟩ : ∃ W, W = w.alloc (.cells #[.bool false, .string ⟨#[]⟩, .string ⟨#[]⟩, .int .i64 0, .int .i64 0, .int .i64 0, .int .i64 0, .bool false, .string ⟨#[]⟩, .string ⟨#[]⟩, .int .i64 0, .int .i64 0, .int .i64 0, .int .i64 0] 37) := ⟨_, rfl⟩
    rw [← hW]
    have E : Ext w W := by rw [hW]; exact (Ext.refl w).alloc _
    have KR : Blk W w.heap.size 37 evZero := by rw [hW]; exact Blk.new w _ _
    clear hW
    have c0 := E.cellS c0
    have c1 := E.cellS c1
    have c2 := E.cellS c2
    refine wp_region_sched (ops := ops_24_1) Ext [12] (.quiet 0 (.quiet 1 (.quiet 2 (.quiet 3 (.quiet 4 (.quiet 5 (.quiet 6 (.quiet 7 (.quiet 8 (.loud 9 (.quiet 10 (.loud 11 (.last 12 (.done)) (.stop))) (.loud 11 (.loud 9 (.quiet 10 (.last 12 (.done))) (.stop)) (.stop)))))))))))) (by kernel_rfl) ext_refl ext_trans (by kernel_rfl) (fun _ _ d _ _ h => by cases d <;> exact h) ?_
    replace E := E.drew
    replace KR := KR.drew
    replace HK := Lib.hid (HK.out.ext E (fun _ h => h))
    refine wpS_quiet (some 4) { dst := some 4, op := Op.move (Operand.tmp 0), type := _, pos := _, after := _, guard := none } _ rfl rfl (by rfl) (fun wE hE => by (go_simp; try with_reducible rfl)) ?_; simp only [Act.put, List.setIfInBounds_toArray, List.set_cons_zero, List.set_cons_succ]
    refine wpS_quiet (some 5) { dst := some 5, op := Op.nilCheck (Operand.tmp 4), type := _, pos := _, after := _, guard := none } _ rfl rfl (by rfl) (fun wE hE => by (go_simp; try with_reducible rfl)) ?_; simp only [Act.put, List.setIfInBounds_toArray, List.set_cons_zero, List.set_cons_succ]
    refine wpS_quiet (some 6) { dst := some 6, op := Op.fieldAddr 73 (Operand.tmp 5) 0, type := _, pos := _, after := _, guard := none } _ rfl rfl (by rfl) (fun wE hE => by (go_simp; try with_reducible rfl)) ?_; simp only [Act.put, List.setIfInBounds_toArray, List.set_cons_zero, List.set_cons_succ]
    refine wpS_quiet (some 7) { dst := some 7, op := Op.load 69 (Operand.tmp 6), type := _, pos := _, after := _, guard := none } _ rfl rfl (by rfl) (fun wE hE => by (have zk0 := hE.cellS c0; have zk1 := hE.cellS c1; go_simp; try with_reducible rfl)) ?_; simp only [Act.put, List.setIfInBounds_toArray, List.set_cons_zero, List.set_cons_succ]
    refine wpS_quiet (some 8) { dst := some 8, op := Op.binOp BinOp.eql 69 (Operand.tmp 7) (Operand.const (Value.int IntKind.i32 1)) 69, type := _, pos := _, after := _, guard := none } _ rfl rfl (by rfl) (fun wE hE => by (go_simp; try with_reducible rfl)) ?_; simp only [Act.put, List.setIfInBounds_toArray, List.set_cons_zero, List.set_cons_succ]
    refine wpS_quiet (some 9) { dst := some 9, op := Op.move (Operand.tmp 0), type := _, pos := _, after := _, guard := none } _ rfl rfl (by rfl) (fun wE hE => by (go_simp; try with_reducible rfl)) ?_; simp only [Act.put, List.setIfInBounds_toArray, List.set_cons_zero, List.set_cons_succ]
    refine wpS_quiet (some 10) { dst := some 10, op := Op.nilCheck (Operand.tmp 9), type := _, pos := _, after := _, guard := none } _ rfl rfl (by rfl) (fun wE hE => by (go_simp; try with_reducible rfl)) ?_; simp only [Act.put, List.setIfInBounds_toArray, List.set_cons_zero, List.set_cons_succ]
    refine wpS_quiet (some 11) { dst := some 11, op := Op.fieldAddr 73 (Operand.tmp 10) 1, type := _, pos := _, after := _, guard := none } _ rfl rfl (by rfl) (fun wE hE => by (go_simp; try with_reducible rfl)) ?_; simp only [Act.put, List.setIfInBounds_toArray, List.set_cons_zero, List.set_cons_succ]
    refine wpS_quiet (some 12) { dst := some 12, op := Op.load 70 (Operand.tmp 11), type := _, pos := _, after := _, guard := none } _ rfl rfl (by rfl) (fun wE hE => by (have zk0 := hE.cellS c0; have zk1 := hE.cellS c1; go_simp; try with_reducible rfl)) ?_; simp only [Act.put, List.setIfInBounds_toArray, List.set_cons_zero, List.set_cons_succ]
    have hb := cell_lt c0
    have hb0 := K.lt
    refine wpS_callm (some 13) { dst := some 13, op := Op.call { callee := Callee.value (Operand.func 27), args := #[Operand.tmp 12], argTypes := #[70] }, type := _, pos := _, after := _, guard := none } 27 _ rfl rfl (by rfl) (by go_simp; try with_reducible rfl) ?_ ?_
    rotate_right
    · skip
      refine wpS_alloc (some 3) { dst := some 3, op := Op.alloc 37, type := _, pos := _, after := _, guard := none } _ _ rfl rfl (by rfl) (by go_simp; try with_reducible rfl) ?_ ?_ trivial
      exact fun w' h => h
      intro bx w3 hbx e3 KX
      have gx : w.heap.size < bx := by (have := KR.lt; omega)
      clear hbx
      replace KR := KR.ext e3
      (try replace HK := Lib.hid (HK.out.ext e3 (fun _ h => h)))
      have E := E.trans e3
      simp only [Act.put, List.setIfInBounds_toArray, List.set_cons_zero, List.set_cons_succ]
      refine wpS_callm (some 13) { dst := some 13, op := Op.call { callee := Callee.value (Operand.func 27), args := #[Operand.tmp 12], argTypes := #[70] }, type := _, pos := _, after := _, guard := none } 27 _ rfl rfl (by rfl) (by go_simp; try with_reducible rfl) ?_ trivial
      refine (kvOf_any bk kv w3 HK.out).mono ?_
      rintro e w2 ⟨rfl, e2⟩
      refine ⟨_, rfl, e2, ?_⟩
      (try replace KX := KX.ext e2)
      replace KR := KR.ext e2
      have E := E.trans e2
      simp only [Act.put, List.setIfInBounds_toArray, List.set_cons_zero, List.set_cons_succ]
      refine wpS_quiet (some 14) { dst := some 14, op := Op.build 37 #[(0, Operand.tmp 8), (1, Operand.tmp 13)], type := _, pos := _, after := _, guard := none } _ rfl rfl (by rfl) (fun wE hE => by (go_simp; try with_reducible rfl)) ?_; simp only [Act.put, List.setIfInBounds_toArray, List.set_cons_zero, List.set_cons_succ]
      refine wpS_store none { dst := none, op := Op.store 37 (Operand.tmp 3) (Operand.tmp 14), type := _, pos := _, after := _, guard := none } rfl rfl (by rfl) (.tmp 3) (.tmp 14) 37 rfl rfl rfl rfl KX rfl (Nat.le_refl 14) rfl ?_
      intro w4 K4 x4
      have X4 := (E.toX (fun k => k = bx)).trans x4
      replace KR := KR.extX x4 (by omega)
      simp only [Act.put, List.setIfInBounds_toArray, List.set_cons_zero, List.set_cons_succ]
      change Exit.then _ _ _ _ _
      have c2 := X4.cellS (p := ⟨b, 2, none⟩) (by simp only []; omega) c2w
      cases hasPrev with
      | false =>
        obtain rfl := HP.out
        go_wp2_with (first | (refine wpList_load_row rfl 37 (.tmp 3) rfl bx rfl 37 _ (0, 0) _ K4 Try.underlying37 rfl rfl ?_) | (refine wpList_store rfl rfl (.tmp 2) (.tmp 27) 37 rfl rfl rfl rfl KR rfl (Nat.le_refl 14) rfl ?_; intro w6 K6 x6))
        refine bodyPost_ret (results_cell_row rfl _ _ w.heap.size _ _ (0, 0) _ rfl K6 Try.underlying37 rfl rfl) rfl ?_
        refine ⟨?_, ?_⟩
        · obtain rfl := HZ.out (by simp)
          rfl
        · exact ((X4.mono (M' := fun k => k = bx ∨ k = w.heap.size) (fun k _ h => .inl h)).trans' x6 (fun k _ h => .inr h)).toExt (fun k hk => by omega)
      | true =>
        obtain ⟨bp, rfl, hpp⟩ := HP.out
        have HPP := Lib.hid (KvAt.extX (M := fun k => k = bx) (ok' := fun j => j < w.heap.size) hpp.lt X4 (fun j hk hj => ⟨by show ¬ (j = bx); omega, hj⟩))
        clear hpp
        go_wp2_with (refine wpList_store rfl rfl (.tmp 20) (.const (.bool true)) 4 rfl rfl rfl rfl K4 rfl (Nat.le_of_ble_eq_true rfl) rfl ?_; intro w5 K5 x5; have c2 := x5.cellS (p := ⟨b, 2, none⟩) (by simp only []; omega) c2)
        refine (kvOf_any bp prev w5 (KvAt.extX (M := fun k => k = bx) HPP.out x5 (fun j hk hj => ⟨by show ¬ (j = bx); have hk : j < w.heap.size := hk; omega, trivial⟩))).mono ?_
        rintro e w6 ⟨rfl, e6⟩
        replace K5 := K5.ext e6
        replace KR := (KR.extX x5 (by omega)).ext e6
        go_wp2_with (first | (refine wpList_store rfl rfl (.tmp 26) (.tmp 25) 35 rfl rfl rfl rfl K5 rfl (Nat.le_of_ble_eq_true rfl) rfl ?_; intro w7 K7 x7; replace KR := KR.extX x7 (by omega)) | (refine wpList_load_row rfl 37 (.tmp 3) rfl bx rfl 37 _ (0, 0) _ K7 Try.underlying37 rfl rfl ?_) | (refine wpList_store rfl rfl (.tmp 2) (.tmp 27) 37 rfl rfl rfl rfl KR rfl (Nat.le_of_ble_eq_true rfl) rfl ?_; intro w8 K8 x8))
        refine bodyPost_ret (results_cell_row rfl _ _ w.heap.size _ _ (0, 0) _ rfl K8 Try.underlying37 rfl rfl) rfl ?_
        refine ⟨rfl, ?_⟩
        exact (((((X4.trans x5).trans (e6.toX _)).trans x7).mono (M' := fun k => k = bx ∨ k = w.heap.size) (fun k _ h => .inl h)).trans' x8 (fun k _ h => .inr h)).toExt (fun k hk => by omega)
    refine (kvOf_any bk kv W.drew HK.out).mono ?_
    rintro e w2 ⟨rfl, e2⟩
    refine ⟨_, rfl, e2, ?_⟩
    (try replace KX := KX.ext e2)
    replace KR := KR.ext e2
    have E := E.trans e2
    simp only [Act.put, List.setIfInBounds_toArray, List.set_cons_zero, List.set_cons_succ]
    refine wpS_quiet (some 14) { dst := some 14, op := Op.build 37 #[(0, Operand.tmp 8), (1, Operand.tmp 13)], type := _, pos := _, after := _, guard := none } _ rfl rfl (by rfl) (fun wE hE => by (go_simp; try with_reducible rfl)) ?_; simp only [Act.put, List.setIfInBounds_toArray, List.set_cons_zero, List.set_cons_succ]
    refine wpS_alloc (some 3) { dst := some 3, op := Op.alloc 37, type := _, pos := _, after := _, guard := none } _ _ rfl rfl (by rfl) (by go_simp; try with_reducible rfl) ?_ ?_ trivial
    exact fun w' h => h
    intro bx w3 hbx e3 KX
    have gx : w.heap.size < bx := by (have := KR.lt; omega)
    clear hbx
    replace KR := KR.ext e3
    (try replace HK := Lib.hid (HK.out.ext e3 (fun _ h => h)))
    have E := E.trans e3
    simp only [Act.put, List.setIfInBounds_toArray, List.set_cons_zero, List.set_cons_succ]
    refine wpS_store none { dst := none, op := Op.store 37 (Operand.tmp 3) (Operand.tmp 14), type := _, pos := _, after := _, guard := none } rfl rfl (by rfl) (.tmp 3) (.tmp 14) 37 rfl rfl rfl rfl KX rfl (Nat.le_refl 14) rfl ?_
    intro w4 K4 x4
    have X4 := (E.toX (fun k => k = bx)).trans x4
    replace KR := KR.extX x4 (by omega)
    simp only [Act.put, List.setIfInBounds_toArray, List.set_cons_zero, List.set_cons_succ]
    change Exit.then _ _ _ _ _
    have c2 := X4.cellS (p := ⟨b, 2, none⟩) (by simp only []; omega) c2w
    cases hasPrev with
    | false =>
      obtain rfl := HP.out
      go_wp2_with (first | (refine wpList_load_row rfl 37 (.tmp 3) rfl bx rfl 37 _ (0, 0) _ K4 Try.underlying37 rfl rfl ?_) | (refine wpList_store rfl rfl (.tmp 2) (.tmp 27) 37 rfl rfl rfl rfl KR rfl (Nat.le_refl 14) rfl ?_; intro w6 K6 x6))
      refine bodyPost_ret (results_cell_row rfl _ _ w.heap.size _ _ (0, 0) _ rfl K6 Try.underlying37 rfl rfl) rfl ?_
      refine ⟨?_, ?_⟩
      · obtain rfl := HZ.out (by simp)
        rfl
      · exact ((X4.mono (M' := fun k => k = bx ∨ k = w.heap.size) (fun k _ h => .inl h)).trans' x6 (fun k _ h => .inr h)).toExt (fun k hk => by omega)
    | true =>
      obtain ⟨bp, rfl, hpp⟩ := HP.out
      have HPP := Lib.hid (KvAt.extX (M := fun k => k = bx) (ok' := fun j => j < w.heap.size) hpp.lt X4 (fun j hk hj => ⟨by show ¬ (j = bx); omega, hj⟩))
      clear hpp
      go_wp2_with (refine wpList_store rfl rfl (.tmp 20) (.const (.bool true)) 4 rfl rfl rfl rfl K4 rfl (Nat.le_of_ble_eq_true rfl) rfl ?_; intro w5 K5 x5; have c2 := x5.cellS (p := ⟨b, 2, none⟩) (by simp only []; omega) c2)
      refine (kvOf_any bp prev w5 (KvAt.extX (M := fun k => k = bx) HPP.out x5 (fun j hk hj => ⟨by show ¬ (j = bx); have hk : j < w.heap.size := hk; omega, trivial⟩))).mono ?_
      rintro e w6 ⟨rfl, e6⟩
      replace K5 := K5.ext e6
      replace KR := (KR.extX x5 (by omega)).ext e6
      go_wp2_with (first | (refine wpList_store rfl rfl (.tmp 26) (.tmp 25) 35 rfl rfl rfl rfl K5 rfl (Nat.le_of_ble_eq_true rfl) rfl ?_; intro w7 K7 x7; replace KR := KR.extX x7 (by omega)) | (refine wpList_load_row rfl 37 (.tmp 3) rfl bx rfl 37 _ (0, 0) _ K7 Try.underlying37 rfl rfl ?_) | (refine wpList_store rfl rfl (.tmp 2) (.tmp 27) 37 rfl rfl rfl rfl KR rfl (Nat.le_of_ble_eq_true rfl) rfl ?_; intro w8 K8 x8))
      refine bodyPost_ret (results_cell_row rfl _ _ w.heap.size _ _ (0, 0) _ rfl K8 Try.underlying37 rfl rfl) rfl ?_
      refine ⟨rfl, ?_⟩
      exact (((((X4.trans x5).trans (e6.toX _)).trans x7).mono (M' := fun k => k = bx ∨ k = w.heap.size) (fun k _ h => .inl h)).trans' x8 (fun k _ h => .inr h)).toExt (fun k hk => by omega)
  | true =>
    have c0 : w.cell? ⟨b, 0, none⟩ = some (.int .i32 1) := c0
    have HK := Lib.hid hkv
    have HP := Lib.hid hpv
    have HZ := Lib.hid hp
    clear hkv hpv hp
    go_enter Try.func24, Try.ntmps24
    go_wp2_with fail
    obtain ⟨W, hW⟩ : ∃ W, W = w.alloc (.cells #[.bool false, .string ⟨#[]⟩, .string ⟨#[]⟩, .int .i64 0, .int .i64 0, .int .i64 0, .int .i64 0, .bool false, .string ⟨#[]⟩, .string ⟨#[]⟩, .int .i64 0, .int .i64 0, .int .i64 0, .int .i64 0] 37) := ⟨_, rfl⟩
    rw [← hW]
    have E : Ext w W := by rw [hW]; exact (Ext.refl w).alloc _
    have KR : Blk W w.heap.size 37 evZero := by rw [hW]; exact Blk.new w _ _
    clear hW
    have c0 := E.cellS c0
    have c1 := E.cellS c1
    have c2 := E.cellS c2
    refine wp_region_sched (ops := ops_24_1) Ext [12] (.quiet 0 (.quiet 1 (.quiet 2 (.quiet 3 (.quiet 4 (.quiet 5 (.quiet 6 (.quiet 7 (.quiet 8 (.loud 9 (.quiet 10 (.loud 11 (.last 12 (.done)) (.stop))) (.loud 11 (.loud 9 (.quiet 10 (.last 12 (.done))) (.stop)) (.stop)))))))))))) (by kernel_rfl) ext_refl ext_trans (by kernel_rfl) (fun _ _ d _ _ h => by cases d <;> exact h) ?_
    replace E := E.drew
    replace KR := KR.drew
    replace HK := Lib.hid (HK.out.ext E (fun _ h => h))
    refine wpS_quiet (some 4) { dst := some 4, op := Op.move (Operand.tmp 0), type := _, pos := _, after := _, guard := none } _ rfl rfl (by rfl) (fun wE hE => by (go_simp; try with_reducible rfl)) ?_; simp only [Act.put, List.setIfInBounds_toArray, List.set_cons_zero, List.set_cons_succ]
    refine wpS_quiet (some 5) { dst := some 5, op := Op.nilCheck (Operand.tmp 4), type := _, pos := _, after := _, guard := none } _ rfl rfl (by rfl) (fun wE hE => by (go_simp; try with_reducible rfl)) ?_; simp only [Act.put, List.setIfInBounds_toArray, List.set_cons_zero, List.set_cons_succ]
    refine wpS_quiet (some 6) { dst := some 6, op := Op.fieldAddr 73 (Operand.tmp 5) 0, type := _, pos := _, after := _, guard := none } _ rfl rfl (by rfl) (fun wE hE => by (go_simp; try with_reducible rfl)) ?_; simp only [Act.put, List.setIfInBounds_toArray, List.set_cons_zero, List.set_cons_succ]
    refine wpS_quiet (some 7) { dst := some 7, op := Op.load 69 (Operand.tmp 6), type := _, pos := _, after := _, guard := none } _ rfl rfl (by rfl) (fun wE hE => by (have zk0 := hE.cellS c0; have zk1 := hE.cellS c1; go_simp; try with_reducible rfl)) ?_; simp only [Act.put, List.setIfInBounds_toArray, List.set_cons_zero, List.set_cons_succ]
    refine wpS_quiet (some 8) { dst := some 8, op := Op.binOp BinOp.eql 69 (Operand.tmp 7) (Operand.const (Value.int IntKind.i32 1)) 69, type := _, pos := _, after := _, guard := none } _ rfl rfl (by rfl) (fun wE hE => by (go_simp; try with_reducible rfl)) ?_; simp only [Act.put, List.setIfInBounds_toArray, List.set_cons_zero, List.set_cons_succ]
    refine wpS_quiet (some 9) { dst := some 9, op := Op.move (Operand.tmp 0), type := _, pos := _, after := _, guard := none } _ rfl rfl (by rfl) (fun wE hE => by (go_simp; try with_reducible rfl)) ?_; simp only [Act.put, List.setIfInBounds_toArray, List.set_cons_zero, List.set_cons_succ]
    refine wpS_quiet (some 10) { dst := some 10, op := Op.nilCheck (Operand.tmp 9), type := _, pos := _, after := _, guard := none } _ rfl rfl (by rfl) (fun wE hE => by (go_simp; try with_reducible rfl)) ?_; simp only [Act.put, List.setIfInBounds_toArray, List.set_cons_zero, List.set_cons_succ]
    refine wpS_quiet (some 11) { dst := some 11, op := Op.fieldAddr 73 (Operand.tmp 10) 1, type := _, pos := _, after := _, guard := none } _ rfl rfl (by rfl) (fun wE hE => by (go_simp; try with_reducible rfl)) ?_; simp only [Act.put, List.setIfInBounds_toArray, List.set_cons_zero, List.set_cons_succ]
    refine wpS_quiet (some 12) { dst := some 12, op := Op.load 70 (Operand.tmp 11), type := _, pos := _, after := _, guard := none } _ rfl rfl (by rfl) (fun wE hE => by (have zk0 := hE.cellS c0; have zk1 := hE.cellS c1; go_simp; try with_reducible rfl)) ?_; simp only [Act.put, List.setIfInBounds_toArray, List.set_cons_zero, List.set_cons_succ]
    have hb := cell_lt c0
    have hb0 := K.lt
    refine wpS_callm (some 13) { dst := some 13, op := Op.call { callee := Callee.value (Operand.func 27), args := #[Operand.tmp 12], argTypes := #[70] }, type := _, pos := _, after := _, guard := none } 27 _ rfl rfl (by rfl) (by go_simp; try with_reducible rfl) ?_ ?_
    rotate_right
    · skip
      refine wpS_alloc (some 3) { dst := some 3, op := Op.alloc 37, type := _, pos := _, after := _, guard := none } _ _ rfl rfl (by rfl) (by go_simp; try with_reducible rfl) ?_ ?_ trivial
      exact fun w' h => h
      intro bx w3 hbx e3 KX
      have gx : w.heap.size < bx := by (have := KR.lt; omega)
      clear hbx
      replace KR := KR.ext e3
      (try replace HK := Lib.hid (HK.out.ext e3 (fun _ h => h)))
      have E := E.trans e3
      simp only [Act.put, List.setIfInBounds_toArray, List.set_cons_zero, List.set_cons_succ]
      refine wpS_callm (some 13) { dst := some 13, op := Op.call { callee := Callee.value (Operand.func 27), args := #[Operand.tmp 12], argTypes := #[70] }, type := _, pos := _, after := _, guard := none } 27 _ rfl rfl (by rfl) (by go_simp; try with_reducible rfl) ?_ trivial
      refine (kvOf_any bk kv w3 HK.out).mono ?_
      rintro e w2 ⟨rfl, e2⟩
      refine ⟨_, rfl, e2, ?_⟩
      (try replace KX := KX.ext e2)
      replace KR := KR.ext e2
      have E := E.trans e2
      simp only [Act.put, List.setIfInBounds_toArray, List.set_cons_zero, List.set_cons_succ]
      refine wpS_quiet (some 14) { dst := some 14, op := Op.build 37 #[(0, Operand.tmp 8), (1, Operand.tmp 13)], type := _, pos := _, after := _, guard := none } _ rfl rfl (by rfl) (fun wE hE => by (go_simp; try with_reducible rfl)) ?_; simp only [Act.put, List.setIfInBounds_toArray, List.set_cons_zero, List.set_cons_succ]
      refine wpS_store none { dst := none, op := Op.store 37 (Operand.tmp 3) (Operand.tmp 14), type := _, pos := _, after := _, guard := none } rfl rfl (by rfl) (.tmp 3) (.tmp 14) 37 rfl rfl rfl rfl KX rfl (Nat.le_refl 14) rfl ?_
      intro w4 K4 x4
      have X4 := (E.toX (fun k => k = bx)).trans x4
      replace KR := KR.extX x4 (by omega)
      simp only [Act.put, List.setIfInBounds_toArray, List.set_cons_zero, List.set_cons_succ]
      change Exit.then _ _ _ _ _
      have c2 := X4.cellS (p := ⟨b, 2, none⟩) (by simp only []; omega) c2w
      cases hasPrev with
      | false =>
        obtain rfl := HP.out
        go_wp2_with (first | (refine wpList_load_row rfl 37 (.tmp 3) rfl bx rfl 37 _ (0, 0) _ K4 Try.underlying37 rfl rfl ?_) | (refine wpList_store rfl rfl (.tmp 2) (.tmp 27) 37 rfl rfl rfl rfl KR rfl (Nat.le_refl 14) rfl ?_; intro w6 K6 x6))
        refine bodyPost_ret (results_cell_row rfl _ _ w.heap.size _ _ (0, 0) _ rfl K6 Try.underlying37 rfl rfl) rfl ?_
        refine ⟨?_, ?_⟩
        · obtain rfl := HZ.out (by simp)
          rfl
        · exact ((X4.mono (M' := fun k => k = bx ∨ k = w.heap.size) (fun k _ h => .inl h)).trans' x6 (fun k _ h => .inr h)).toExt (fun k hk => by omega)
      | true =>
        obtain ⟨bp, rfl, hpp⟩ := HP.out
        have HPP := Lib.hid (KvAt.extX (M := fun k => k = bx) (ok' := fun j => j < w.heap.size) hpp.lt X4 (fun j hk hj => ⟨by show ¬ (j = bx); omega, hj⟩))
        clear hpp
        go_wp2_with (refine wpList_store rfl rfl (.tmp 20) (.const (.bool true)) 4 rfl rfl rfl rfl K4 rfl (Nat.le_of_ble_eq_true rfl) rfl ?_; intro w5 K5 x5; have c2 := x5.cellS (p := ⟨b, 2, none⟩) (by simp only []; omega) c2)
        refine (kvOf_any bp prev w5 (KvAt.extX (M := fun k => k = bx) HPP.out x5 (fun j hk hj => ⟨by show ¬ (j = bx); have hk : j < w.heap.size := hk; omega, trivial⟩))).mono ?_
        rintro e w6 ⟨rfl, e6⟩
        replace K5 := K5.ext e6
        replace KR := (KR.extX x5 (by omega)).ext e6
        go_wp2_with (first | (refine wpList_store rfl rfl (.tmp 26) (.tmp 25) 35 rfl rfl rfl rfl K5 rfl (Nat.le_of_ble_eq_true rfl) rfl ?_; intro w7 K7 x7; replace KR := KR.extX x7 (by omega)) | (refine wpList_load_row rfl 37 (.tmp 3) rfl bx rfl 37 _ (0, 0) _ K7 Try.underlying37 rfl rfl ?_) | (refine wpList_store rfl rfl (.tmp 2) (.tmp 27) 37 rfl rfl rfl rfl KR rfl (Nat.le_of_ble_eq_true rfl) rfl ?_; intro w8 K8 x8))
        refine bodyPost_ret (results_cell_row rfl _ _ w.heap.size _ _ (0, 0) _ rfl K8 Try.underlying37 rfl rfl) rfl ?_
        refine ⟨rfl, ?_⟩
        exact (((((X4.trans x5).trans (e6.toX _)).trans x7).mono (M' := fun k => k = bx ∨ k = w.heap.size) (fun k _ h => .inl h)).trans' x8 (fun k _ h => .inr h)).toExt (fun k hk => by omega)
    refine (kvOf_any bk kv W.drew HK.out).mono ?_
    rintro e w2 ⟨rfl, e2⟩
    refine ⟨_, rfl, e2, ?_⟩
    (try replace KX := KX.ext e2)
    replace KR := KR.ext e2
    have E := E.trans e2
    simp only [Act.put, List.setIfInBounds_toArray, List.set_cons_zero, List.set_cons_succ]
    refine wpS_quiet (some 14) { dst := some 14, op := Op.build 37 #[(0, Operand.tmp 8), (1, Operand.tmp 13)], type := _, pos := _, after := _, guard := none } _ rfl rfl (by rfl) (fun wE hE => by (go_simp; try with_reducible rfl)) ?_; simp only [Act.put, List.setIfInBounds_toArray, List.set_cons_zero, List.set_cons_succ]
    refine wpS_alloc (some 3) { dst := some 3, op := Op.alloc 37, type := _, pos := _, after := _, guard := none } _ _ rfl rfl (by rfl) (by go_simp; try with_reducible rfl) ?_ ?_ trivial
    exact fun w' h => h
    intro bx w3 hbx e3 KX
    have gx : w.heap.size < bx := by (have := KR.lt; omega)
    clear hbx
    replace KR := KR.ext e3
    (try replace HK := Lib.hid (HK.out.ext e3 (fun _ h => h)))
    have E := E.trans e3
    simp only [Act.put, List.setIfInBounds_toArray, List.set_cons_zero, List.set_cons_succ]
    refine wpS_store none { dst := none, op := Op.store 37 (Operand.tmp 3) (Operand.tmp 14), type := _, pos := _, after := _, guard := none } rfl rfl (by rfl) (.tmp 3) (.tmp 14) 37 rfl rfl rfl rfl KX rfl (Nat.le_refl 14) rfl ?_
    intro w4 K4 x4
    have X4 := (E.toX (fun k => k = bx)).trans x4
    replace KR := KR.extX x4 (by omega)
    simp only [Act.put, List.setIfInBounds_toArray, List.set_cons_zero, List.set_cons_succ]
    change Exit.then _ _ _ _ _
    have c2 := X4.cellS (p := ⟨b, 2, none⟩) (by simp only []; omega) c2w
    cases hasPrev with
    | false =>
      obtain rfl := HP.out
      go_wp2_with (first | (refine wpList_load_row rfl 37 (.tmp 3) rfl bx rfl 37 _ (0, 0) _ K4 Try.underlying37 rfl rfl ?_) | (refine wpList_store rfl rfl (.tmp 2) (.tmp 27) 37 rfl rfl rfl rfl KR rfl (Nat.le_refl 14) rfl ?_; intro w6 K6 x6))
      refine bodyPost_ret (results_cell_row rfl _ _ w.heap.size _ _ (0, 0) _ rfl K6 Try.underlying37 rfl rfl) rfl ?_
      refine ⟨?_, ?_⟩
      · obtain rfl := HZ.out (by simp)
        rfl
      · exact ((X4.mono (M' := fun k => k = bx ∨ k = w.heap.size) (fun k _ h => .inl h)).trans' x6 (fun k _ h => .inr h)).toExt (fun k hk => by omega)
    | true =>
      obtain ⟨bp, rfl, hpp⟩ := HP.out
      have HPP := Lib.hid (KvAt.extX (M := fun k => k = bx) (ok' := fun j => j < w.heap.size) hpp.lt X4 (fun j hk hj => ⟨by show ¬ (j = bx); omega, hj⟩))
      clear hpp
      go_wp2_with (refine wpList_store rfl rfl (.tmp 20) (.const (.bool true)) 4 rfl rfl rfl rfl K4 rfl (Nat.le_of_ble_eq_true rfl) rfl ?_; intro w5 K5 x5; have c2 := x5.cellS (p := ⟨b, 2, none⟩) (by simp only []; omega) c2)
      refine (kvOf_any bp prev w5 (KvAt.extX (M := fun k => k = bx) HPP.out x5 (fun j hk hj => ⟨by show ¬ (j = bx); have hk : j < w.heap.size := hk; omega, trivial⟩))).mono ?_
      rintro e w6 ⟨rfl, e6⟩
      replace K5 := K5.ext e6
      replace KR := (KR.extX x5 (by omega)).ext e6
      go_wp2_with (first | (refine wpList_store rfl rfl (.tmp 26) (.tmp 25) 35 rfl rfl rfl rfl K5 rfl (Nat.le_of_ble_eq_true rfl) rfl ?_; intro w7 K7 x7; replace KR := KR.extX x7 (by omega)) | (refine wpList_load_row rfl 37 (.tmp 3) rfl bx rfl 37 _ (0, 0) _ K7 Try.underlying37 rfl rfl ?_) | (refine wpList_store rfl rfl (.tmp 2) (.tmp 27) 37 rfl rfl rfl rfl KR rfl (Nat.le_of_ble_eq_true rfl) rfl ?_; intro w8 K8 x8))
      refine bodyPost_ret (results_cell_row rfl _ _ w.heap.size _ _ (0, 0) _ rfl K8 Try.underlying37 rfl rfl) rfl ?_
      refine ⟨rfl, ?_⟩
      exact (((((X4.trans x5).trans (e6.toX _)).trans x7).mono (M' := fun k => k = bx ∨ k = w.heap.size) (fun k _ h => .inl h)).trans' x8 (fun k _ h => .inr h)).toExt (fun k hk => by omega)
end Go.Proofs.Ytmimpfenlhfkiaa
