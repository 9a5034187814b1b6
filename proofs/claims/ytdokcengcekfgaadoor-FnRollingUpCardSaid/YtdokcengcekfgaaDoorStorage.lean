/-
  The walk of FnDecideStorage.
-/
import Derived.Test.YtdokcengcekfgaaDoorAwake
namespace Go.Proofs.YtdokcengcekfgaaDoor
open Go.RowKit
set_option linter.unusedSimpArgs false
set_option linter.unusedVariables false

theorem gd_load {w : World} {b : Nat} {g : GD} {A : Option Addr} {n cap : Nat} (K : Blk w b 24 (gdCells g A n cap)) :
    w.cell? ⟨b, 0, none⟩ = some (.string g.cluster) ∧ w.cell? ⟨b, 1, none⟩ = some (.string g.storage) ∧ w.cell? ⟨b, 2, none⟩ = some (.string g.target) ∧ w.cell? ⟨b, 3, none⟩ = some (.bool g.down) ∧ w.cell? ⟨b, 4, none⟩ = some (.bool g.hasDown) ∧ w.cell? ⟨b, 5, none⟩ = some (.slice A n cap) :=
  ⟨K.cell rfl, K.cell rfl, K.cell rfl, K.cell rfl, K.cell rfl, K.cell rfl⟩
noncomputable def ops_4_5 : Array Oper := opsAt Tryd.f4 5
set_option maxRecDepth 20000 in
set_option maxHeartbeats 4000000 in
theorem walk_DecideStorage (g : GD) (A : Option Addr) (n cap : Nat) (w : World) (hn : n = g.members.length) (hm : (Rp.slice Rp.str).K w any g.members [.slice A n cap]) (hw : VarsOk w) :
    Calls Tryd.prog 4 #[gdV g A n cap] w fun e w' => e = .returned (.bool true) ∧ Ext w w' := by
  have HM := Lib.hid hm
  have HW := Lib.hid hw
  have HN := Lib.hid hn
  clear hm hw hn
  go_enter Tryd.func4, Tryd.ntmps4
  go_wp2_with fail
  obtain ⟨W, hW⟩ : ∃ W, W = w.alloc (.cells (gdCells g A n cap).toArray 24) := ⟨_, rfl⟩
  have EW : Ext w W := by rw [hW]; exact (Ext.refl w).alloc _
  have KV : Blk W w.heap.size 24 (gdCells g A n cap) := by rw [hW]; exact Blk.new w _ _
  change Calls _ _ _ (w.alloc (.cells (gdCells g A n cap).toArray 24)) _
  rw [← hW]
  clear hW
  refine (fits36 g A n cap W HN.out ((Rp.slice Rp.str).ext' EW HM.out)).mono ?_
  rintro e w1 ⟨c, rfl, hf, E1⟩
  replace hf := Lib.hid hf
  have E01 := EW.trans E1
  have KV1 := KV.ext E1
  cases c with
  | false =>
    go_wp2
    go_ret
    exact ⟨rfl, E01⟩
  | true =>
  have HF : Hid g.fits := Lib.hid (by simpa using hf.out)
  obtain ⟨s0, s1, s2, s3, s4, s5⟩ := gd_load KV1
  go_wp2_with fail
  refine (verGood_any g A n cap w1 HN.out ((Rp.slice Rp.str).ext' E01 HM.out) HF.out).mono ?_
  rintro e w2 ⟨c, rfl, hok, E2⟩
  have E02 := E01.trans E2
  have KV2 := KV1.ext E2
  replace hok := Lib.hid hok
  clear s0 s1 s2 s3 s4 s5
  cases c with
  | false =>
    go_wp2
    go_ret
    exact ⟨rfl, E02⟩
  | true =>
    have HOK : Hid g.ok := Lib.hid (by simpa using hok.out)
    obtain ⟨s0, s1, s2, s3, s4, s5⟩ := gd_load KV2
    go_wp2_with fail
    have qe := vote_eql (stVote vote0 (storageD (verOfD g.cluster) (verOfD g.storage)))
    refine wp_region_sched (ops := ops_4_5) Ext [] (.quiet 0 (.quiet 2 (.loud 1 (.loud 3 (.quiet 4 (.quiet 5 (.loud 6 (.quiet 7 (.quiet 8 (.done))) (.stop)))) (.stop)) (.stop)))) (by kernel_rfl) ext_refl ext_trans (by kernel_rfl) (fun _ _ d _ _ h => by cases d <;> exact h) ?_
    refine wpS_quiet (some 9) { dst := some 9, op := Op.load 24 (Operand.tmp 1), type := _, pos := _, after := _, guard := none } _ rfl rfl (by rfl) (fun wE hE => by (have zk0 := hE.cellS s0; have zk1 := hE.cellS s1; have zk2 := hE.cellS s2; have zk3 := hE.cellS s3; have zk4 := hE.cellS s4; have zk5 := hE.cellS s5; go_simp; try with_reducible rfl)) ?_; simp only [Act.put, List.setIfInBounds_toArray, List.set_cons_zero, List.set_cons_succ]
    refine wpS_quiet (some 11) { dst := some 11, op := Op.load 24 (Operand.tmp 1), type := _, pos := _, after := _, guard := none } _ rfl rfl (by rfl) (fun wE hE => by (have zk0 := hE.cellS s0; have zk1 := hE.cellS s1; have zk2 := hE.cellS s2; have zk3 := hE.cellS s3; have zk4 := hE.cellS s4; have zk5 := hE.cellS s5; go_simp; try with_reducible rfl)) ?_; simp only [Act.put, List.setIfInBounds_toArray, List.set_cons_zero, List.set_cons_succ]
    refine wpS_call (some 10) { dst := some 10, op := Op.call { callee := Callee.value (Operand.func 16), args := #[Operand.tmp 9], argTypes := #[24] }, type := _, pos := _, after := _, guard := none } 16 _ rfl rfl (by rfl) (by go_simp; try first | with_reducible rfl | exact ⟨rfl, rfl⟩) ?_
    refine (implStorage_any g A n cap _ HOK.out (HW.out.ext E02.drew)).mono ?_; rintro e w3 ⟨rfl, e3⟩; refine ⟨_, rfl, e3, ?_⟩; simp only [Act.put, List.setIfInBounds_toArray, List.set_cons_zero, List.set_cons_succ]
    refine wpS_call (some 12) { dst := some 12, op := Op.call { callee := Callee.value (Operand.func 17), args := #[Operand.tmp 11], argTypes := #[24] }, type := _, pos := _, after := _, guard := none } 17 _ rfl rfl (by rfl) (by go_simp; try first | with_reducible rfl | exact ⟨rfl, rfl⟩) ?_
    refine (specStorage_any g A n cap w3 HOK.out).mono ?_; rintro e w4 ⟨rfl, e4⟩; refine ⟨_, rfl, e4, ?_⟩; simp only [Act.put, List.setIfInBounds_toArray, List.set_cons_zero, List.set_cons_succ]
    refine wpS_quiet (some 13) { dst := some 13, op := Op.binOp BinOp.eql 30 (Operand.tmp 10) (Operand.tmp 12) 30, type := _, pos := _, after := _, guard := none } _ rfl rfl (by rfl) (fun wE hE => by (go_simp; try with_reducible rfl)) ?_; simp only [Act.put, List.setIfInBounds_toArray, List.set_cons_zero, List.set_cons_succ]
    refine wpS_quiet (some 14) { dst := some 14, op := Op.move (Operand.tmp 13), type := _, pos := _, after := _, guard := none } _ rfl rfl (by rfl) (fun wE hE => by (go_simp; try with_reducible rfl)) ?_; simp only [Act.put, List.setIfInBounds_toArray, List.set_cons_zero, List.set_cons_succ]
    refine wpS_call (some 15) { dst := some 15, op := Op.call { callee := Callee.value (Operand.func 15), args := #[], argTypes := #[] }, type := _, pos := _, after := _, guard := some (5, true) } 15 _ rfl rfl (by rfl) (by go_simp; try first | with_reducible rfl | exact ⟨rfl, rfl⟩) ?_
    refine (awake_any w4 (HW.out.ext ((E02.trans e3.undrew).trans e4))).mono ?_; rintro e w5 ⟨rfl, e5⟩; refine ⟨_, rfl, e5, ?_⟩; simp only [Act.put, List.setIfInBounds_toArray, List.set_cons_zero, List.set_cons_succ]
    refine wpS_quiet (some 16) { dst := some 16, op := Op.pick (Operand.tmp 14) (Operand.tmp 15) (Operand.const (Value.bool false)), type := _, pos := _, after := _, guard := none } _ rfl rfl (by rfl) (fun wE hE => by (go_simp; try with_reducible rfl)) ?_; simp only [Act.put, List.setIfInBounds_toArray, List.set_cons_zero, List.set_cons_succ]
    refine wpS_quiet (some 2) { dst := some 2, op := Op.assign (Operand.tmp 16), type := _, pos := _, after := _, guard := none } _ rfl rfl (by rfl) (fun wE hE => by (go_simp; try with_reducible rfl)) ?_; simp only [Act.put, List.setIfInBounds_toArray, List.set_cons_zero, List.set_cons_succ]
    change Exit.then _ _ _ _ _
    go_wp2
    go_ret
    exact ⟨rfl, ((E02.trans e3.undrew).trans e4).trans e5⟩
end Go.Proofs.YtdokcengcekfgaaDoor
