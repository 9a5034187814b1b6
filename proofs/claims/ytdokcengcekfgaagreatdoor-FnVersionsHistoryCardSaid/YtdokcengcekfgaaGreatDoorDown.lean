/-
  A manager of versions validates and enables a downgrade (Manager.DowngradeValidate, DowngradeEnable), and the errors' numbers (impl.voteKind).
-/
import Derived.Test.YtdokcengcekfgaaGreatDoorUpd
namespace Go.Proofs.YtdokcengcekfgaaGreatDoor
open Go.RowKit Go.Maps Go.WideMaps
set_option linter.unusedSimpArgs false
set_option linter.unusedVariables false

abbrev errTarget : Value := .iface 80 (.string ⟨#[101, 116, 99, 100, 115, 101, 114, 118, 101, 114, 58, 32, 105, 110, 118, 97, 108, 105, 100, 32, 100, 111, 119, 110, 103, 114, 97, 100, 101, 32, 116, 97, 114, 103, 101, 116, 32, 118, 101, 114, 115, 105, 111, 110]⟩)
abbrev errProc : Value := .iface 80 (.string ⟨#[101, 116, 99, 100, 115, 101, 114, 118, 101, 114, 58, 32, 99, 108, 117, 115, 116, 101, 114, 32, 104, 97, 115, 32, 97, 32, 100, 111, 119, 110, 103, 114, 97, 100, 101, 32, 106, 111, 98, 32, 105, 110, 32, 112, 114, 111, 103, 114, 101, 115, 115]⟩)
abbrev errNone : Value := .iface 80 (.string ⟨#[101, 116, 99, 100, 115, 101, 114, 118, 101, 114, 58, 32, 110, 111, 32, 105, 110, 102, 108, 105, 103, 104, 116, 32, 100, 111, 119, 110, 103, 114, 97, 100, 101, 32, 106, 111, 98]⟩)
/-- an error by its number -/
def errOf : Nat → Value
  | 0 => .nilIface
  | 1 => errTarget
  | 2 => errProc
  | 3 => errNone
  | _ => errDown
def errNo : Nat → Int
  | 0 => 0
  | 1 => 1
  | 2 => 2
  | 3 => 3
  | _ => 98
set_option maxRecDepth 20000 in
theorem voteKind_any (k : Nat) (w : World) : Calls Tryz.prog 29 #[errOf k] w fun e w' => e = .returned (.int .i64 (errNo k)) ∧ w = w' := by
  have hz : ∀ (e : Value) (w : World), e = errTarget ∨ e = errProc ∨ e = errNone ∨ e = errDown → (binOp .eql 51 e .nilIface).run Tryz.prog w = .ok (.bool false) w := by
    rintro e w (rfl | rfl | rfl | rfl) <;> kernel_rfl
  have hz0 := hz errTarget
  have hz1 := hz errProc
  have hz2 := hz errNone
  have hz3 := hz errDown
  simp only [true_or, or_true, forall_const] at hz0 hz1 hz2 hz3
  have q11 : ∀ w : World, (binOp .eql 51 errTarget errTarget).run Tryz.prog w = .ok (.bool true) w := fun _ => by kernel_rfl
  have q21 : ∀ w : World, (binOp .eql 51 errProc errTarget).run Tryz.prog w = .ok (.bool false) w := fun _ => by kernel_rfl
  have q22 : ∀ w : World, (binOp .eql 51 errProc errProc).run Tryz.prog w = .ok (.bool true) w := fun _ => by kernel_rfl
  have q31 : ∀ w : World, (binOp .eql 51 errNone errTarget).run Tryz.prog w = .ok (.bool false) w := fun _ => by kernel_rfl
  have q32 : ∀ w : World, (binOp .eql 51 errNone errProc).run Tryz.prog w = .ok (.bool false) w := fun _ => by kernel_rfl
  have q33 : ∀ w : World, (binOp .eql 51 errNone errNone).run Tryz.prog w = .ok (.bool true) w := fun _ => by kernel_rfl
  have q41 : ∀ w : World, (binOp .eql 51 errDown errTarget).run Tryz.prog w = .ok (.bool false) w := fun _ => by kernel_rfl
  have q42 : ∀ w : World, (binOp .eql 51 errDown errProc).run Tryz.prog w = .ok (.bool false) w := fun _ => by kernel_rfl
  have q43 : ∀ w : World, (binOp .eql 51 errDown errNone).run Tryz.prog w = .ok (.bool false) w := fun _ => by kernel_rfl
  match k with
  | 0 =>
    go_enter Tryz.func29, Tryz.ntmps29
    unfold errOf
    go_wp2
    go_ret
    exact ⟨rfl, rfl⟩
  | 1 =>
    go_enter Tryz.func29, Tryz.ntmps29
    unfold errOf
    go_wp2
    go_ret
    exact ⟨rfl, rfl⟩
  | 2 =>
    go_enter Tryz.func29, Tryz.ntmps29
    unfold errOf
    go_wp2
    go_ret
    exact ⟨rfl, rfl⟩
  | 3 =>
    go_enter Tryz.func29, Tryz.ntmps29
    unfold errOf
    go_wp2
    go_ret
    exact ⟨rfl, rfl⟩
  | k + 4 =>
    go_enter Tryz.func29, Tryz.ntmps29
    unfold errOf errDown
    unfold errDown at q41 q42 q43 hz3
    go_wp2
    go_ret
    exact ⟨rfl, rfl⟩

/-- how a downgrade is validated: 0 let through, 1 the target, 2 another one goes on -/
def validD (cv to : VD) (down : Bool) : Nat := if vdownV cv to then (if down then 2 else 0) else 1
abbrev ManAt (w : World) (mb gb : Nat) : Prop := Blk w mb 91 [.pointer none, .iface 47 (.pointer (some ⟨gb, 0, none⟩))]
noncomputable def ops_51_6 : Array Oper := opsAt Tryz.f51 6
set_option maxRecDepth 20000 in
set_option maxHeartbeats 4000000 in
theorem validate_any (mb b tb : Nat) (g : GD) (A : Option Addr) (n cap : Nat) (x : VoteD) (cv to : VD) (u : Value) (w : World) (h : Grd w b g A n cap x) (hmon : ManAt w mb b) (hto : V3 w tb 0 to.maj to.mnr to.pat) (hok : g.ok) (hw : VarsOk w) (hcv : verOfD g.cluster = some cv) :
    Calls Tryz.prog 51 #[.pointer (some ⟨mb, 0, none⟩), u, .pointer (some ⟨tb, 0, none⟩)] w fun e w' => e = .returned (errOf (validD cv to g.down)) ∧ Ext w w' := by
  have g1 := hmon.cell (o := 1) rfl
  have HC := Lib.hid (getCluster_any b g A n cap x w h hok.c hw)
  have HOK := Lib.hid hok
  have HG := Lib.hid h
  replace hcv := Lib.hid hcv
  clear hok h hw
  go_enter Tryz.func51, Tryz.ntmps51
  go_wp2_with fail
  refine (readNotify_any _ _ w).mono ?_
  rintro e w0 ⟨rfl, rfl⟩
  go_wp2_with fail
  refine HC.out.mono ?_
  intro e w1 hp
  rw [hcv.out] at hp
  obtain ⟨cc, rfl, hcc, VC, E1⟩ := hp
  go_wp2_with fail
  refine (allowed_any cc 0 cv.maj cv.mnr cv.pat w1 VC).mono ?_
  rintro e w2 ⟨ab, rfl, hab, VA, E2⟩
  have E12 := E1.trans E2
  obtain ⟨t0, t1, t2⟩ := hto.ext E12
  obtain ⟨a0, a1, a2⟩ := id VA
  go_wp2_with fail
  cases hv : vdownV cv to with
  | false =>
    refine wp_region_sched (ops := ops_51_6) Ext [] (.quiet 0 (.quiet 1 (.quiet 2 (.quiet 3 (.quiet 4 (.quiet 5 (.loud 6 (.quiet 7 (.done)) (.stop)))))))) (by kernel_rfl) ext_refl ext_trans (by kernel_rfl) (fun _ _ d _ _ h => by cases d <;> exact h) ?_
    refine wpS_quiet (some 27) { dst := some 27, op := Op.move (Operand.tmp 2), type := _, pos := _, after := _, guard := none } _ rfl rfl (by rfl) (fun wE hE => by (go_simp; try with_reducible rfl)) ?_; simp only [Act.put, List.setIfInBounds_toArray, List.set_cons_zero, List.set_cons_succ]
    refine wpS_quiet (some 28) { dst := some 28, op := Op.nilCheck (Operand.tmp 27), type := _, pos := _, after := _, guard := none } _ rfl rfl (by rfl) (fun wE hE => by (go_simp; try with_reducible rfl)) ?_; simp only [Act.put, List.setIfInBounds_toArray, List.set_cons_zero, List.set_cons_succ]
    refine wpS_quiet (some 29) { dst := some 29, op := Op.load 60 (Operand.tmp 28), type := _, pos := _, after := _, guard := none } _ rfl rfl (by rfl) (fun wE hE => by (have zk0 := hE.cellS t0; have zk1 := hE.cellS t1; have zk2 := hE.cellS t2; have zk3 := hE.cellS a0; have zk4 := hE.cellS a1; have zk5 := hE.cellS a2; go_simp; try with_reducible rfl)) ?_; simp only [Act.put, List.setIfInBounds_toArray, List.set_cons_zero, List.set_cons_succ]
    refine wpS_quiet (some 30) { dst := some 30, op := Op.move (Operand.tmp 9), type := _, pos := _, after := _, guard := none } _ rfl rfl (by rfl) (fun wE hE => by (go_simp; try with_reducible rfl)) ?_; simp only [Act.put, List.setIfInBounds_toArray, List.set_cons_zero, List.set_cons_succ]
    refine wpS_quiet (some 31) { dst := some 31, op := Op.nilCheck (Operand.tmp 30), type := _, pos := _, after := _, guard := none } _ rfl rfl (by rfl) (fun wE hE => by (go_simp; try with_reducible rfl)) ?_; simp only [Act.put, List.setIfInBounds_toArray, List.set_cons_zero, List.set_cons_succ]
    refine wpS_quiet (some 32) { dst := some 32, op := Op.load 60 (Operand.tmp 31), type := _, pos := _, after := _, guard := none } _ rfl rfl (by rfl) (fun wE hE => by (have zk0 := hE.cellS t0; have zk1 := hE.cellS t1; have zk2 := hE.cellS t2; have zk3 := hE.cellS a0; have zk4 := hE.cellS a1; have zk5 := hE.cellS a2; go_simp; try with_reducible rfl)) ?_; simp only [Act.put, List.setIfInBounds_toArray, List.set_cons_zero, List.set_cons_succ]
    refine wpS_call (some 33) { dst := some 33, op := Op.call { callee := Callee.value (Operand.func 55), args := #[Operand.tmp 29, Operand.tmp 32], argTypes := #[68, 60] }, type := _, pos := _, after := _, guard := none } 55 _ rfl rfl (by rfl) (by go_simp; try first | with_reducible rfl | exact ⟨rfl, rfl⟩) ?_
    refine (equal_any to.maj to.mnr to.pat cv.maj (wrap64 (cv.mnr - 1)) 0 _).mono ?_; rintro e w3 ⟨rfl, e3⟩; rw [show veq to.maj to.mnr to.pat cv.maj (wrap64 (cv.mnr - 1)) 0 = false from hv]; replace hv := Lib.hid hv; refine ⟨_, rfl, e3, ?_⟩; simp only [Act.put, List.setIfInBounds_toArray, List.set_cons_zero, List.set_cons_succ]
    refine wpS_quiet (some 34) { dst := some 34, op := Op.unOp UnOp.not 4 (Operand.tmp 33), type := _, pos := _, after := _, guard := none } _ rfl rfl (by rfl) (fun wE hE => by (go_simp; try with_reducible rfl)) ?_; simp only [Act.put, List.setIfInBounds_toArray, List.set_cons_zero, List.set_cons_succ]
    change Exit.then _ _ _ _ _
    have E3 : Ext w2 w3 := e3.undrew
    go_wp2
    go_ret
    refine ⟨?_, E12.trans E3⟩
    simp only [validD, hv.out, if_false, Bool.false_eq_true]
    rfl
  | true =>
    refine wp_region_sched (ops := ops_51_6) Ext [] (.quiet 0 (.quiet 1 (.quiet 2 (.quiet 3 (.quiet 4 (.quiet 5 (.loud 6 (.quiet 7 (.done)) (.stop)))))))) (by kernel_rfl) ext_refl ext_trans (by kernel_rfl) (fun _ _ d _ _ h => by cases d <;> exact h) ?_
    refine wpS_quiet (some 27) { dst := some 27, op := Op.move (Operand.tmp 2), type := _, pos := _, after := _, guard := none } _ rfl rfl (by rfl) (fun wE hE => by (go_simp; try with_reducible rfl)) ?_; simp only [Act.put, List.setIfInBounds_toArray, List.set_cons_zero, List.set_cons_succ]
    refine wpS_quiet (some 28) { dst := some 28, op := Op.nilCheck (Operand.tmp 27), type := _, pos := _, after := _, guard := none } _ rfl rfl (by rfl) (fun wE hE => by (go_simp; try with_reducible rfl)) ?_; simp only [Act.put, List.setIfInBounds_toArray, List.set_cons_zero, List.set_cons_succ]
    refine wpS_quiet (some 29) { dst := some 29, op := Op.load 60 (Operand.tmp 28), type := _, pos := _, after := _, guard := none } _ rfl rfl (by rfl) (fun wE hE => by (have zk0 := hE.cellS t0; have zk1 := hE.cellS t1; have zk2 := hE.cellS t2; have zk3 := hE.cellS a0; have zk4 := hE.cellS a1; have zk5 := hE.cellS a2; go_simp; try with_reducible rfl)) ?_; simp only [Act.put, List.setIfInBounds_toArray, List.set_cons_zero, List.set_cons_succ]
    refine wpS_quiet (some 30) { dst := some 30, op := Op.move (Operand.tmp 9), type := _, pos := _, after := _, guard := none } _ rfl rfl (by rfl) (fun wE hE => by (go_simp; try with_reducible rfl)) ?_; simp only [Act.put, List.setIfInBounds_toArray, List.set_cons_zero, List.set_cons_succ]
    refine wpS_quiet (some 31) { dst := some 31, op := Op.nilCheck (Operand.tmp 30), type := _, pos := _, after := _, guard := none } _ rfl rfl (by rfl) (fun wE hE => by (go_simp; try with_reducible rfl)) ?_; simp only [Act.put, List.setIfInBounds_toArray, List.set_cons_zero, List.set_cons_succ]
    refine wpS_quiet (some 32) { dst := some 32, op := Op.load 60 (Operand.tmp 31), type := _, pos := _, after := _, guard := none } _ rfl rfl (by rfl) (fun wE hE => by (have zk0 := hE.cellS t0; have zk1 := hE.cellS t1; have zk2 := hE.cellS t2; have zk3 := hE.cellS a0; have zk4 := hE.cellS a1; have zk5 := hE.cellS a2; go_simp; try with_reducible rfl)) ?_; simp only [Act.put, List.setIfInBounds_toArray, List.set_cons_zero, List.set_cons_succ]
    refine wpS_call (some 33) { dst := some 33, op := Op.call { callee := Callee.value (Operand.func 55), args := #[Operand.tmp 29, Operand.tmp 32], argTypes := #[68, 60] }, type := _, pos := _, after := _, guard := none } 55 _ rfl rfl (by rfl) (by go_simp; try first | with_reducible rfl | exact ⟨rfl, rfl⟩) ?_
    refine (equal_any to.maj to.mnr to.pat cv.maj (wrap64 (cv.mnr - 1)) 0 _).mono ?_; rintro e w3 ⟨rfl, e3⟩; rw [show veq to.maj to.mnr to.pat cv.maj (wrap64 (cv.mnr - 1)) 0 = true from hv]; replace hv := Lib.hid hv; refine ⟨_, rfl, e3, ?_⟩; simp only [Act.put, List.setIfInBounds_toArray, List.set_cons_zero, List.set_cons_succ]
    refine wpS_quiet (some 34) { dst := some 34, op := Op.unOp UnOp.not 4 (Operand.tmp 33), type := _, pos := _, after := _, guard := none } _ rfl rfl (by rfl) (fun wE hE => by (go_simp; try with_reducible rfl)) ?_; simp only [Act.put, List.setIfInBounds_toArray, List.set_cons_zero, List.set_cons_succ]
    change Exit.then _ _ _ _ _
    have E3 : Ext w2 w3 := e3.undrew
    have E13 := E12.trans E3
    have g1 := E13.cellS g1
    clear t0 t1 t2 a0 a1 a2
    go_wp2_with fail
    refine (getDown_any b g A n cap x w3 (HG.out.ext E13)).mono ?_
    intro e w4 hinfo
    rcases hinfo with ⟨hhd, rfl, E4⟩ | ⟨hhd, ib, rfl, hib, KI, E4⟩
    · have hdn : Hid (g.down = false) := Lib.hid (by
        cases hd : g.down with
        | false => rfl
        | true => have := (HOK.out.d hd).1; rw [hhd] at this; cases this)
      clear hhd
      go_wp2
      go_ret
      refine ⟨?_, E13.trans E4⟩
      simp only [validD, hv.out, hdn.out, if_true, if_false, Bool.false_eq_true]
      rfl
    · have k1 := KI.cell (o := 1) rfl
      clear hhd
      cases hd : g.down with
      | false =>
        rw [hd] at k1
        replace hd := Lib.hid hd
        go_wp2
        go_ret
        refine ⟨?_, E13.trans E4⟩
        simp only [validD, hv.out, hd.out, if_true, if_false, Bool.false_eq_true]
        rfl
      | true =>
        rw [hd] at k1
        replace hd := Lib.hid hd
        go_wp2
        go_ret
        refine ⟨?_, E13.trans E4⟩
        simp only [validD, hv.out, hd.out, if_true, if_false, Bool.false_eq_true]
        rfl
theorem validD_le (cv to : VD) (d : Bool) : validD cv to d = 0 ∨ validD cv to d = 1 ∨ validD cv to d = 2 := by
  unfold validD
  split
  · split <;> simp
  · simp
/-- the vote of an enabling -/
def enVote (x : VoteD) (k : Nat) (to : VD) : VoteD := if k = 0 then { x with enabled := true, target := vt to } else x
set_option maxRecDepth 20000 in
set_option maxHeartbeats 4000000 in
theorem enable_any (mb b tb : Nat) (g : GD) (A : Option Addr) (n cap : Nat) (x : VoteD) (cv to : VD) (hto : to.ok) (u : Value) (w : World) (h : Grd w b g A n cap x) (hmon : ManAt w mb b) (ht : V3 w tb 0 to.maj to.mnr to.pat) (htb : tb ≠ b) (hok : g.ok) (hw : VarsOk w) (hcv : verOfD g.cluster = some cv) :
    Calls Tryz.prog 41 #[.pointer (some ⟨mb, 0, none⟩), u, .pointer (some ⟨tb, 0, none⟩)] w
      fun e w' => e = .returned (errOf (validD cv to g.down)) ∧ Grd w' b g A n cap (enVote x (validD cv to g.down) to) ∧ ExtX (fun k => k = b) w w' := by
  have g1 := hmon.cell (o := 1) rfl
  have HC := Lib.hid (validate_any mb b tb g A n cap x cv to u w h hmon ht hok hw hcv)
  have HG := Lib.hid h
  have HW := Lib.hid hw
  have HTO := Lib.hid hto
  have hle := validD_le cv to g.down
  clear hok h hw hcv hto
  generalize validD cv to g.down = k at *
  have hz : ∀ (e : Value) (w : World), e = errTarget ∨ e = errProc → (binOp .neq 51 e .nilIface).run Tryz.prog w = .ok (.bool true) w := by
    rintro e w (rfl | rfl) <;> kernel_rfl
  have hz0 := hz errTarget
  have hz1 := hz errProc
  simp only [true_or, or_true, forall_const] at hz0 hz1
  clear hz
  go_enter Tryz.func41, Tryz.ntmps41
  go_wp2_with fail
  refine HC.out.mono ?_
  rintro e w1 ⟨rfl, E1⟩
  have g1 := E1.cellS g1
  rcases hle with rfl | rfl | rfl
  · unfold errOf
    go_wp2_with fail
    refine (downEnable_any tb to HTO.out b g A n cap x u w1 (HG.out.ext E1) (ht.ext E1) htb (HW.out.ext E1)).mono ?_
    rintro e w2 ⟨rfl, G2, E2⟩
    go_wp2
    go_ret
    exact ⟨rfl, G2, (E1.toX _).trans E2⟩
  · unfold errOf
    go_wp2
    go_ret
    exact ⟨rfl, HG.out.ext E1, E1.toX _⟩
  · unfold errOf
    go_wp2
    go_ret
    exact ⟨rfl, HG.out.ext E1, E1.toX _⟩
end Go.Proofs.YtdokcengcekfgaaGreatDoor
