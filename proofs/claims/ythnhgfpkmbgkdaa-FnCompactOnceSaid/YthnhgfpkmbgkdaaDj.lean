/-
  The laws of the checks: FnInitialCheck and FnPeriodicCheck walked; how their arguments are opened.
-/
import Derived.Test.YthnhgfpkmbgkdaaDi
import Derived.Handy
namespace Go.Proofs.Ythnhgfpkmbgkdaa
open Go.RowKit Go.ChangeShapes Go.WideShapes Go.ChangeAt
set_option linter.unusedSimpArgs false
set_option linter.unusedVariables false

theorem own : ownKnob Try.prog.godebug = none := by kernel_rfl
theorem laidOut : laidOutB Try.prog = true := by kernel_rfl
theorem Opens.of {α : Type} {P : Program} {t : TypeId} {d d' : Rp α} (h : Opens P t d) (hd : ∀ w a cs, d.K w any a cs → d'.K w any a cs) : Opens P t d' :=
  fun enc w base sp held fuel cs x hx => by obtain ⟨a, ha⟩ := h enc w base sp held fuel cs x hx; exact ⟨a, hd w a cs ha⟩
theorem i64_opens : Opens Try.prog 2 Rp.i64 := Opens.of (d := Rp.int .i64) (d' := Rp.i64) (Opens.int Try.underlying2) (fun w a cs h => ⟨h.1, trivial⟩)
theorem ck_opens : Opens Try.prog 30 Rp.ck :=
  Opens.of (Opens.iso (Opens.struct Try.underlying30 (by kernel_rfl) (OpensF.cons rfl (by kernel_rfl) (Opens.int Try.underlying22) (OpensF.cons rfl (by kernel_rfl) (Opens.bool Try.underlying4) (OpensF.cons rfl (by kernel_rfl) (Opens.int Try.underlying23)
    (OpensF.cons rfl (by kernel_rfl) (Opens.int Try.underlying2) (OpensF.cons rfl (by kernel_rfl) (Opens.int Try.underlying2) (OpensF.one rfl (by kernel_rfl) (Opens.int Try.underlying3)))))))) (fun p : CkD => (p.id, p.has, p.hash, p.comp, p.rev, p.err)) (fun x => ⟨x.1, x.2.1, x.2.2.1, x.2.2.2.1, x.2.2.2.2.1, x.2.2.2.2.2⟩) (fun _ => rfl))
    (fun w p cs h => by
      obtain ⟨c1, _, rfl, ⟨rfl, h1⟩, c2, _, rfl, h2, c3, _, rfl, ⟨rfl, h3⟩, c4, _, rfl, ⟨rfl, h4⟩, c5, c6, rfl, ⟨rfl, h5⟩, ⟨rfl, h6⟩⟩ := h
      obtain rfl : c2 = [_] := h2
      exact ⟨rfl, h1, h3, h4, h5, h6⟩)
theorem cks_opens : Opens Try.prog 26 (Rp.slice Rp.ck) := Opens.slice Try.underlying26 (by kernel_rfl) (by decide) ck_opens
set_option maxRecDepth 20000 in
theorem hs_opens : Opens Try.prog 25 Rp.hs :=
  Opens.of (Opens.iso (Opens.struct Try.underlying25 (by kernel_rfl) (OpensF.cons rfl (by kernel_rfl) (Opens.int Try.underlying23) (OpensF.cons rfl (by kernel_rfl) (Opens.int Try.underlying2) (OpensF.one rfl (by kernel_rfl) (Opens.int Try.underlying2)))))
    (fun p : HsD => (p.hash, p.comp, p.rev)) (fun x => ⟨x.1, x.2.1, x.2.2⟩) (fun _ => rfl))
    (fun w p cs h => by
      obtain ⟨c1, _, rfl, ⟨rfl, h1⟩, c2, c3, rfl, ⟨rfl, h2⟩, ⟨rfl, h3⟩⟩ := h
      exact ⟨rfl, trivial⟩)
set_option maxRecDepth 20000 in
theorem hash_opens : Opens Try.prog 25 ((Rp.int .u32).pair ((Rp.int .i64).pair (Rp.int .i64))) := Opens.struct Try.underlying25 (by kernel_rfl) (OpensF.cons rfl (by kernel_rfl) (Opens.int Try.underlying23) (OpensF.cons rfl (by kernel_rfl) (Opens.int Try.underlying2) (OpensF.one rfl (by kernel_rfl) (Opens.int Try.underlying2))))
set_option maxRecDepth 20000 in
def HsD.wf (p : HsD) : Prop := (Lit.int .u32 p.hash).wf = true ∧ (Lit.int .i64 p.comp).wf = true ∧ (Lit.int .i64 p.rev).wf = true
set_option maxRecDepth 20000 in
theorem hash_arg {H : Type} {enc : TypeId × Value → H} {W : World} {base : Nat} {v : Value} {d : DataW H} {p : List MemPlace} (hv : Value.okWide Try.prog W .any base 25 v)
    (h : DataW.Trod enc Try.prog W 0 (fun _ => true) true 25 v d p) : ∃ x : HsD, v = hsV x ∧ x.wf := by
  obtain ⟨cs, rfl, hsz⟩ := okWide_struct Try.underlying25 hv
  obtain ⟨fuel, hf⟩ := h
  obtain ⟨⟨a, b, c⟩, c1, _, hcs, ⟨rfl, h1⟩, c2, c3, rfl, ⟨rfl, h2⟩, h3⟩ := hash_opens enc W 0 _ true fuel _ _ hf
  obtain ⟨rfl, h3⟩ : c3 = [.int .i64 c] ∧ _ := h3
  refine ⟨⟨a, b, c⟩, ?_, h1, h2, h3⟩
  have : cs.toList = hsCells ⟨a, b, c⟩ := by simpa [Value.cells] using hcs
  rw [show cs = (hsCells ⟨a, b, c⟩).toArray from by rw [← Array.toArray_toList (xs := cs), this]]

noncomputable def ops_5_5 : Array Oper := opsAt Try.f5 5
set_option maxRecDepth 20000 in
set_option maxHeartbeats 4000000 in
theorem walk_InitialCheck (h : HsD) (ps : List CkD) (v : Value) (w : World) (hp : (Rp.slice Rp.ck).K w any ps [v]) :
    Calls Try.prog 5 #[hsV h, v] w fun e w' => e = .returned (.bool true) ∧ Ext w w' := by
  have HP := Lib.hid hp
  obtain ⟨A, cap, hv, p1, p2, _⟩ := id hp
  simp only [List.cons.injEq, and_true] at hv
  subst hv
  clear hp
  obtain ⟨W, hW⟩ : ∃ W, W = w.alloc (.cells (hsCells h).toArray 25) := ⟨_, rfl⟩
  have E0 : Ext w W := by rw [hW]; exact (Ext.refl w).alloc _
  have KH : Blk W w.heap.size 25 (hsCells h) := by rw [hW]; exact Blk.new w _ _
  have HWW := Lib.hid hW
  clear hW
  go_enter Try.func5, Try.ntmps5
  by_cases hbig : (2147483647 : Int) < ps.length
  · go_wp2_with fail
    go_ret
    exact ⟨rfl, (Ext.refl w).alloc _⟩
  have hsm : decide ((2147483647 : Int) < ps.length) = false := decide_eq_false hbig
  go_wp2_with fail
  change Calls _ _ _ (w.alloc (.cells (hsCells h).toArray 25)) _
  rw [← HWW.out]
  refine (peersGood_any 0 ps _ W ((Rp.slice Rp.ck).ext' E0 HP.out)).mono ?_
  rintro e w1 ⟨c, rfl, hg, E1⟩
  have HG := Lib.hid hg
  clear hg hbig
  cases c with
  | false =>
    go_wp2_with fail
    go_ret
    exact ⟨rfl, E0.trans E1⟩
  | true =>
    have hl : ps.length ≤ 1000 := by have := HG.out rfl; omega
    have E01 := E0.trans E1
    have KH1 := KH.ext E1
    have s0 := KH1.cell (o := 0) rfl
    have s1 := KH1.cell (o := 1) rfl
    have s2 := KH1.cell (o := 2) rfl
    go_wp2_with fail
    refine wp_region_sched (ops := ops_5_5) Ext [] (.quiet 0 (.quiet 1 (.quiet 3 (.quiet 4 (.loud 2 (.loud 5 (.quiet 6 (.quiet 7 (.loud 8 (.quiet 9 (.quiet 10 (.done))) (.stop)))) (.stop)) (.stop)))))) (by kernel_rfl) ext_refl ext_trans (by kernel_rfl) (fun _ _ d _ _ h => by cases d <;> exact h) ?_
    refine wpS_quiet (some 11) { dst := some 11, op := Op.load 25 (Operand.tmp 2), type := _, pos := _, after := _, guard := none } _ rfl rfl (by rfl) (fun wE hE => by (have zk0 := hE.cellS s0; have zk1 := hE.cellS s1; have zk2 := hE.cellS s2; go_simp; try with_reducible rfl)) ?_; simp only [Act.put, List.setIfInBounds_toArray, List.set_cons_zero, List.set_cons_succ]
    refine wpS_quiet (some 12) { dst := some 12, op := Op.move (Operand.tmp 1), type := _, pos := _, after := _, guard := none } _ rfl rfl (by rfl) (fun wE hE => by (go_simp; try with_reducible rfl)) ?_; simp only [Act.put, List.setIfInBounds_toArray, List.set_cons_zero, List.set_cons_succ]
    refine wpS_quiet (some 14) { dst := some 14, op := Op.load 25 (Operand.tmp 2), type := _, pos := _, after := _, guard := none } _ rfl rfl (by rfl) (fun wE hE => by (have zk0 := hE.cellS s0; have zk1 := hE.cellS s1; have zk2 := hE.cellS s2; go_simp; try with_reducible rfl)) ?_; simp only [Act.put, List.setIfInBounds_toArray, List.set_cons_zero, List.set_cons_succ]
    refine wpS_quiet (some 15) { dst := some 15, op := Op.move (Operand.tmp 1), type := _, pos := _, after := _, guard := none } _ rfl rfl (by rfl) (fun wE hE => by (go_simp; try with_reducible rfl)) ?_; simp only [Act.put, List.setIfInBounds_toArray, List.set_cons_zero, List.set_cons_succ]
    refine wpS_call (some 13) { dst := some 13, op := Op.call { callee := Callee.value (Operand.func 14), args := #[Operand.tmp 11, Operand.tmp 12], argTypes := #[25, 26] }, type := _, pos := _, after := _, guard := none } 14 _ rfl rfl (by rfl) (by go_simp; try first | with_reducible rfl | exact ⟨rfl, rfl⟩) ?_
    refine (implInit_any h ps _ _ ((Rp.slice Rp.ck).ext' E01.drew HP.out) hl).mono ?_; rintro e w3 ⟨rfl, e3⟩; refine ⟨_, rfl, e3, ?_⟩; simp only [Act.put, List.setIfInBounds_toArray, List.set_cons_zero, List.set_cons_succ]
    refine wpS_call (some 16) { dst := some 16, op := Op.call { callee := Callee.value (Operand.func 15), args := #[Operand.tmp 14, Operand.tmp 15], argTypes := #[25, 26] }, type := _, pos := _, after := _, guard := none } 15 _ rfl rfl (by rfl) (by go_simp; try first | with_reducible rfl | exact ⟨rfl, rfl⟩) ?_
    refine (specInit_any h ps _ _ ((Rp.slice Rp.ck).ext' (E01.trans e3.undrew) HP.out) hl).mono ?_; rintro e w4 ⟨rfl, e4⟩; refine ⟨_, rfl, e4, ?_⟩; simp only [Act.put, List.setIfInBounds_toArray, List.set_cons_zero, List.set_cons_succ]
    refine wpS_quiet (some 17) { dst := some 17, op := Op.binOp BinOp.eql 4 (Operand.tmp 13) (Operand.tmp 16) 4, type := _, pos := _, after := _, guard := none } _ rfl rfl (by rfl) (fun wE hE => by (go_simp; try with_reducible rfl)) ?_; simp only [Act.put, List.setIfInBounds_toArray, List.set_cons_zero, List.set_cons_succ]
    refine wpS_quiet (some 18) { dst := some 18, op := Op.move (Operand.tmp 17), type := _, pos := _, after := _, guard := none } _ rfl rfl (by rfl) (fun wE hE => by (go_simp; try with_reducible rfl)) ?_; simp only [Act.put, List.setIfInBounds_toArray, List.set_cons_zero, List.set_cons_succ]
    refine wpS_call (some 19) { dst := some 19, op := Op.call { callee := Callee.value (Operand.func 11), args := #[], argTypes := #[] }, type := _, pos := _, after := _, guard := some (7, true) } 11 _ rfl rfl (by rfl) (by go_simp; try first | with_reducible rfl | exact ⟨rfl, rfl⟩) ?_
    refine (ckAwake_any w4).mono ?_; rintro e w5 ⟨rfl, e5⟩; refine ⟨_, rfl, e5, ?_⟩; simp only [Act.put, List.setIfInBounds_toArray, List.set_cons_zero, List.set_cons_succ]
    refine wpS_quiet (some 20) { dst := some 20, op := Op.pick (Operand.tmp 18) (Operand.tmp 19) (Operand.const (Value.bool false)), type := _, pos := _, after := _, guard := none } _ rfl rfl (by rfl) (fun wE hE => by (go_simp; try with_reducible rfl)) ?_; simp only [Act.put, List.setIfInBounds_toArray, List.set_cons_zero, List.set_cons_succ]
    refine wpS_quiet (some 4) { dst := some 4, op := Op.assign (Operand.tmp 20), type := _, pos := _, after := _, guard := none } _ rfl rfl (by rfl) (fun wE hE => by (go_simp; try with_reducible rfl)) ?_; simp only [Act.put, List.setIfInBounds_toArray, List.set_cons_zero, List.set_cons_succ]
    change Exit.then _ _ _ _ _
    go_wp2
    go_ret
    exact ⟨rfl, ((E01.trans e3.undrew).trans e4).trans e5⟩

noncomputable def ops_6_5 : Array Oper := opsAt Try.f6 5
set_option maxRecDepth 20000 in
set_option maxHeartbeats 4000000 in
theorem walk_PeriodicCheck (f s : HsD) (rev own : Int) (ps : List CkD) (v : Value) (w : World) (hp : (Rp.slice Rp.ck).K w any ps [v]) :
    Calls Try.prog 6 #[hsV f, hsV s, .int .i64 rev, .int .u64 own, v] w fun e w' => e = .returned (.bool true) ∧ Ext w w' := by
  have HP := Lib.hid hp
  obtain ⟨A, cap, hv, p1, p2, _⟩ := id hp
  simp only [List.cons.injEq, and_true] at hv
  subst hv
  clear hp
  obtain ⟨W, hW⟩ : ∃ W, W = (w.alloc (.cells (hsCells f).toArray 25)).alloc (.cells (hsCells s).toArray 25) := ⟨_, rfl⟩
  have E0 : Ext w W := by rw [hW]; exact ((Ext.refl w).alloc _).alloc _
  have KF : Blk W w.heap.size 25 (hsCells f) := by rw [hW]; exact (Blk.new w _ _).ext ((Ext.refl _).alloc _)
  have KS : Blk W (w.heap.size + 1) 25 (hsCells s) := by rw [hW]; exact blk_at _ _ _ _ (by simp)
  have HWW := Lib.hid hW
  clear hW
  go_enter Try.func6, Try.ntmps6
  by_cases hbig : (2147483647 : Int) < ps.length
  · go_wp2_with fail
    go_ret
    exact ⟨rfl, ((Ext.refl w).alloc _).alloc _⟩
  have hsm : decide ((2147483647 : Int) < ps.length) = false := decide_eq_false hbig
  go_wp2_with fail
  change Calls _ _ _ ((w.alloc (.cells (hsCells f).toArray 25)).alloc (.cells (hsCells s).toArray 25)) _
  rw [← HWW.out]
  refine (peersGood_any own ps _ W ((Rp.slice Rp.ck).ext' E0 HP.out)).mono ?_
  rintro e w1 ⟨c, rfl, hg, E1⟩
  have HG := Lib.hid hg
  clear hg hbig
  cases c with
  | false =>
    go_wp2_with fail
    go_ret
    exact ⟨rfl, E0.trans E1⟩
  | true =>
    have hl : ps.length ≤ 1000 := by have := HG.out rfl; omega
    have E01 := E0.trans E1
    have KF1 := KF.ext E1
    have KS1 := KS.ext E1
    have s0 := KF1.cell (o := 0) rfl
    have s1 := KF1.cell (o := 1) rfl
    have s2 := KF1.cell (o := 2) rfl
    have s3 := KS1.cell (o := 0) rfl
    have s4 := KS1.cell (o := 1) rfl
    have s5 := KS1.cell (o := 2) rfl
    go_wp2_with fail
    refine wp_region_sched (ops := ops_6_5) Ext [] (.quiet 0 (.quiet 1 (.quiet 2 (.quiet 3 (.quiet 4 (.quiet 6 (.quiet 7 (.quiet 8 (.quiet 9 (.quiet 10 (.loud 5 (.loud 11 (.loud 12 (.quiet 13 (.loud 14 (.quiet 15 (.quiet 16 (.done))) (.stop))) (.stop)) (.stop)) (.stop)))))))))))) (by kernel_rfl) ext_refl ext_trans (by kernel_rfl) (fun _ _ d _ _ h => by cases d <;> exact h) ?_
    refine wpS_quiet (some 18) { dst := some 18, op := Op.load 25 (Operand.tmp 5), type := _, pos := _, after := _, guard := none } _ rfl rfl (by rfl) (fun wE hE => by (have zk0 := hE.cellS s0; have zk1 := hE.cellS s1; have zk2 := hE.cellS s2; have zk3 := hE.cellS s3; have zk4 := hE.cellS s4; have zk5 := hE.cellS s5; go_simp; try with_reducible rfl)) ?_; simp only [Act.put, List.setIfInBounds_toArray, List.set_cons_zero, List.set_cons_succ]
    refine wpS_quiet (some 19) { dst := some 19, op := Op.load 25 (Operand.tmp 6), type := _, pos := _, after := _, guard := none } _ rfl rfl (by rfl) (fun wE hE => by (have zk0 := hE.cellS s0; have zk1 := hE.cellS s1; have zk2 := hE.cellS s2; have zk3 := hE.cellS s3; have zk4 := hE.cellS s4; have zk5 := hE.cellS s5; go_simp; try with_reducible rfl)) ?_; simp only [Act.put, List.setIfInBounds_toArray, List.set_cons_zero, List.set_cons_succ]
    refine wpS_quiet (some 20) { dst := some 20, op := Op.move (Operand.tmp 2), type := _, pos := _, after := _, guard := none } _ rfl rfl (by rfl) (fun wE hE => by (go_simp; try with_reducible rfl)) ?_; simp only [Act.put, List.setIfInBounds_toArray, List.set_cons_zero, List.set_cons_succ]
    refine wpS_quiet (some 21) { dst := some 21, op := Op.move (Operand.tmp 3), type := _, pos := _, after := _, guard := none } _ rfl rfl (by rfl) (fun wE hE => by (go_simp; try with_reducible rfl)) ?_; simp only [Act.put, List.setIfInBounds_toArray, List.set_cons_zero, List.set_cons_succ]
    refine wpS_quiet (some 22) { dst := some 22, op := Op.move (Operand.tmp 4), type := _, pos := _, after := _, guard := none } _ rfl rfl (by rfl) (fun wE hE => by (go_simp; try with_reducible rfl)) ?_; simp only [Act.put, List.setIfInBounds_toArray, List.set_cons_zero, List.set_cons_succ]
    refine wpS_quiet (some 24) { dst := some 24, op := Op.load 25 (Operand.tmp 5), type := _, pos := _, after := _, guard := none } _ rfl rfl (by rfl) (fun wE hE => by (have zk0 := hE.cellS s0; have zk1 := hE.cellS s1; have zk2 := hE.cellS s2; have zk3 := hE.cellS s3; have zk4 := hE.cellS s4; have zk5 := hE.cellS s5; go_simp; try with_reducible rfl)) ?_; simp only [Act.put, List.setIfInBounds_toArray, List.set_cons_zero, List.set_cons_succ]
    refine wpS_quiet (some 25) { dst := some 25, op := Op.load 25 (Operand.tmp 6), type := _, pos := _, after := _, guard := none } _ rfl rfl (by rfl) (fun wE hE => by (have zk0 := hE.cellS s0; have zk1 := hE.cellS s1; have zk2 := hE.cellS s2; have zk3 := hE.cellS s3; have zk4 := hE.cellS s4; have zk5 := hE.cellS s5; go_simp; try with_reducible rfl)) ?_; simp only [Act.put, List.setIfInBounds_toArray, List.set_cons_zero, List.set_cons_succ]
    refine wpS_quiet (some 26) { dst := some 26, op := Op.move (Operand.tmp 2), type := _, pos := _, after := _, guard := none } _ rfl rfl (by rfl) (fun wE hE => by (go_simp; try with_reducible rfl)) ?_; simp only [Act.put, List.setIfInBounds_toArray, List.set_cons_zero, List.set_cons_succ]
    refine wpS_quiet (some 27) { dst := some 27, op := Op.move (Operand.tmp 3), type := _, pos := _, after := _, guard := none } _ rfl rfl (by rfl) (fun wE hE => by (go_simp; try with_reducible rfl)) ?_; simp only [Act.put, List.setIfInBounds_toArray, List.set_cons_zero, List.set_cons_succ]
    refine wpS_quiet (some 28) { dst := some 28, op := Op.move (Operand.tmp 4), type := _, pos := _, after := _, guard := none } _ rfl rfl (by rfl) (fun wE hE => by (go_simp; try with_reducible rfl)) ?_; simp only [Act.put, List.setIfInBounds_toArray, List.set_cons_zero, List.set_cons_succ]
    refine wpS_call (some 23) { dst := some 23, op := Op.call { callee := Callee.value (Operand.func 17), args := #[Operand.tmp 18, Operand.tmp 19, Operand.tmp 20, Operand.tmp 21, Operand.tmp 22], argTypes := #[25, 25, 2, 22, 26] }, type := _, pos := _, after := _, guard := none } 17 _ rfl rfl (by rfl) (by go_simp; try first | with_reducible rfl | exact ⟨rfl, rfl⟩) ?_
    refine (implPeriodic_any f s rev own ps _ _ ((Rp.slice Rp.ck).ext' E01.drew HP.out) hl).mono ?_; rintro e w3 ⟨v3, rfl, h3, e3⟩; refine ⟨_, rfl, e3, ?_⟩; simp only [Act.put, List.setIfInBounds_toArray, List.set_cons_zero, List.set_cons_succ]
    refine wpS_call (some 29) { dst := some 29, op := Op.call { callee := Callee.value (Operand.func 18), args := #[Operand.tmp 24, Operand.tmp 25, Operand.tmp 26, Operand.tmp 27, Operand.tmp 28], argTypes := #[25, 25, 2, 22, 26] }, type := _, pos := _, after := _, guard := none } 18 _ rfl rfl (by rfl) (by go_simp; try first | with_reducible rfl | exact ⟨rfl, rfl⟩) ?_
    refine (specPeriodic_any f s rev own ps _ _ ((Rp.slice Rp.ck).ext' (E01.trans e3.undrew) HP.out) hl).mono ?_; rintro e w4 ⟨v4, rfl, h4, e4⟩; refine ⟨_, rfl, e4, ?_⟩; simp only [Act.put, List.setIfInBounds_toArray, List.set_cons_zero, List.set_cons_succ]
    refine wpS_call (some 30) { dst := some 30, op := Op.call { callee := Callee.value (Operand.func 16), args := #[Operand.tmp 23, Operand.tmp 29], argTypes := #[41, 41] }, type := _, pos := _, after := _, guard := none } 16 _ rfl rfl (by rfl) (by go_simp; try first | with_reducible rfl | exact ⟨rfl, rfl⟩) ?_
    refine (ckIDs_same _ _ _ w4 ((Rp.slice Rp.u64).ext' e4 h3) h4).mono ?_; rintro e w5 ⟨rfl, e5⟩; refine ⟨_, rfl, e5, ?_⟩; simp only [Act.put, List.setIfInBounds_toArray, List.set_cons_zero, List.set_cons_succ]
    refine wpS_quiet (some 31) { dst := some 31, op := Op.move (Operand.tmp 30), type := _, pos := _, after := _, guard := none } _ rfl rfl (by rfl) (fun wE hE => by (go_simp; try with_reducible rfl)) ?_; simp only [Act.put, List.setIfInBounds_toArray, List.set_cons_zero, List.set_cons_succ]
    refine wpS_call (some 32) { dst := some 32, op := Op.call { callee := Callee.value (Operand.func 11), args := #[], argTypes := #[] }, type := _, pos := _, after := _, guard := some (13, true) } 11 _ rfl rfl (by rfl) (by go_simp; try first | with_reducible rfl | exact ⟨rfl, rfl⟩) ?_
    refine (ckAwake_any w5).mono ?_; rintro e w6 ⟨rfl, e6⟩; refine ⟨_, rfl, e6, ?_⟩; simp only [Act.put, List.setIfInBounds_toArray, List.set_cons_zero, List.set_cons_succ]
    refine wpS_quiet (some 33) { dst := some 33, op := Op.pick (Operand.tmp 31) (Operand.tmp 32) (Operand.const (Value.bool false)), type := _, pos := _, after := _, guard := none } _ rfl rfl (by rfl) (fun wE hE => by (go_simp; try with_reducible rfl)) ?_; simp only [Act.put, List.setIfInBounds_toArray, List.set_cons_zero, List.set_cons_succ]
    refine wpS_quiet (some 10) { dst := some 10, op := Op.assign (Operand.tmp 33), type := _, pos := _, after := _, guard := none } _ rfl rfl (by rfl) (fun wE hE => by (go_simp; try with_reducible rfl)) ?_; simp only [Act.put, List.setIfInBounds_toArray, List.set_cons_zero, List.set_cons_succ]
    change Exit.then _ _ _ _ _
    go_wp2
    go_ret
    exact ⟨rfl, (((E01.trans e3.undrew).trans e4).trans e5).trans e6⟩
end Go.Proofs.Ythnhgfpkmbgkdaa
