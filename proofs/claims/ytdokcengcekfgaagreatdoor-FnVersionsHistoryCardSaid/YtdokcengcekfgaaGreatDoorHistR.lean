/-
  The regions of FnVersionsHistory that draw their order, each by itself.
-/
import Derived.Test.YtdokcengcekfgaaGreatDoorHistP
namespace Go.Proofs.YtdokcengcekfgaaGreatDoor
open Go.RowKit
set_option linter.unusedSimpArgs false
set_option linter.unusedVariables false

/-- a vote lies in a block -/
theorem vote_load {w : World} {b : Nat} {x : VoteD} (K : Blk w b 35 (voteCells x)) :
    w.cell? ⟨b, 0, none⟩ = some (.int .i64 x.err) ∧ w.cell? ⟨b, 1, none⟩ = some (.string x.cluster) ∧ w.cell? ⟨b, 2, none⟩ = some (.string x.storage) ∧ w.cell? ⟨b, 3, none⟩ = some (.bool x.cancelled) ∧ w.cell? ⟨b, 4, none⟩ = some (.bool x.enabled) ∧ w.cell? ⟨b, 5, none⟩ = some (.string x.target) :=
  ⟨K.cell rfl, K.cell rfl, K.cell rfl, K.cell rfl, K.cell rfl, K.cell rfl⟩
/-- one of three votes, in their slice -/
theorem votes_at {w : World} {b : Nat} {x0 x1 x2 x : VoteD} (K : Blk w b 35 (voteCells x0 ++ voteCells x1 ++ voteCells x2)) {i : Nat} (hi : i < 3) (hx : x = if i = 0 then x0 else if i = 1 then x1 else x2) :
    w.cell? ⟨b, i * 6, none⟩ = some (.int .i64 x.err) ∧ w.cell? ⟨b, i * 6 + 1, none⟩ = some (.string x.cluster) ∧ w.cell? ⟨b, i * 6 + 2, none⟩ = some (.string x.storage) ∧ w.cell? ⟨b, i * 6 + 3, none⟩ = some (.bool x.cancelled) ∧ w.cell? ⟨b, i * 6 + 4, none⟩ = some (.bool x.enabled) ∧ w.cell? ⟨b, i * 6 + 5, none⟩ = some (.string x.target) := by
  obtain rfl | rfl | rfl : i = 0 ∨ i = 1 ∨ i = 2 := by omega
  · obtain rfl : x = x0 := hx
    exact ⟨K.cell rfl, K.cell rfl, K.cell rfl, K.cell rfl, K.cell rfl, K.cell rfl⟩
  · obtain rfl : x = x1 := hx
    exact ⟨K.cell rfl, K.cell rfl, K.cell rfl, K.cell rfl, K.cell rfl, K.cell rfl⟩
  · obtain rfl : x = x2 := hx
    exact ⟨K.cell rfl, K.cell rfl, K.cell rfl, K.cell rfl, K.cell rfl, K.cell rfl⟩
theorem ext_56 {w w1 w2 w3 : World} {s b5 b6 : Nat} (h : Ext w w1) (h5 : ExtX (fun k => k = b5) w1 w2) (h6 : ExtX (fun k => k = b6) w2 w3) (hs : w.heap.size ≤ s) (g5 : s ≤ b5) (g6 : s ≤ b6) : Ext w w3 :=
  (((h.toX (fun k => k = b5 ∨ k = b6)).trans (h5.mono fun k _ hk => .inl hk)).trans (h6.mono fun k _ hk => .inr hk)).toExt (fun k hk => by rcases hk with rfl | rfl <;> omega)
noncomputable def ops_3_17 : Array Oper := opsAt Tryz.f3 17
noncomputable def ops_3_18 : Array Oper := opsAt Tryz.f3 18
noncomputable def ops_3_21 : Array Oper := opsAt Tryz.f3 21
noncomputable def ops_3_25 : Array Oper := opsAt Tryz.f3 25
noncomputable def ops_3_28 : Array Oper := opsAt Tryz.f3 28
noncomputable def ops_3_31 : Array Oper := opsAt Tryz.f3 31
noncomputable def ops_3_34 : Array Oper := opsAt Tryz.f3 34
abbrev CatchAll (Q : Exit → Act → World → Prop) : Prop := ∀ c (a : Act) d v w, Q (.panic c) (a.put d v) w → Q (.panic c) a w

set_option maxRecDepth 20000 in
set_option maxHeartbeats 8000000 in
theorem reg17 (t0 t1 t2 t3 t4 t6 t7 t8 t10 t11 t12 t13 t14 t15 t16 t17 t18 t19 t20 t21 t22 t23 t24 t25 t26 t27 t28 t29 t30 t31 t32 t33 t34 t35 t36 t37 t38 t39 t40 t41 t42 t43 t44 t45 t46 t47 t48 t49 t50 t51 t52 t53 t54 t55 t56 t57 t58 t59 t60 t61 t62 t63 t64 t65 t66 t67 t68 t69 t70 t71 t72 t73 t74 t75 t76 t77 t78 t79 t80 t81 t82 t83 t84 t85 t86 t87 t88 t89 t90 t91 t92 t93 t94 t95 t96 t97 t98 t99 t100 t101 t102 t103 t104 t105 t106 t107 t108 t109 t110 t111 t112 t113 t114 t115 t116 t117 t118 t119 t120 t121 t122 t123 t124 t125 t126 t127 t128 t129 t130 t131 t132 t133 t134 t135 t136 t137 t138 t139 t140 t141 t142 t143 t144 t145 t146 t147 t148 t149 : Value) {Q : Exit → Act → World → Prop} (hQ : CatchAll Q) (wr : World) (b5 i : Nat) (v2 : GD) (A5 : Option Addr) (p5 : Nat) (hi3 : i < 3)
    (K5 : Blk wr b5 24 (gdCells v2 A5 v2.members.length p5)) (M5 : (Rp.slice Rp.str).K wr any v2.members [.slice A5 v2.members.length p5]) (hok2 : Hid v2.ok) (HVI : Hid (VarsOk wr))
    (h : Hid (∀ (b10 : Nat) (l : Option VD) (u73 u74 u75 u76 u77 u78 u79 u80 u81 u82 : Value) (wx : World), Least (v2.members.map verOfD) l → wr.heap.size ≤ b10 → Blk wx b10 35 (voteCells (histVote v2 l i)) → Ext wr wx →
      Q .normal ⟨#[t0, t1, t2, t3, t4, .pointer (some ⟨b5, 0, none⟩), t6, t7, t8, .int .i64 (i : Nat), .pointer (some ⟨b10, 0, none⟩), t11, t12, t13, t14, t15, t16, t17, t18, t19, t20, t21, t22, t23, t24, t25, t26, t27, t28, t29, t30, t31, t32, t33, t34, t35, t36, t37, t38, t39, t40, t41, t42, t43, t44, t45, t46, t47, t48, t49, t50, t51, t52, t53, t54, t55, t56, t57, t58, t59, t60, t61, t62, t63, t64, t65, t66, t67, t68, t69, t70, t71, t72, u73, u74, u75, u76, u77, u78, u79, u80, u81, u82, t83, t84, t85, t86, t87, t88, t89, t90, t91, t92, t93, t94, t95, t96, t97, t98, t99, t100, t101, t102, t103, t104, t105, t106, t107, t108, t109, t110, t111, t112, t113, t114, t115, t116, t117, t118, t119, t120, t121, t122, t123, t124, t125, t126, t127, t128, t129, t130, t131, t132, t133, t134, t135, t136, t137, t138, t139, t140, t141, t142, t143, t144, t145, t146, t147, t148, t149], []⟩ wx)) :
    (Code.region 17 ops_3_17 true).wp Tryz.prog Q ⟨#[t0, t1, t2, t3, t4, .pointer (some ⟨b5, 0, none⟩), t6, t7, t8, .int .i64 (i : Nat), t10, t11, t12, t13, t14, t15, t16, t17, t18, t19, t20, t21, t22, t23, t24, t25, t26, t27, t28, t29, t30, t31, t32, t33, t34, t35, t36, t37, t38, t39, t40, t41, t42, t43, t44, t45, t46, t47, t48, t49, t50, t51, t52, t53, t54, t55, t56, t57, t58, t59, t60, t61, t62, t63, t64, t65, t66, t67, t68, t69, t70, t71, t72, t73, t74, t75, t76, t77, t78, t79, t80, t81, t82, t83, t84, t85, t86, t87, t88, t89, t90, t91, t92, t93, t94, t95, t96, t97, t98, t99, t100, t101, t102, t103, t104, t105, t106, t107, t108, t109, t110, t111, t112, t113, t114, t115, t116, t117, t118, t119, t120, t121, t122, t123, t124, t125, t126, t127, t128, t129, t130, t131, t132, t133, t134, t135, t136, t137, t138, t139, t140, t141, t142, t143, t144, t145, t146, t147, t148, t149], []⟩ wr := by
  obtain ⟨r0, r1, r2, r3, r4, r5⟩ := gd_load K5
  obtain ⟨s9, hs9⟩ : ∃ s9, wr.heap.size = s9 := ⟨_, rfl⟩
  have hsL : b5 < s9 := by have := K5.lt; omega
  have hi4 : (i : Int) < 3 := by omega
  have hs : s9 ≤ wr.drew.heap.size := Nat.le_of_eq hs9.symm
  replace hs9 := Lib.hid hs9
  refine wp_region_sched (ops := ops_3_17) (ExtB s9) [11] (.quiet 0 (.quiet 2 (.quiet 4 (.quiet 7 (.loud 1 (.loud 3 (.loud 5 (.loud 6 (.quiet 8 (.loud 9 (.loud 10 (.last 11 (.done)) (.stop)) (.loud 10 (.loud 9 (.last 11 (.done)) (.stop)) (.stop)))) (.loud 10 (.loud 6 (.quiet 8 (.loud 9 (.last 11 (.done)) (.stop))) (.stop)) (.stop))) (.loud 10 (.loud 5 (.loud 6 (.quiet 8 (.loud 9 (.last 11 (.done)) (.stop))) (.stop)) (.stop)) (.stop))) (.loud 10 (.loud 3 (.loud 5 (.loud 6 (.quiet 8 (.loud 9 (.last 11 (.done)) (.stop))) (.stop)) (.stop)) (.stop)) (.stop))) (.loud 10 (.loud 1 (.loud 3 (.loud 5 (.loud 6 (.quiet 8 (.loud 9 (.last 11 (.done)) (.stop))) (.stop)) (.stop)) (.stop)) (.stop)) (.stop))))))) (by kernel_rfl) (extB_refl s9) (extB_trans s9) (by kernel_rfl) (hQ) ?_
  have E : ExtB s9 wr wr.drew := ExtB.refl _ _
  refine wpS_quiet (some 73) { dst := some 73, op := Op.load 24 (Operand.tmp 5), type := _, pos := _, after := _, guard := none } _ rfl rfl (by rfl) (fun wE hE => by (have zk0 := hE.cellS hsL r0; have zk1 := hE.cellS hsL r1; have zk2 := hE.cellS hsL r2; have zk3 := hE.cellS hsL r3; have zk4 := hE.cellS hsL r4; have zk5 := hE.cellS hsL r5; go_simp; try with_reducible rfl)) ?_; simp only [Act.put, List.setIfInBounds_toArray, List.set_cons_zero, List.set_cons_succ]
  refine wpS_quiet (some 75) { dst := some 75, op := Op.load 24 (Operand.tmp 5), type := _, pos := _, after := _, guard := none } _ rfl rfl (by rfl) (fun wE hE => by (have zk0 := hE.cellS hsL r0; have zk1 := hE.cellS hsL r1; have zk2 := hE.cellS hsL r2; have zk3 := hE.cellS hsL r3; have zk4 := hE.cellS hsL r4; have zk5 := hE.cellS hsL r5; go_simp; try with_reducible rfl)) ?_; simp only [Act.put, List.setIfInBounds_toArray, List.set_cons_zero, List.set_cons_succ]
  refine wpS_quiet (some 77) { dst := some 77, op := Op.load 24 (Operand.tmp 5), type := _, pos := _, after := _, guard := none } _ rfl rfl (by rfl) (fun wE hE => by (have zk0 := hE.cellS hsL r0; have zk1 := hE.cellS hsL r1; have zk2 := hE.cellS hsL r2; have zk3 := hE.cellS hsL r3; have zk4 := hE.cellS hsL r4; have zk5 := hE.cellS hsL r5; go_simp; try with_reducible rfl)) ?_; simp only [Act.put, List.setIfInBounds_toArray, List.set_cons_zero, List.set_cons_succ]
  refine wpS_quiet (some 80) { dst := some 80, op := Op.move (Operand.tmp 9), type := _, pos := _, after := _, guard := none } _ rfl rfl (by rfl) (fun wE hE => by (go_simp; try with_reducible rfl)) ?_; simp only [Act.put, List.setIfInBounds_toArray, List.set_cons_zero, List.set_cons_succ]
  refine wpS_callm (some 74) { dst := some 74, op := Op.call { callee := Callee.value (Operand.func 9), args := #[Operand.tmp 73], argTypes := #[24] }, type := _, pos := _, after := _, guard := none } 9 _ rfl rfl (by rfl) (by go_simp; try with_reducible rfl) ?_ ?_
  rotate_right
  · skip
    refine wpS_alloc (some 10) { dst := some 10, op := Op.alloc 35, type := _, pos := _, after := _, guard := none } _ _ rfl rfl (by rfl) (by go_simp; try with_reducible rfl) ?_ ?_ trivial
    exact fun w' h => h.toB hs
    intro b10 wd hb ed K10
    have g10 : s9 ≤ b10 := by omega
    clear hb
    (try replace KS := KS.ext ed)
    have E := E.trans (ed.toB hs)
    have hs := Nat.le_trans hs ed.size
    simp only [Act.put, List.setIfInBounds_toArray, List.set_cons_zero, List.set_cons_succ]
    refine wpS_callm (some 74) { dst := some 74, op := Op.call { callee := Callee.value (Operand.func 9), args := #[Operand.tmp 73], argTypes := #[24] }, type := _, pos := _, after := _, guard := none } 9 _ rfl rfl (by rfl) (by go_simp; try with_reducible rfl) ?_ trivial
    refine (implDecide_any v2 A5 _ p5 wd rfl ((Rp.slice Rp.str).ext' (E.mono (Nat.le_of_eq hs9.out)).ext M5) hok2.out (HVI.out.ext (E.mono (Nat.le_of_eq hs9.out)).ext)).mono ?_
    rintro e wa ⟨l, hl, rfl, ea⟩
    obtain ⟨x0, hx0⟩ : ∃ x0, x0 = voteOf (decideD (verOfD v2.cluster) l v2.down v2.tv) := ⟨_, rfl⟩
    rw [← hx0]
    replace hx0 := Lib.hid hx0
    replace hl := Lib.hid hl
    refine ⟨_, rfl, ea.toB hs, ?_⟩
    (try replace K10 := K10.ext ea)
    have E := E.trans (ea.toB hs)
    have hs := Nat.le_trans hs ea.size
    simp only [Act.put, List.setIfInBounds_toArray, List.set_cons_zero, List.set_cons_succ]
    refine wpS_callm (some 76) { dst := some 76, op := Op.call { callee := Callee.value (Operand.func 10), args := #[Operand.tmp 75], argTypes := #[24] }, type := _, pos := _, after := _, guard := none } 10 _ rfl rfl (by rfl) (by go_simp; try with_reducible rfl) ?_ trivial
    refine (implStorage_any v2 A5 _ p5 wa hok2.out (HVI.out.ext (E.mono (Nat.le_of_eq hs9.out)).ext)).mono ?_
    rintro e wb ⟨rfl, eb⟩
    obtain ⟨x1, hx1⟩ : ∃ x1, x1 = stVote vote0 (storageD (verOfD v2.cluster) (verOfD v2.storage)) := ⟨_, rfl⟩
    rw [← hx1]
    replace hx1 := Lib.hid hx1
    refine ⟨_, rfl, eb.toB hs, ?_⟩
    (try replace K10 := K10.ext eb)
    have E := E.trans (eb.toB hs)
    have hs := Nat.le_trans hs eb.size
    simp only [Act.put, List.setIfInBounds_toArray, List.set_cons_zero, List.set_cons_succ]
    refine wpS_callm (some 78) { dst := some 78, op := Op.call { callee := Callee.value (Operand.func 11), args := #[Operand.tmp 77], argTypes := #[24] }, type := _, pos := _, after := _, guard := none } 11 _ rfl rfl (by rfl) (by go_simp; try with_reducible rfl) ?_ trivial
    refine (implCancel_any v2 A5 _ p5 wb rfl ((Rp.slice Rp.str).ext' (E.mono (Nat.le_of_eq hs9.out)).ext M5) hok2.out (HVI.out.ext (E.mono (Nat.le_of_eq hs9.out)).ext)).mono ?_
    rintro e wc' ⟨rfl, ec⟩
    obtain ⟨x2, hx2⟩ : ∃ x2, x2 = canVote vote0 (cancelD v2) := ⟨_, rfl⟩
    rw [← hx2]
    replace hx2 := Lib.hid hx2
    refine ⟨_, rfl, ec.toB hs, ?_⟩
    (try replace K10 := K10.ext ec)
    have E := E.trans (ec.toB hs)
    have hs := Nat.le_trans hs ec.size
    simp only [Act.put, List.setIfInBounds_toArray, List.set_cons_zero, List.set_cons_succ]
    refine wpS_make (some 79) { dst := some 79, op := Op.buildSlice 37 3 #[(0, Operand.tmp 74), (1, Operand.tmp 76), (2, Operand.tmp 78)], type := _, pos := _, after := _, guard := none } rfl rfl (by rfl) 35 (voteCells x0 ++ voteCells x1 ++ voteCells x2) 3 (by go_simp; try rfl) (fun w' h => h.toB hs) ?_ trivial
    intro bs wg hb eg KS
    have gs : s9 ≤ bs := by omega
    clear hb
    (try replace K10 := K10.ext eg)
    have E := E.trans (eg.toB hs)
    have hs := Nat.le_trans hs eg.size
    simp only [Act.put, List.setIfInBounds_toArray, List.set_cons_zero, List.set_cons_succ]
    refine wpS_quiet (some 81) { dst := some 81, op := Op.indexAddr 37 (Operand.tmp 79) (Operand.tmp 80), type := _, pos := _, after := _, guard := none } _ rfl rfl (by rfl) (fun wE hE => by (go_simp; try with_reducible rfl)) ?_; simp only [Act.put, List.setIfInBounds_toArray, List.set_cons_zero, List.set_cons_succ]
    refine wpS_upd (some 82) { dst := some 82, op := Op.load 35 (Operand.tmp 81), type := _, pos := _, after := _, guard := none } rfl rfl (by rfl)  ?_ trivial
    obtain ⟨y0, y1, y2, y3, y4, y5⟩ := votes_at KS hi3 (x := histVote v2 l i) (by rw [hx0.out, hx1.out, hx2.out]; rfl)
    refine ⟨voteV (histVote v2 l i), wg, by (go_simp; try rfl), ExtB.refl _ _, ?_⟩
    clear y0 y1 y2 y3 y4 y5
    simp only [Act.put, List.setIfInBounds_toArray, List.set_cons_zero, List.set_cons_succ]
    refine wpS_store none { dst := none, op := Op.store 35 (Operand.tmp 10) (Operand.tmp 82), type := _, pos := _, after := _, guard := none } rfl rfl (by rfl) (.tmp 10) (.tmp 82) 35 rfl rfl rfl rfl K10 rfl (Nat.le_refl 6) rfl ?_
    intro wf Kn xf
    (have ef := xf.toB (B := s9) (fun k hk => by have hk : k = b10 := hk; omega) hs)
    replace K10 := Kn
    have E := E.trans ef
    have hs := Nat.le_trans hs ef.size
    simp only [Act.put, List.setIfInBounds_toArray, List.set_cons_zero, List.set_cons_succ]
    exact h.out b10 l _ _ _ _ _ _ _ _ _ _ _ hl.out (by have := hs9.out; omega) K10 (E.mono (Nat.le_of_eq hs9.out)).ext
  refine (implDecide_any v2 A5 _ p5 wr.drew rfl ((Rp.slice Rp.str).ext' (E.mono (Nat.le_of_eq hs9.out)).ext M5) hok2.out (HVI.out.ext (E.mono (Nat.le_of_eq hs9.out)).ext)).mono ?_
  rintro e wa ⟨l, hl, rfl, ea⟩
  obtain ⟨x0, hx0⟩ : ∃ x0, x0 = voteOf (decideD (verOfD v2.cluster) l v2.down v2.tv) := ⟨_, rfl⟩
  rw [← hx0]
  replace hx0 := Lib.hid hx0
  replace hl := Lib.hid hl
  refine ⟨_, rfl, ea.toB hs, ?_⟩
  (try replace K10 := K10.ext ea)
  have E := E.trans (ea.toB hs)
  have hs := Nat.le_trans hs ea.size
  simp only [Act.put, List.setIfInBounds_toArray, List.set_cons_zero, List.set_cons_succ]
  refine wpS_callm (some 76) { dst := some 76, op := Op.call { callee := Callee.value (Operand.func 10), args := #[Operand.tmp 75], argTypes := #[24] }, type := _, pos := _, after := _, guard := none } 10 _ rfl rfl (by rfl) (by go_simp; try with_reducible rfl) ?_ ?_
  rotate_right
  · skip
    refine wpS_alloc (some 10) { dst := some 10, op := Op.alloc 35, type := _, pos := _, after := _, guard := none } _ _ rfl rfl (by rfl) (by go_simp; try with_reducible rfl) ?_ ?_ trivial
    exact fun w' h => h.toB hs
    intro b10 wd hb ed K10
    have g10 : s9 ≤ b10 := by omega
    clear hb
    (try replace KS := KS.ext ed)
    have E := E.trans (ed.toB hs)
    have hs := Nat.le_trans hs ed.size
    simp only [Act.put, List.setIfInBounds_toArray, List.set_cons_zero, List.set_cons_succ]
    refine wpS_callm (some 76) { dst := some 76, op := Op.call { callee := Callee.value (Operand.func 10), args := #[Operand.tmp 75], argTypes := #[24] }, type := _, pos := _, after := _, guard := none } 10 _ rfl rfl (by rfl) (by go_simp; try with_reducible rfl) ?_ trivial
    refine (implStorage_any v2 A5 _ p5 wd hok2.out (HVI.out.ext (E.mono (Nat.le_of_eq hs9.out)).ext)).mono ?_
    rintro e wb ⟨rfl, eb⟩
    obtain ⟨x1, hx1⟩ : ∃ x1, x1 = stVote vote0 (storageD (verOfD v2.cluster) (verOfD v2.storage)) := ⟨_, rfl⟩
    rw [← hx1]
    replace hx1 := Lib.hid hx1
    refine ⟨_, rfl, eb.toB hs, ?_⟩
    (try replace K10 := K10.ext eb)
    have E := E.trans (eb.toB hs)
    have hs := Nat.le_trans hs eb.size
    simp only [Act.put, List.setIfInBounds_toArray, List.set_cons_zero, List.set_cons_succ]
    refine wpS_callm (some 78) { dst := some 78, op := Op.call { callee := Callee.value (Operand.func 11), args := #[Operand.tmp 77], argTypes := #[24] }, type := _, pos := _, after := _, guard := none } 11 _ rfl rfl (by rfl) (by go_simp; try with_reducible rfl) ?_ trivial
    refine (implCancel_any v2 A5 _ p5 wb rfl ((Rp.slice Rp.str).ext' (E.mono (Nat.le_of_eq hs9.out)).ext M5) hok2.out (HVI.out.ext (E.mono (Nat.le_of_eq hs9.out)).ext)).mono ?_
    rintro e wc' ⟨rfl, ec⟩
    obtain ⟨x2, hx2⟩ : ∃ x2, x2 = canVote vote0 (cancelD v2) := ⟨_, rfl⟩
    rw [← hx2]
    replace hx2 := Lib.hid hx2
    refine ⟨_, rfl, ec.toB hs, ?_⟩
    (try replace K10 := K10.ext ec)
    have E := E.trans (ec.toB hs)
    have hs := Nat.le_trans hs ec.size
    simp only [Act.put, List.setIfInBounds_toArray, List.set_cons_zero, List.set_cons_succ]
    refine wpS_make (some 79) { dst := some 79, op := Op.buildSlice 37 3 #[(0, Operand.tmp 74), (1, Operand.tmp 76), (2, Operand.tmp 78)], type := _, pos := _, after := _, guard := none } rfl rfl (by rfl) 35 (voteCells x0 ++ voteCells x1 ++ voteCells x2) 3 (by go_simp; try rfl) (fun w' h => h.toB hs) ?_ trivial
    intro bs wg hb eg KS
    have gs : s9 ≤ bs := by omega
    clear hb
    (try replace K10 := K10.ext eg)
    have E := E.trans (eg.toB hs)
    have hs := Nat.le_trans hs eg.size
    simp only [Act.put, List.setIfInBounds_toArray, List.set_cons_zero, List.set_cons_succ]
    refine wpS_quiet (some 81) { dst := some 81, op := Op.indexAddr 37 (Operand.tmp 79) (Operand.tmp 80), type := _, pos := _, after := _, guard := none } _ rfl rfl (by rfl) (fun wE hE => by (go_simp; try with_reducible rfl)) ?_; simp only [Act.put, List.setIfInBounds_toArray, List.set_cons_zero, List.set_cons_succ]
    refine wpS_upd (some 82) { dst := some 82, op := Op.load 35 (Operand.tmp 81), type := _, pos := _, after := _, guard := none } rfl rfl (by rfl)  ?_ trivial
    obtain ⟨y0, y1, y2, y3, y4, y5⟩ := votes_at KS hi3 (x := histVote v2 l i) (by rw [hx0.out, hx1.out, hx2.out]; rfl)
    refine ⟨voteV (histVote v2 l i), wg, by (go_simp; try rfl), ExtB.refl _ _, ?_⟩
    clear y0 y1 y2 y3 y4 y5
    simp only [Act.put, List.setIfInBounds_toArray, List.set_cons_zero, List.set_cons_succ]
    refine wpS_store none { dst := none, op := Op.store 35 (Operand.tmp 10) (Operand.tmp 82), type := _, pos := _, after := _, guard := none } rfl rfl (by rfl) (.tmp 10) (.tmp 82) 35 rfl rfl rfl rfl K10 rfl (Nat.le_refl 6) rfl ?_
    intro wf Kn xf
    (have ef := xf.toB (B := s9) (fun k hk => by have hk : k = b10 := hk; omega) hs)
    replace K10 := Kn
    have E := E.trans ef
    have hs := Nat.le_trans hs ef.size
    simp only [Act.put, List.setIfInBounds_toArray, List.set_cons_zero, List.set_cons_succ]
    exact h.out b10 l _ _ _ _ _ _ _ _ _ _ _ hl.out (by have := hs9.out; omega) K10 (E.mono (Nat.le_of_eq hs9.out)).ext
  refine (implStorage_any v2 A5 _ p5 wa hok2.out (HVI.out.ext (E.mono (Nat.le_of_eq hs9.out)).ext)).mono ?_
  rintro e wb ⟨rfl, eb⟩
  obtain ⟨x1, hx1⟩ : ∃ x1, x1 = stVote vote0 (storageD (verOfD v2.cluster) (verOfD v2.storage)) := ⟨_, rfl⟩
  rw [← hx1]
  replace hx1 := Lib.hid hx1
  refine ⟨_, rfl, eb.toB hs, ?_⟩
  (try replace K10 := K10.ext eb)
  have E := E.trans (eb.toB hs)
  have hs := Nat.le_trans hs eb.size
  simp only [Act.put, List.setIfInBounds_toArray, List.set_cons_zero, List.set_cons_succ]
  refine wpS_callm (some 78) { dst := some 78, op := Op.call { callee := Callee.value (Operand.func 11), args := #[Operand.tmp 77], argTypes := #[24] }, type := _, pos := _, after := _, guard := none } 11 _ rfl rfl (by rfl) (by go_simp; try with_reducible rfl) ?_ ?_
  rotate_right
  · skip
    refine wpS_alloc (some 10) { dst := some 10, op := Op.alloc 35, type := _, pos := _, after := _, guard := none } _ _ rfl rfl (by rfl) (by go_simp; try with_reducible rfl) ?_ ?_ trivial
    exact fun w' h => h.toB hs
    intro b10 wd hb ed K10
    have g10 : s9 ≤ b10 := by omega
    clear hb
    (try replace KS := KS.ext ed)
    have E := E.trans (ed.toB hs)
    have hs := Nat.le_trans hs ed.size
    simp only [Act.put, List.setIfInBounds_toArray, List.set_cons_zero, List.set_cons_succ]
    refine wpS_callm (some 78) { dst := some 78, op := Op.call { callee := Callee.value (Operand.func 11), args := #[Operand.tmp 77], argTypes := #[24] }, type := _, pos := _, after := _, guard := none } 11 _ rfl rfl (by rfl) (by go_simp; try with_reducible rfl) ?_ trivial
    refine (implCancel_any v2 A5 _ p5 wd rfl ((Rp.slice Rp.str).ext' (E.mono (Nat.le_of_eq hs9.out)).ext M5) hok2.out (HVI.out.ext (E.mono (Nat.le_of_eq hs9.out)).ext)).mono ?_
    rintro e wc' ⟨rfl, ec⟩
    obtain ⟨x2, hx2⟩ : ∃ x2, x2 = canVote vote0 (cancelD v2) := ⟨_, rfl⟩
    rw [← hx2]
    replace hx2 := Lib.hid hx2
    refine ⟨_, rfl, ec.toB hs, ?_⟩
    (try replace K10 := K10.ext ec)
    have E := E.trans (ec.toB hs)
    have hs := Nat.le_trans hs ec.size
    simp only [Act.put, List.setIfInBounds_toArray, List.set_cons_zero, List.set_cons_succ]
    refine wpS_make (some 79) { dst := some 79, op := Op.buildSlice 37 3 #[(0, Operand.tmp 74), (1, Operand.tmp 76), (2, Operand.tmp 78)], type := _, pos := _, after := _, guard := none } rfl rfl (by rfl) 35 (voteCells x0 ++ voteCells x1 ++ voteCells x2) 3 (by go_simp; try rfl) (fun w' h => h.toB hs) ?_ trivial
    intro bs wg hb eg KS
    have gs : s9 ≤ bs := by omega
    clear hb
    (try replace K10 := K10.ext eg)
    have E := E.trans (eg.toB hs)
    have hs := Nat.le_trans hs eg.size
    simp only [Act.put, List.setIfInBounds_toArray, List.set_cons_zero, List.set_cons_succ]
    refine wpS_quiet (some 81) { dst := some 81, op := Op.indexAddr 37 (Operand.tmp 79) (Operand.tmp 80), type := _, pos := _, after := _, guard := none } _ rfl rfl (by rfl) (fun wE hE => by (go_simp; try with_reducible rfl)) ?_; simp only [Act.put, List.setIfInBounds_toArray, List.set_cons_zero, List.set_cons_succ]
    refine wpS_upd (some 82) { dst := some 82, op := Op.load 35 (Operand.tmp 81), type := _, pos := _, after := _, guard := none } rfl rfl (by rfl)  ?_ trivial
    obtain ⟨y0, y1, y2, y3, y4, y5⟩ := votes_at KS hi3 (x := histVote v2 l i) (by rw [hx0.out, hx1.out, hx2.out]; rfl)
    refine ⟨voteV (histVote v2 l i), wg, by (go_simp; try rfl), ExtB.refl _ _, ?_⟩
    clear y0 y1 y2 y3 y4 y5
    simp only [Act.put, List.setIfInBounds_toArray, List.set_cons_zero, List.set_cons_succ]
    refine wpS_store none { dst := none, op := Op.store 35 (Operand.tmp 10) (Operand.tmp 82), type := _, pos := _, after := _, guard := none } rfl rfl (by rfl) (.tmp 10) (.tmp 82) 35 rfl rfl rfl rfl K10 rfl (Nat.le_refl 6) rfl ?_
    intro wf Kn xf
    (have ef := xf.toB (B := s9) (fun k hk => by have hk : k = b10 := hk; omega) hs)
    replace K10 := Kn
    have E := E.trans ef
    have hs := Nat.le_trans hs ef.size
    simp only [Act.put, List.setIfInBounds_toArray, List.set_cons_zero, List.set_cons_succ]
    exact h.out b10 l _ _ _ _ _ _ _ _ _ _ _ hl.out (by have := hs9.out; omega) K10 (E.mono (Nat.le_of_eq hs9.out)).ext
  refine (implCancel_any v2 A5 _ p5 wb rfl ((Rp.slice Rp.str).ext' (E.mono (Nat.le_of_eq hs9.out)).ext M5) hok2.out (HVI.out.ext (E.mono (Nat.le_of_eq hs9.out)).ext)).mono ?_
  rintro e wc' ⟨rfl, ec⟩
  obtain ⟨x2, hx2⟩ : ∃ x2, x2 = canVote vote0 (cancelD v2) := ⟨_, rfl⟩
  rw [← hx2]
  replace hx2 := Lib.hid hx2
  refine ⟨_, rfl, ec.toB hs, ?_⟩
  (try replace K10 := K10.ext ec)
  have E := E.trans (ec.toB hs)
  have hs := Nat.le_trans hs ec.size
  simp only [Act.put, List.setIfInBounds_toArray, List.set_cons_zero, List.set_cons_succ]
  refine wpS_make (some 79) { dst := some 79, op := Op.buildSlice 37 3 #[(0, Operand.tmp 74), (1, Operand.tmp 76), (2, Operand.tmp 78)], type := _, pos := _, after := _, guard := none } rfl rfl (by rfl) 35 (voteCells x0 ++ voteCells x1 ++ voteCells x2) 3 (by go_simp; try rfl) (fun w' h => h.toB hs) ?_ ?_
  rotate_right
  · skip
    refine wpS_alloc (some 10) { dst := some 10, op := Op.alloc 35, type := _, pos := _, after := _, guard := none } _ _ rfl rfl (by rfl) (by go_simp; try with_reducible rfl) ?_ ?_ trivial
    exact fun w' h => h.toB hs
    intro b10 wd hb ed K10
    have g10 : s9 ≤ b10 := by omega
    clear hb
    (try replace KS := KS.ext ed)
    have E := E.trans (ed.toB hs)
    have hs := Nat.le_trans hs ed.size
    simp only [Act.put, List.setIfInBounds_toArray, List.set_cons_zero, List.set_cons_succ]
    refine wpS_make (some 79) { dst := some 79, op := Op.buildSlice 37 3 #[(0, Operand.tmp 74), (1, Operand.tmp 76), (2, Operand.tmp 78)], type := _, pos := _, after := _, guard := none } rfl rfl (by rfl) 35 (voteCells x0 ++ voteCells x1 ++ voteCells x2) 3 (by go_simp; try rfl) (fun w' h => h.toB hs) ?_ trivial
    intro bs wg hb eg KS
    have gs : s9 ≤ bs := by omega
    clear hb
    (try replace K10 := K10.ext eg)
    have E := E.trans (eg.toB hs)
    have hs := Nat.le_trans hs eg.size
    simp only [Act.put, List.setIfInBounds_toArray, List.set_cons_zero, List.set_cons_succ]
    refine wpS_quiet (some 81) { dst := some 81, op := Op.indexAddr 37 (Operand.tmp 79) (Operand.tmp 80), type := _, pos := _, after := _, guard := none } _ rfl rfl (by rfl) (fun wE hE => by (go_simp; try with_reducible rfl)) ?_; simp only [Act.put, List.setIfInBounds_toArray, List.set_cons_zero, List.set_cons_succ]
    refine wpS_upd (some 82) { dst := some 82, op := Op.load 35 (Operand.tmp 81), type := _, pos := _, after := _, guard := none } rfl rfl (by rfl)  ?_ trivial
    obtain ⟨y0, y1, y2, y3, y4, y5⟩ := votes_at KS hi3 (x := histVote v2 l i) (by rw [hx0.out, hx1.out, hx2.out]; rfl)
    refine ⟨voteV (histVote v2 l i), wg, by (go_simp; try rfl), ExtB.refl _ _, ?_⟩
    clear y0 y1 y2 y3 y4 y5
    simp only [Act.put, List.setIfInBounds_toArray, List.set_cons_zero, List.set_cons_succ]
    refine wpS_store none { dst := none, op := Op.store 35 (Operand.tmp 10) (Operand.tmp 82), type := _, pos := _, after := _, guard := none } rfl rfl (by rfl) (.tmp 10) (.tmp 82) 35 rfl rfl rfl rfl K10 rfl (Nat.le_refl 6) rfl ?_
    intro wf Kn xf
    (have ef := xf.toB (B := s9) (fun k hk => by have hk : k = b10 := hk; omega) hs)
    replace K10 := Kn
    have E := E.trans ef
    have hs := Nat.le_trans hs ef.size
    simp only [Act.put, List.setIfInBounds_toArray, List.set_cons_zero, List.set_cons_succ]
    exact h.out b10 l _ _ _ _ _ _ _ _ _ _ _ hl.out (by have := hs9.out; omega) K10 (E.mono (Nat.le_of_eq hs9.out)).ext
  intro bs wg hb eg KS
  have gs : s9 ≤ bs := by omega
  clear hb
  (try replace K10 := K10.ext eg)
  have E := E.trans (eg.toB hs)
  have hs := Nat.le_trans hs eg.size
  simp only [Act.put, List.setIfInBounds_toArray, List.set_cons_zero, List.set_cons_succ]
  refine wpS_quiet (some 81) { dst := some 81, op := Op.indexAddr 37 (Operand.tmp 79) (Operand.tmp 80), type := _, pos := _, after := _, guard := none } _ rfl rfl (by rfl) (fun wE hE => by (go_simp; try with_reducible rfl)) ?_; simp only [Act.put, List.setIfInBounds_toArray, List.set_cons_zero, List.set_cons_succ]
  refine wpS_upd (some 82) { dst := some 82, op := Op.load 35 (Operand.tmp 81), type := _, pos := _, after := _, guard := none } rfl rfl (by rfl)  ?_ ?_
  rotate_right
  · skip
    refine wpS_alloc (some 10) { dst := some 10, op := Op.alloc 35, type := _, pos := _, after := _, guard := none } _ _ rfl rfl (by rfl) (by go_simp; try with_reducible rfl) ?_ ?_ trivial
    exact fun w' h => h.toB hs
    intro b10 wd hb ed K10
    have g10 : s9 ≤ b10 := by omega
    clear hb
    (try replace KS := KS.ext ed)
    have E := E.trans (ed.toB hs)
    have hs := Nat.le_trans hs ed.size
    simp only [Act.put, List.setIfInBounds_toArray, List.set_cons_zero, List.set_cons_succ]
    refine wpS_upd (some 82) { dst := some 82, op := Op.load 35 (Operand.tmp 81), type := _, pos := _, after := _, guard := none } rfl rfl (by rfl)  ?_ trivial
    obtain ⟨y0, y1, y2, y3, y4, y5⟩ := votes_at KS hi3 (x := histVote v2 l i) (by rw [hx0.out, hx1.out, hx2.out]; rfl)
    refine ⟨voteV (histVote v2 l i), wd, by (go_simp; try rfl), ExtB.refl _ _, ?_⟩
    clear y0 y1 y2 y3 y4 y5
    simp only [Act.put, List.setIfInBounds_toArray, List.set_cons_zero, List.set_cons_succ]
    refine wpS_store none { dst := none, op := Op.store 35 (Operand.tmp 10) (Operand.tmp 82), type := _, pos := _, after := _, guard := none } rfl rfl (by rfl) (.tmp 10) (.tmp 82) 35 rfl rfl rfl rfl K10 rfl (Nat.le_refl 6) rfl ?_
    intro wf Kn xf
    (have ef := xf.toB (B := s9) (fun k hk => by have hk : k = b10 := hk; omega) hs)
    replace K10 := Kn
    have E := E.trans ef
    have hs := Nat.le_trans hs ef.size
    simp only [Act.put, List.setIfInBounds_toArray, List.set_cons_zero, List.set_cons_succ]
    exact h.out b10 l _ _ _ _ _ _ _ _ _ _ _ hl.out (by have := hs9.out; omega) K10 (E.mono (Nat.le_of_eq hs9.out)).ext
  obtain ⟨y0, y1, y2, y3, y4, y5⟩ := votes_at KS hi3 (x := histVote v2 l i) (by rw [hx0.out, hx1.out, hx2.out]; rfl)
  refine ⟨voteV (histVote v2 l i), wg, by (go_simp; try rfl), ExtB.refl _ _, ?_⟩
  clear y0 y1 y2 y3 y4 y5
  simp only [Act.put, List.setIfInBounds_toArray, List.set_cons_zero, List.set_cons_succ]
  refine wpS_alloc (some 10) { dst := some 10, op := Op.alloc 35, type := _, pos := _, after := _, guard := none } _ _ rfl rfl (by rfl) (by go_simp; try with_reducible rfl) ?_ ?_ trivial
  exact fun w' h => h.toB hs
  intro b10 wd hb ed K10
  have g10 : s9 ≤ b10 := by omega
  clear hb
  (try replace KS := KS.ext ed)
  have E := E.trans (ed.toB hs)
  have hs := Nat.le_trans hs ed.size
  simp only [Act.put, List.setIfInBounds_toArray, List.set_cons_zero, List.set_cons_succ]
  refine wpS_store none { dst := none, op := Op.store 35 (Operand.tmp 10) (Operand.tmp 82), type := _, pos := _, after := _, guard := none } rfl rfl (by rfl) (.tmp 10) (.tmp 82) 35 rfl rfl rfl rfl K10 rfl (Nat.le_refl 6) rfl ?_
  intro wf Kn xf
  (have ef := xf.toB (B := s9) (fun k hk => by have hk : k = b10 := hk; omega) hs)
  replace K10 := Kn
  have E := E.trans ef
  have hs := Nat.le_trans hs ef.size
  simp only [Act.put, List.setIfInBounds_toArray, List.set_cons_zero, List.set_cons_succ]
  exact h.out b10 l _ _ _ _ _ _ _ _ _ _ _ hl.out (by have := hs9.out; omega) K10 (E.mono (Nat.le_of_eq hs9.out)).ext

set_option maxRecDepth 20000 in
set_option maxHeartbeats 8000000 in
theorem reg18 (t0 t1 t2 t3 t4 t5 t7 t8 t10 t11 t12 t13 t14 t15 t16 t17 t18 t19 t20 t21 t22 t23 t24 t25 t26 t27 t28 t29 t30 t31 t32 t33 t34 t35 t36 t37 t38 t39 t40 t41 t42 t43 t44 t45 t46 t47 t48 t49 t50 t51 t52 t53 t54 t55 t56 t57 t58 t59 t60 t61 t62 t63 t64 t65 t66 t67 t68 t69 t70 t71 t72 t73 t74 t75 t76 t77 t78 t79 t80 t81 t82 t83 t84 t85 t86 t87 t88 t89 t90 t91 t92 t93 t94 t95 t96 t97 t98 t99 t100 t101 t102 t103 t104 t105 t106 t107 t108 t109 t110 t111 t112 t113 t114 t115 t116 t117 t118 t119 t120 t121 t122 t123 t124 t125 t126 t127 t128 t129 t130 t131 t132 t133 t134 t135 t136 t137 t138 t139 t140 t141 t142 t143 t144 t145 t146 t147 t148 t149 : Value) {Q : Exit → Act → World → Prop} (hQ : CatchAll Q) (wr : World) (b5 i : Nat) (v2 : GD) (A5 : Option Addr) (p5 : Nat) (hi3 : i < 3)
    (K5 : Blk wr b5 24 (gdCells v2 A5 v2.members.length p5)) (M5 : (Rp.slice Rp.str).K wr any v2.members [.slice A5 v2.members.length p5]) (hok2 : Hid v2.ok) (HVI : Hid (VarsOk wr))
    (h : Hid (∀ (b10 : Nat) (l : Option VD) (u83 u84 u85 u86 u87 u88 u89 u90 u91 u92 : Value) (wx : World), Least (v2.members.map verOfD) l → wr.heap.size ≤ b10 → Blk wx b10 35 (voteCells (histVote v2 l i)) → Ext wr wx →
      Q .normal ⟨#[t0, t1, t2, t3, t4, t5, .pointer (some ⟨b5, 0, none⟩), t7, t8, .int .i64 (i : Nat), t10, .pointer (some ⟨b10, 0, none⟩), t12, t13, t14, t15, t16, t17, t18, t19, t20, t21, t22, t23, t24, t25, t26, t27, t28, t29, t30, t31, t32, t33, t34, t35, t36, t37, t38, t39, t40, t41, t42, t43, t44, t45, t46, t47, t48, t49, t50, t51, t52, t53, t54, t55, t56, t57, t58, t59, t60, t61, t62, t63, t64, t65, t66, t67, t68, t69, t70, t71, t72, t73, t74, t75, t76, t77, t78, t79, t80, t81, t82, u83, u84, u85, u86, u87, u88, u89, u90, u91, u92, t93, t94, t95, t96, t97, t98, t99, t100, t101, t102, t103, t104, t105, t106, t107, t108, t109, t110, t111, t112, t113, t114, t115, t116, t117, t118, t119, t120, t121, t122, t123, t124, t125, t126, t127, t128, t129, t130, t131, t132, t133, t134, t135, t136, t137, t138, t139, t140, t141, t142, t143, t144, t145, t146, t147, t148, t149], []⟩ wx)) :
    (Code.region 18 ops_3_18 true).wp Tryz.prog Q ⟨#[t0, t1, t2, t3, t4, t5, .pointer (some ⟨b5, 0, none⟩), t7, t8, .int .i64 (i : Nat), t10, t11, t12, t13, t14, t15, t16, t17, t18, t19, t20, t21, t22, t23, t24, t25, t26, t27, t28, t29, t30, t31, t32, t33, t34, t35, t36, t37, t38, t39, t40, t41, t42, t43, t44, t45, t46, t47, t48, t49, t50, t51, t52, t53, t54, t55, t56, t57, t58, t59, t60, t61, t62, t63, t64, t65, t66, t67, t68, t69, t70, t71, t72, t73, t74, t75, t76, t77, t78, t79, t80, t81, t82, t83, t84, t85, t86, t87, t88, t89, t90, t91, t92, t93, t94, t95, t96, t97, t98, t99, t100, t101, t102, t103, t104, t105, t106, t107, t108, t109, t110, t111, t112, t113, t114, t115, t116, t117, t118, t119, t120, t121, t122, t123, t124, t125, t126, t127, t128, t129, t130, t131, t132, t133, t134, t135, t136, t137, t138, t139, t140, t141, t142, t143, t144, t145, t146, t147, t148, t149], []⟩ wr := by
  obtain ⟨r0, r1, r2, r3, r4, r5⟩ := gd_load K5
  obtain ⟨s9, hs9⟩ : ∃ s9, wr.heap.size = s9 := ⟨_, rfl⟩
  have hsL : b5 < s9 := by have := K5.lt; omega
  have hi4 : (i : Int) < 3 := by omega
  have hs : s9 ≤ wr.drew.heap.size := Nat.le_of_eq hs9.symm
  replace hs9 := Lib.hid hs9
  refine wp_region_sched (ops := ops_3_18) (ExtB s9) [11] (.quiet 0 (.quiet 2 (.quiet 4 (.quiet 7 (.loud 1 (.loud 3 (.loud 5 (.loud 6 (.quiet 8 (.loud 9 (.loud 10 (.last 11 (.done)) (.stop)) (.loud 10 (.loud 9 (.last 11 (.done)) (.stop)) (.stop)))) (.loud 10 (.loud 6 (.quiet 8 (.loud 9 (.last 11 (.done)) (.stop))) (.stop)) (.stop))) (.loud 10 (.loud 5 (.loud 6 (.quiet 8 (.loud 9 (.last 11 (.done)) (.stop))) (.stop)) (.stop)) (.stop))) (.loud 10 (.loud 3 (.loud 5 (.loud 6 (.quiet 8 (.loud 9 (.last 11 (.done)) (.stop))) (.stop)) (.stop)) (.stop)) (.stop))) (.loud 10 (.loud 1 (.loud 3 (.loud 5 (.loud 6 (.quiet 8 (.loud 9 (.last 11 (.done)) (.stop))) (.stop)) (.stop)) (.stop)) (.stop)) (.stop))))))) (by kernel_rfl) (extB_refl s9) (extB_trans s9) (by kernel_rfl) (hQ) ?_
  have E : ExtB s9 wr wr.drew := ExtB.refl _ _
  refine wpS_quiet (some 83) { dst := some 83, op := Op.load 24 (Operand.tmp 6), type := _, pos := _, after := _, guard := none } _ rfl rfl (by rfl) (fun wE hE => by (have zk0 := hE.cellS hsL r0; have zk1 := hE.cellS hsL r1; have zk2 := hE.cellS hsL r2; have zk3 := hE.cellS hsL r3; have zk4 := hE.cellS hsL r4; have zk5 := hE.cellS hsL r5; go_simp; try with_reducible rfl)) ?_; simp only [Act.put, List.setIfInBounds_toArray, List.set_cons_zero, List.set_cons_succ]
  refine wpS_quiet (some 85) { dst := some 85, op := Op.load 24 (Operand.tmp 6), type := _, pos := _, after := _, guard := none } _ rfl rfl (by rfl) (fun wE hE => by (have zk0 := hE.cellS hsL r0; have zk1 := hE.cellS hsL r1; have zk2 := hE.cellS hsL r2; have zk3 := hE.cellS hsL r3; have zk4 := hE.cellS hsL r4; have zk5 := hE.cellS hsL r5; go_simp; try with_reducible rfl)) ?_; simp only [Act.put, List.setIfInBounds_toArray, List.set_cons_zero, List.set_cons_succ]
  refine wpS_quiet (some 87) { dst := some 87, op := Op.load 24 (Operand.tmp 6), type := _, pos := _, after := _, guard := none } _ rfl rfl (by rfl) (fun wE hE => by (have zk0 := hE.cellS hsL r0; have zk1 := hE.cellS hsL r1; have zk2 := hE.cellS hsL r2; have zk3 := hE.cellS hsL r3; have zk4 := hE.cellS hsL r4; have zk5 := hE.cellS hsL r5; go_simp; try with_reducible rfl)) ?_; simp only [Act.put, List.setIfInBounds_toArray, List.set_cons_zero, List.set_cons_succ]
  refine wpS_quiet (some 90) { dst := some 90, op := Op.move (Operand.tmp 9), type := _, pos := _, after := _, guard := none } _ rfl rfl (by rfl) (fun wE hE => by (go_simp; try with_reducible rfl)) ?_; simp only [Act.put, List.setIfInBounds_toArray, List.set_cons_zero, List.set_cons_succ]
  refine wpS_callm (some 84) { dst := some 84, op := Op.call { callee := Callee.value (Operand.func 12), args := #[Operand.tmp 83], argTypes := #[24] }, type := _, pos := _, after := _, guard := none } 12 _ rfl rfl (by rfl) (by go_simp; try with_reducible rfl) ?_ ?_
  rotate_right
  · skip
    refine wpS_alloc (some 11) { dst := some 11, op := Op.alloc 35, type := _, pos := _, after := _, guard := none } _ _ rfl rfl (by rfl) (by go_simp; try with_reducible rfl) ?_ ?_ trivial
    exact fun w' h => h.toB hs
    intro b10 wd hb ed K10
    have g10 : s9 ≤ b10 := by omega
    clear hb
    (try replace KS := KS.ext ed)
    have E := E.trans (ed.toB hs)
    have hs := Nat.le_trans hs ed.size
    simp only [Act.put, List.setIfInBounds_toArray, List.set_cons_zero, List.set_cons_succ]
    refine wpS_callm (some 84) { dst := some 84, op := Op.call { callee := Callee.value (Operand.func 12), args := #[Operand.tmp 83], argTypes := #[24] }, type := _, pos := _, after := _, guard := none } 12 _ rfl rfl (by rfl) (by go_simp; try with_reducible rfl) ?_ trivial
    refine (specDecide_any v2 A5 _ p5 wd rfl ((Rp.slice Rp.str).ext' (E.mono (Nat.le_of_eq hs9.out)).ext M5) hok2.out).mono ?_
    rintro e wa ⟨l, hl, rfl, ea⟩
    obtain ⟨x0, hx0⟩ : ∃ x0, x0 = voteOf (decideD (verOfD v2.cluster) l v2.down v2.tv) := ⟨_, rfl⟩
    rw [← hx0]
    replace hx0 := Lib.hid hx0
    replace hl := Lib.hid hl
    refine ⟨_, rfl, ea.toB hs, ?_⟩
    (try replace K10 := K10.ext ea)
    have E := E.trans (ea.toB hs)
    have hs := Nat.le_trans hs ea.size
    simp only [Act.put, List.setIfInBounds_toArray, List.set_cons_zero, List.set_cons_succ]
    refine wpS_callm (some 86) { dst := some 86, op := Op.call { callee := Callee.value (Operand.func 13), args := #[Operand.tmp 85], argTypes := #[24] }, type := _, pos := _, after := _, guard := none } 13 _ rfl rfl (by rfl) (by go_simp; try with_reducible rfl) ?_ trivial
    refine (specStorage_any v2 A5 _ p5 wa hok2.out).mono ?_
    rintro e wb ⟨rfl, eb⟩
    obtain ⟨x1, hx1⟩ : ∃ x1, x1 = stVote vote0 (storageD (verOfD v2.cluster) (verOfD v2.storage)) := ⟨_, rfl⟩
    rw [← hx1]
    replace hx1 := Lib.hid hx1
    refine ⟨_, rfl, eb.toB hs, ?_⟩
    (try replace K10 := K10.ext eb)
    have E := E.trans (eb.toB hs)
    have hs := Nat.le_trans hs eb.size
    simp only [Act.put, List.setIfInBounds_toArray, List.set_cons_zero, List.set_cons_succ]
    refine wpS_callm (some 88) { dst := some 88, op := Op.call { callee := Callee.value (Operand.func 14), args := #[Operand.tmp 87], argTypes := #[24] }, type := _, pos := _, after := _, guard := none } 14 _ rfl rfl (by rfl) (by go_simp; try with_reducible rfl) ?_ trivial
    refine (specCancel_any v2 A5 _ p5 wb rfl ((Rp.slice Rp.str).ext' (E.mono (Nat.le_of_eq hs9.out)).ext M5) hok2.out).mono ?_
    rintro e wc' ⟨rfl, ec⟩
    obtain ⟨x2, hx2⟩ : ∃ x2, x2 = canVote vote0 (cancelD v2) := ⟨_, rfl⟩
    rw [← hx2]
    replace hx2 := Lib.hid hx2
    refine ⟨_, rfl, ec.toB hs, ?_⟩
    (try replace K10 := K10.ext ec)
    have E := E.trans (ec.toB hs)
    have hs := Nat.le_trans hs ec.size
    simp only [Act.put, List.setIfInBounds_toArray, List.set_cons_zero, List.set_cons_succ]
    refine wpS_make (some 89) { dst := some 89, op := Op.buildSlice 37 3 #[(0, Operand.tmp 84), (1, Operand.tmp 86), (2, Operand.tmp 88)], type := _, pos := _, after := _, guard := none } rfl rfl (by rfl) 35 (voteCells x0 ++ voteCells x1 ++ voteCells x2) 3 (by go_simp; try rfl) (fun w' h => h.toB hs) ?_ trivial
    intro bs wg hb eg KS
    have gs : s9 ≤ bs := by omega
    clear hb
    (try replace K10 := K10.ext eg)
    have E := E.trans (eg.toB hs)
    have hs := Nat.le_trans hs eg.size
    simp only [Act.put, List.setIfInBounds_toArray, List.set_cons_zero, List.set_cons_succ]
    refine wpS_quiet (some 91) { dst := some 91, op := Op.indexAddr 37 (Operand.tmp 89) (Operand.tmp 90), type := _, pos := _, after := _, guard := none } _ rfl rfl (by rfl) (fun wE hE => by (go_simp; try with_reducible rfl)) ?_; simp only [Act.put, List.setIfInBounds_toArray, List.set_cons_zero, List.set_cons_succ]
    refine wpS_upd (some 92) { dst := some 92, op := Op.load 35 (Operand.tmp 91), type := _, pos := _, after := _, guard := none } rfl rfl (by rfl)  ?_ trivial
    obtain ⟨y0, y1, y2, y3, y4, y5⟩ := votes_at KS hi3 (x := histVote v2 l i) (by rw [hx0.out, hx1.out, hx2.out]; rfl)
    refine ⟨voteV (histVote v2 l i), wg, by (go_simp; try rfl), ExtB.refl _ _, ?_⟩
    clear y0 y1 y2 y3 y4 y5
    simp only [Act.put, List.setIfInBounds_toArray, List.set_cons_zero, List.set_cons_succ]
    refine wpS_store none { dst := none, op := Op.store 35 (Operand.tmp 11) (Operand.tmp 92), type := _, pos := _, after := _, guard := none } rfl rfl (by rfl) (.tmp 11) (.tmp 92) 35 rfl rfl rfl rfl K10 rfl (Nat.le_refl 6) rfl ?_
    intro wf Kn xf
    (have ef := xf.toB (B := s9) (fun k hk => by have hk : k = b10 := hk; omega) hs)
    replace K10 := Kn
    have E := E.trans ef
    have hs := Nat.le_trans hs ef.size
    simp only [Act.put, List.setIfInBounds_toArray, List.set_cons_zero, List.set_cons_succ]
    exact h.out b10 l _ _ _ _ _ _ _ _ _ _ _ hl.out (by have := hs9.out; omega) K10 (E.mono (Nat.le_of_eq hs9.out)).ext
  refine (specDecide_any v2 A5 _ p5 wr.drew rfl ((Rp.slice Rp.str).ext' (E.mono (Nat.le_of_eq hs9.out)).ext M5) hok2.out).mono ?_
  rintro e wa ⟨l, hl, rfl, ea⟩
  obtain ⟨x0, hx0⟩ : ∃ x0, x0 = voteOf (decideD (verOfD v2.cluster) l v2.down v2.tv) := ⟨_, rfl⟩
  rw [← hx0]
  replace hx0 := Lib.hid hx0
  replace hl := Lib.hid hl
  refine ⟨_, rfl, ea.toB hs, ?_⟩
  (try replace K10 := K10.ext ea)
  have E := E.trans (ea.toB hs)
  have hs := Nat.le_trans hs ea.size
  simp only [Act.put, List.setIfInBounds_toArray, List.set_cons_zero, List.set_cons_succ]
  refine wpS_callm (some 86) { dst := some 86, op := Op.call { callee := Callee.value (Operand.func 13), args := #[Operand.tmp 85], argTypes := #[24] }, type := _, pos := _, after := _, guard := none } 13 _ rfl rfl (by rfl) (by go_simp; try with_reducible rfl) ?_ ?_
  rotate_right
  · skip
    refine wpS_alloc (some 11) { dst := some 11, op := Op.alloc 35, type := _, pos := _, after := _, guard := none } _ _ rfl rfl (by rfl) (by go_simp; try with_reducible rfl) ?_ ?_ trivial
    exact fun w' h => h.toB hs
    intro b10 wd hb ed K10
    have g10 : s9 ≤ b10 := by omega
    clear hb
    (try replace KS := KS.ext ed)
    have E := E.trans (ed.toB hs)
    have hs := Nat.le_trans hs ed.size
    simp only [Act.put, List.setIfInBounds_toArray, List.set_cons_zero, List.set_cons_succ]
    refine wpS_callm (some 86) { dst := some 86, op := Op.call { callee := Callee.value (Operand.func 13), args := #[Operand.tmp 85], argTypes := #[24] }, type := _, pos := _, after := _, guard := none } 13 _ rfl rfl (by rfl) (by go_simp; try with_reducible rfl) ?_ trivial
    refine (specStorage_any v2 A5 _ p5 wd hok2.out).mono ?_
    rintro e wb ⟨rfl, eb⟩
    obtain ⟨x1, hx1⟩ : ∃ x1, x1 = stVote vote0 (storageD (verOfD v2.cluster) (verOfD v2.storage)) := ⟨_, rfl⟩
    rw [← hx1]
    replace hx1 := Lib.hid hx1
    refine ⟨_, rfl, eb.toB hs, ?_⟩
    (try replace K10 := K10.ext eb)
    have E := E.trans (eb.toB hs)
    have hs := Nat.le_trans hs eb.size
    simp only [Act.put, List.setIfInBounds_toArray, List.set_cons_zero, List.set_cons_succ]
    refine wpS_callm (some 88) { dst := some 88, op := Op.call { callee := Callee.value (Operand.func 14), args := #[Operand.tmp 87], argTypes := #[24] }, type := _, pos := _, after := _, guard := none } 14 _ rfl rfl (by rfl) (by go_simp; try with_reducible rfl) ?_ trivial
    refine (specCancel_any v2 A5 _ p5 wb rfl ((Rp.slice Rp.str).ext' (E.mono (Nat.le_of_eq hs9.out)).ext M5) hok2.out).mono ?_
    rintro e wc' ⟨rfl, ec⟩
    obtain ⟨x2, hx2⟩ : ∃ x2, x2 = canVote vote0 (cancelD v2) := ⟨_, rfl⟩
    rw [← hx2]
    replace hx2 := Lib.hid hx2
    refine ⟨_, rfl, ec.toB hs, ?_⟩
    (try replace K10 := K10.ext ec)
    have E := E.trans (ec.toB hs)
    have hs := Nat.le_trans hs ec.size
    simp only [Act.put, List.setIfInBounds_toArray, List.set_cons_zero, List.set_cons_succ]
    refine wpS_make (some 89) { dst := some 89, op := Op.buildSlice 37 3 #[(0, Operand.tmp 84), (1, Operand.tmp 86), (2, Operand.tmp 88)], type := _, pos := _, after := _, guard := none } rfl rfl (by rfl) 35 (voteCells x0 ++ voteCells x1 ++ voteCells x2) 3 (by go_simp; try rfl) (fun w' h => h.toB hs) ?_ trivial
    intro bs wg hb eg KS
    have gs : s9 ≤ bs := by omega
    clear hb
    (try replace K10 := K10.ext eg)
    have E := E.trans (eg.toB hs)
    have hs := Nat.le_trans hs eg.size
    simp only [Act.put, List.setIfInBounds_toArray, List.set_cons_zero, List.set_cons_succ]
    refine wpS_quiet (some 91) { dst := some 91, op := Op.indexAddr 37 (Operand.tmp 89) (Operand.tmp 90), type := _, pos := _, after := _, guard := none } _ rfl rfl (by rfl) (fun wE hE => by (go_simp; try with_reducible rfl)) ?_; simp only [Act.put, List.setIfInBounds_toArray, List.set_cons_zero, List.set_cons_succ]
    refine wpS_upd (some 92) { dst := some 92, op := Op.load 35 (Operand.tmp 91), type := _, pos := _, after := _, guard := none } rfl rfl (by rfl)  ?_ trivial
    obtain ⟨y0, y1, y2, y3, y4, y5⟩ := votes_at KS hi3 (x := histVote v2 l i) (by rw [hx0.out, hx1.out, hx2.out]; rfl)
    refine ⟨voteV (histVote v2 l i), wg, by (go_simp; try rfl), ExtB.refl _ _, ?_⟩
    clear y0 y1 y2 y3 y4 y5
    simp only [Act.put, List.setIfInBounds_toArray, List.set_cons_zero, List.set_cons_succ]
    refine wpS_store none { dst := none, op := Op.store 35 (Operand.tmp 11) (Operand.tmp 92), type := _, pos := _, after := _, guard := none } rfl rfl (by rfl) (.tmp 11) (.tmp 92) 35 rfl rfl rfl rfl K10 rfl (Nat.le_refl 6) rfl ?_
    intro wf Kn xf
    (have ef := xf.toB (B := s9) (fun k hk => by have hk : k = b10 := hk; omega) hs)
    replace K10 := Kn
    have E := E.trans ef
    have hs := Nat.le_trans hs ef.size
    simp only [Act.put, List.setIfInBounds_toArray, List.set_cons_zero, List.set_cons_succ]
    exact h.out b10 l _ _ _ _ _ _ _ _ _ _ _ hl.out (by have := hs9.out; omega) K10 (E.mono (Nat.le_of_eq hs9.out)).ext
  refine (specStorage_any v2 A5 _ p5 wa hok2.out).mono ?_
  rintro e wb ⟨rfl, eb⟩
  obtain ⟨x1, hx1⟩ : ∃ x1, x1 = stVote vote0 (storageD (verOfD v2.cluster) (verOfD v2.storage)) := ⟨_, rfl⟩
  rw [← hx1]
  replace hx1 := Lib.hid hx1
  refine ⟨_, rfl, eb.toB hs, ?_⟩
  (try replace K10 := K10.ext eb)
  have E := E.trans (eb.toB hs)
  have hs := Nat.le_trans hs eb.size
  simp only [Act.put, List.setIfInBounds_toArray, List.set_cons_zero, List.set_cons_succ]
  refine wpS_callm (some 88) { dst := some 88, op := Op.call { callee := Callee.value (Operand.func 14), args := #[Operand.tmp 87], argTypes := #[24] }, type := _, pos := _, after := _, guard := none } 14 _ rfl rfl (by rfl) (by go_simp; try with_reducible rfl) ?_ ?_
  rotate_right
  · skip
    refine wpS_alloc (some 11) { dst := some 11, op := Op.alloc 35, type := _, pos := _, after := _, guard := none } _ _ rfl rfl (by rfl) (by go_simp; try with_reducible rfl) ?_ ?_ trivial
    exact fun w' h => h.toB hs
    intro b10 wd hb ed K10
    have g10 : s9 ≤ b10 := by omega
    clear hb
    (try replace KS := KS.ext ed)
    have E := E.trans (ed.toB hs)
    have hs := Nat.le_trans hs ed.size
    simp only [Act.put, List.setIfInBounds_toArray, List.set_cons_zero, List.set_cons_succ]
    refine wpS_callm (some 88) { dst := some 88, op := Op.call { callee := Callee.value (Operand.func 14), args := #[Operand.tmp 87], argTypes := #[24] }, type := _, pos := _, after := _, guard := none } 14 _ rfl rfl (by rfl) (by go_simp; try with_reducible rfl) ?_ trivial
    refine (specCancel_any v2 A5 _ p5 wd rfl ((Rp.slice Rp.str).ext' (E.mono (Nat.le_of_eq hs9.out)).ext M5) hok2.out).mono ?_
    rintro e wc' ⟨rfl, ec⟩
    obtain ⟨x2, hx2⟩ : ∃ x2, x2 = canVote vote0 (cancelD v2) := ⟨_, rfl⟩
    rw [← hx2]
    replace hx2 := Lib.hid hx2
    refine ⟨_, rfl, ec.toB hs, ?_⟩
    (try replace K10 := K10.ext ec)
    have E := E.trans (ec.toB hs)
    have hs := Nat.le_trans hs ec.size
    simp only [Act.put, List.setIfInBounds_toArray, List.set_cons_zero, List.set_cons_succ]
    refine wpS_make (some 89) { dst := some 89, op := Op.buildSlice 37 3 #[(0, Operand.tmp 84), (1, Operand.tmp 86), (2, Operand.tmp 88)], type := _, pos := _, after := _, guard := none } rfl rfl (by rfl) 35 (voteCells x0 ++ voteCells x1 ++ voteCells x2) 3 (by go_simp; try rfl) (fun w' h => h.toB hs) ?_ trivial
    intro bs wg hb eg KS
    have gs : s9 ≤ bs := by omega
    clear hb
    (try replace K10 := K10.ext eg)
    have E := E.trans (eg.toB hs)
    have hs := Nat.le_trans hs eg.size
    simp only [Act.put, List.setIfInBounds_toArray, List.set_cons_zero, List.set_cons_succ]
    refine wpS_quiet (some 91) { dst := some 91, op := Op.indexAddr 37 (Operand.tmp 89) (Operand.tmp 90), type := _, pos := _, after := _, guard := none } _ rfl rfl (by rfl) (fun wE hE => by (go_simp; try with_reducible rfl)) ?_; simp only [Act.put, List.setIfInBounds_toArray, List.set_cons_zero, List.set_cons_succ]
    refine wpS_upd (some 92) { dst := some 92, op := Op.load 35 (Operand.tmp 91), type := _, pos := _, after := _, guard := none } rfl rfl (by rfl)  ?_ trivial
    obtain ⟨y0, y1, y2, y3, y4, y5⟩ := votes_at KS hi3 (x := histVote v2 l i) (by rw [hx0.out, hx1.out, hx2.out]; rfl)
    refine ⟨voteV (histVote v2 l i), wg, by (go_simp; try rfl), ExtB.refl _ _, ?_⟩
    clear y0 y1 y2 y3 y4 y5
    simp only [Act.put, List.setIfInBounds_toArray, List.set_cons_zero, List.set_cons_succ]
    refine wpS_store none { dst := none, op := Op.store 35 (Operand.tmp 11) (Operand.tmp 92), type := _, pos := _, after := _, guard := none } rfl rfl (by rfl) (.tmp 11) (.tmp 92) 35 rfl rfl rfl rfl K10 rfl (Nat.le_refl 6) rfl ?_
    intro wf Kn xf
    (have ef := xf.toB (B := s9) (fun k hk => by have hk : k = b10 := hk; omega) hs)
    replace K10 := Kn
    have E := E.trans ef
    have hs := Nat.le_trans hs ef.size
    simp only [Act.put, List.setIfInBounds_toArray, List.set_cons_zero, List.set_cons_succ]
    exact h.out b10 l _ _ _ _ _ _ _ _ _ _ _ hl.out (by have := hs9.out; omega) K10 (E.mono (Nat.le_of_eq hs9.out)).ext
  refine (specCancel_any v2 A5 _ p5 wb rfl ((Rp.slice Rp.str).ext' (E.mono (Nat.le_of_eq hs9.out)).ext M5) hok2.out).mono ?_
  rintro e wc' ⟨rfl, ec⟩
  obtain ⟨x2, hx2⟩ : ∃ x2, x2 = canVote vote0 (cancelD v2) := ⟨_, rfl⟩
  rw [← hx2]
  replace hx2 := Lib.hid hx2
  refine ⟨_, rfl, ec.toB hs, ?_⟩
  (try replace K10 := K10.ext ec)
  have E := E.trans (ec.toB hs)
  have hs := Nat.le_trans hs ec.size
  simp only [Act.put, List.setIfInBounds_toArray, List.set_cons_zero, List.set_cons_succ]
  refine wpS_make (some 89) { dst := some 89, op := Op.buildSlice 37 3 #[(0, Operand.tmp 84), (1, Operand.tmp 86), (2, Operand.tmp 88)], type := _, pos := _, after := _, guard := none } rfl rfl (by rfl) 35 (voteCells x0 ++ voteCells x1 ++ voteCells x2) 3 (by go_simp; try rfl) (fun w' h => h.toB hs) ?_ ?_
  rotate_right
  · skip
    refine wpS_alloc (some 11) { dst := some 11, op := Op.alloc 35, type := _, pos := _, after := _, guard := none } _ _ rfl rfl (by rfl) (by go_simp; try with_reducible rfl) ?_ ?_ trivial
    exact fun w' h => h.toB hs
    intro b10 wd hb ed K10
    have g10 : s9 ≤ b10 := by omega
    clear hb
    (try replace KS := KS.ext ed)
    have E := E.trans (ed.toB hs)
    have hs := Nat.le_trans hs ed.size
    simp only [Act.put, List.setIfInBounds_toArray, List.set_cons_zero, List.set_cons_succ]
    refine wpS_make (some 89) { dst := some 89, op := Op.buildSlice 37 3 #[(0, Operand.tmp 84), (1, Operand.tmp 86), (2, Operand.tmp 88)], type := _, pos := _, after := _, guard := none } rfl rfl (by rfl) 35 (voteCells x0 ++ voteCells x1 ++ voteCells x2) 3 (by go_simp; try rfl) (fun w' h => h.toB hs) ?_ trivial
    intro bs wg hb eg KS
    have gs : s9 ≤ bs := by omega
    clear hb
    (try replace K10 := K10.ext eg)
    have E := E.trans (eg.toB hs)
    have hs := Nat.le_trans hs eg.size
    simp only [Act.put, List.setIfInBounds_toArray, List.set_cons_zero, List.set_cons_succ]
    refine wpS_quiet (some 91) { dst := some 91, op := Op.indexAddr 37 (Operand.tmp 89) (Operand.tmp 90), type := _, pos := _, after := _, guard := none } _ rfl rfl (by rfl) (fun wE hE => by (go_simp; try with_reducible rfl)) ?_; simp only [Act.put, List.setIfInBounds_toArray, List.set_cons_zero, List.set_cons_succ]
    refine wpS_upd (some 92) { dst := some 92, op := Op.load 35 (Operand.tmp 91), type := _, pos := _, after := _, guard := none } rfl rfl (by rfl)  ?_ trivial
    obtain ⟨y0, y1, y2, y3, y4, y5⟩ := votes_at KS hi3 (x := histVote v2 l i) (by rw [hx0.out, hx1.out, hx2.out]; rfl)
    refine ⟨voteV (histVote v2 l i), wg, by (go_simp; try rfl), ExtB.refl _ _, ?_⟩
    clear y0 y1 y2 y3 y4 y5
    simp only [Act.put, List.setIfInBounds_toArray, List.set_cons_zero, List.set_cons_succ]
    refine wpS_store none { dst := none, op := Op.store 35 (Operand.tmp 11) (Operand.tmp 92), type := _, pos := _, after := _, guard := none } rfl rfl (by rfl) (.tmp 11) (.tmp 92) 35 rfl rfl rfl rfl K10 rfl (Nat.le_refl 6) rfl ?_
    intro wf Kn xf
    (have ef := xf.toB (B := s9) (fun k hk => by have hk : k = b10 := hk; omega) hs)
    replace K10 := Kn
    have E := E.trans ef
    have hs := Nat.le_trans hs ef.size
    simp only [Act.put, List.setIfInBounds_toArray, List.set_cons_zero, List.set_cons_succ]
    exact h.out b10 l _ _ _ _ _ _ _ _ _ _ _ hl.out (by have := hs9.out; omega) K10 (E.mono (Nat.le_of_eq hs9.out)).ext
  intro bs wg hb eg KS
  have gs : s9 ≤ bs := by omega
  clear hb
  (try replace K10 := K10.ext eg)
  have E := E.trans (eg.toB hs)
  have hs := Nat.le_trans hs eg.size
  simp only [Act.put, List.setIfInBounds_toArray, List.set_cons_zero, List.set_cons_succ]
  refine wpS_quiet (some 91) { dst := some 91, op := Op.indexAddr 37 (Operand.tmp 89) (Operand.tmp 90), type := _, pos := _, after := _, guard := none } _ rfl rfl (by rfl) (fun wE hE => by (go_simp; try with_reducible rfl)) ?_; simp only [Act.put, List.setIfInBounds_toArray, List.set_cons_zero, List.set_cons_succ]
  refine wpS_upd (some 92) { dst := some 92, op := Op.load 35 (Operand.tmp 91), type := _, pos := _, after := _, guard := none } rfl rfl (by rfl)  ?_ ?_
  rotate_right
  · skip
    refine wpS_alloc (some 11) { dst := some 11, op := Op.alloc 35, type := _, pos := _, after := _, guard := none } _ _ rfl rfl (by rfl) (by go_simp; try with_reducible rfl) ?_ ?_ trivial
    exact fun w' h => h.toB hs
    intro b10 wd hb ed K10
    have g10 : s9 ≤ b10 := by omega
    clear hb
    (try replace KS := KS.ext ed)
    have E := E.trans (ed.toB hs)
    have hs := Nat.le_trans hs ed.size
    simp only [Act.put, List.setIfInBounds_toArray, List.set_cons_zero, List.set_cons_succ]
    refine wpS_upd (some 92) { dst := some 92, op := Op.load 35 (Operand.tmp 91), type := _, pos := _, after := _, guard := none } rfl rfl (by rfl)  ?_ trivial
    obtain ⟨y0, y1, y2, y3, y4, y5⟩ := votes_at KS hi3 (x := histVote v2 l i) (by rw [hx0.out, hx1.out, hx2.out]; rfl)
    refine ⟨voteV (histVote v2 l i), wd, by (go_simp; try rfl), ExtB.refl _ _, ?_⟩
    clear y0 y1 y2 y3 y4 y5
    simp only [Act.put, List.setIfInBounds_toArray, List.set_cons_zero, List.set_cons_succ]
    refine wpS_store none { dst := none, op := Op.store 35 (Operand.tmp 11) (Operand.tmp 92), type := _, pos := _, after := _, guard := none } rfl rfl (by rfl) (.tmp 11) (.tmp 92) 35 rfl rfl rfl rfl K10 rfl (Nat.le_refl 6) rfl ?_
    intro wf Kn xf
    (have ef := xf.toB (B := s9) (fun k hk => by have hk : k = b10 := hk; omega) hs)
    replace K10 := Kn
    have E := E.trans ef
    have hs := Nat.le_trans hs ef.size
    simp only [Act.put, List.setIfInBounds_toArray, List.set_cons_zero, List.set_cons_succ]
    exact h.out b10 l _ _ _ _ _ _ _ _ _ _ _ hl.out (by have := hs9.out; omega) K10 (E.mono (Nat.le_of_eq hs9.out)).ext
  obtain ⟨y0, y1, y2, y3, y4, y5⟩ := votes_at KS hi3 (x := histVote v2 l i) (by rw [hx0.out, hx1.out, hx2.out]; rfl)
  refine ⟨voteV (histVote v2 l i), wg, by (go_simp; try rfl), ExtB.refl _ _, ?_⟩
  clear y0 y1 y2 y3 y4 y5
  simp only [Act.put, List.setIfInBounds_toArray, List.set_cons_zero, List.set_cons_succ]
  refine wpS_alloc (some 11) { dst := some 11, op := Op.alloc 35, type := _, pos := _, after := _, guard := none } _ _ rfl rfl (by rfl) (by go_simp; try with_reducible rfl) ?_ ?_ trivial
  exact fun w' h => h.toB hs
  intro b10 wd hb ed K10
  have g10 : s9 ≤ b10 := by omega
  clear hb
  (try replace KS := KS.ext ed)
  have E := E.trans (ed.toB hs)
  have hs := Nat.le_trans hs ed.size
  simp only [Act.put, List.setIfInBounds_toArray, List.set_cons_zero, List.set_cons_succ]
  refine wpS_store none { dst := none, op := Op.store 35 (Operand.tmp 11) (Operand.tmp 92), type := _, pos := _, after := _, guard := none } rfl rfl (by rfl) (.tmp 11) (.tmp 92) 35 rfl rfl rfl rfl K10 rfl (Nat.le_refl 6) rfl ?_
  intro wf Kn xf
  (have ef := xf.toB (B := s9) (fun k hk => by have hk : k = b10 := hk; omega) hs)
  replace K10 := Kn
  have E := E.trans ef
  have hs := Nat.le_trans hs ef.size
  simp only [Act.put, List.setIfInBounds_toArray, List.set_cons_zero, List.set_cons_succ]
  exact h.out b10 l _ _ _ _ _ _ _ _ _ _ _ hl.out (by have := hs9.out; omega) K10 (E.mono (Nat.le_of_eq hs9.out)).ext

set_option maxRecDepth 20000 in
set_option maxHeartbeats 8000000 in
theorem reg21 (t0 t1 t2 t3 t4 t7 t8 t9 t12 t13 t14 t15 t16 t17 t18 t19 t20 t21 t22 t23 t24 t25 t26 t27 t28 t29 t30 t31 t32 t33 t34 t35 t36 t37 t38 t39 t40 t41 t42 t43 t44 t45 t46 t47 t48 t49 t50 t51 t52 t53 t54 t55 t56 t57 t58 t59 t60 t61 t62 t63 t64 t65 t66 t67 t68 t69 t70 t71 t72 t73 t74 t75 t76 t77 t78 t79 t80 t81 t82 t83 t84 t85 t86 t87 t88 t89 t90 t91 t92 t93 t94 t95 t96 t97 t98 t99 t100 t101 t102 t103 t104 t105 t106 t107 t108 t109 t110 t111 t112 t113 t114 t115 t116 t117 t118 t119 t120 t121 t122 t123 t124 t125 t126 t127 t128 t129 t130 t131 t132 t133 t134 t135 t136 t137 t138 t139 t140 t141 t142 t143 t144 t145 t146 t147 t148 t149 : Value) {Q : Exit → Act → World → Prop} (hQ : CatchAll Q) (wd : World) (b5 b6 b10 b11 : Nat) (v2 : GD) (x : VoteD) (A5 A6 : Option Addr) (p5 p6 : Nat) (n56 : b5 ≠ b6) (hb10 : b10 ≠ b5) (hb11 : b11 ≠ b5)
    (K5 : Blk wd b5 24 (gdCells v2 A5 v2.members.length p5)) (K6 : Blk wd b6 24 (gdCells v2 A6 v2.members.length p6)) (K10 : Blk wd b10 35 (voteCells x)) (K11 : Blk wd b11 35 (voteCells x)) (hxk : Hid (VKind x))
    (h : Hid (∀ (u96 u97 u98 u99 u100 u101 : Value) (w9 we wf : World), Ext wd w9 → ExtX (fun k => k = b5) w9 we → ExtX (fun k => k = b6) we wf → Blk wf b5 24 (gdCells (voted v2 x) A5 v2.members.length p5) → Blk wf b6 24 (gdCells (voted v2 x) A6 v2.members.length p6) →
      Q .normal ⟨#[t0, t1, t2, t3, t4, .pointer (some ⟨b5, 0, none⟩), .pointer (some ⟨b6, 0, none⟩), t7, t8, t9, .pointer (some ⟨b10, 0, none⟩), .pointer (some ⟨b11, 0, none⟩), t12, t13, t14, t15, t16, t17, t18, t19, t20, t21, t22, t23, t24, t25, t26, t27, t28, t29, t30, t31, t32, t33, t34, t35, t36, t37, t38, t39, t40, t41, t42, t43, t44, t45, t46, t47, t48, t49, t50, t51, t52, t53, t54, t55, t56, t57, t58, t59, t60, t61, t62, t63, t64, t65, t66, t67, t68, t69, t70, t71, t72, t73, t74, t75, t76, t77, t78, t79, t80, t81, t82, t83, t84, t85, t86, t87, t88, t89, t90, t91, t92, t93, t94, t95, u96, u97, u98, u99, u100, u101, t102, t103, t104, t105, t106, t107, t108, t109, t110, t111, t112, t113, t114, t115, t116, t117, t118, t119, t120, t121, t122, t123, t124, t125, t126, t127, t128, t129, t130, t131, t132, t133, t134, t135, t136, t137, t138, t139, t140, t141, t142, t143, t144, t145, t146, t147, t148, t149], []⟩ wf)) :
    (Code.region 21 ops_3_21 true).wp Tryz.prog Q ⟨#[t0, t1, t2, t3, t4, .pointer (some ⟨b5, 0, none⟩), .pointer (some ⟨b6, 0, none⟩), t7, t8, t9, .pointer (some ⟨b10, 0, none⟩), .pointer (some ⟨b11, 0, none⟩), t12, t13, t14, t15, t16, t17, t18, t19, t20, t21, t22, t23, t24, t25, t26, t27, t28, t29, t30, t31, t32, t33, t34, t35, t36, t37, t38, t39, t40, t41, t42, t43, t44, t45, t46, t47, t48, t49, t50, t51, t52, t53, t54, t55, t56, t57, t58, t59, t60, t61, t62, t63, t64, t65, t66, t67, t68, t69, t70, t71, t72, t73, t74, t75, t76, t77, t78, t79, t80, t81, t82, t83, t84, t85, t86, t87, t88, t89, t90, t91, t92, t93, t94, t95, t96, t97, t98, t99, t100, t101, t102, t103, t104, t105, t106, t107, t108, t109, t110, t111, t112, t113, t114, t115, t116, t117, t118, t119, t120, t121, t122, t123, t124, t125, t126, t127, t128, t129, t130, t131, t132, t133, t134, t135, t136, t137, t138, t139, t140, t141, t142, t143, t144, t145, t146, t147, t148, t149], []⟩ wd := by
  obtain ⟨n0, n1, n2, n3, n4, n5⟩ := vote_load K10
  obtain ⟨m0, m1, m2, m3, m4, m5⟩ := vote_load K11
  obtain ⟨t0', t1', t2', t3', t4', t5'⟩ := gd_load K6
  obtain ⟨s0, s1', s2, s3, s4, s5⟩ := gd_load K5
  refine wp_region_sched (ops := ops_3_21) (ExtX (fun k => k = b5)) [7] (.quiet 1 (.quiet 3 (.quiet 4 (.loud 0 (.loud 2 (.loud 5 (.loud 6 (.last 7 (.done)) (.stop)) (.stop)) (.stop)) (.stop))))) (by kernel_rfl) (ExtX.refl (fun k => k = b5)) (fun _ _ _ => ExtX.trans) (by kernel_rfl) (hQ) ?_
  refine wpS_quiet (some 97) { dst := some 97, op := Op.load 35 (Operand.tmp 10), type := _, pos := _, after := _, guard := none } _ rfl rfl (by rfl) (fun wE hE => by (have zk0 := hE.cellS (by first | exact (fun h : b6 = b5 => n56 h.symm) | exact hb10 | exact hb11) n0; have zk1 := hE.cellS (by first | exact (fun h : b6 = b5 => n56 h.symm) | exact hb10 | exact hb11) n1; have zk2 := hE.cellS (by first | exact (fun h : b6 = b5 => n56 h.symm) | exact hb10 | exact hb11) n2; have zk3 := hE.cellS (by first | exact (fun h : b6 = b5 => n56 h.symm) | exact hb10 | exact hb11) n3; have zk4 := hE.cellS (by first | exact (fun h : b6 = b5 => n56 h.symm) | exact hb10 | exact hb11) n4; have zk5 := hE.cellS (by first | exact (fun h : b6 = b5 => n56 h.symm) | exact hb10 | exact hb11) n5; have zk6 := hE.cellS (by first | exact (fun h : b6 = b5 => n56 h.symm) | exact hb10 | exact hb11) m0; have zk7 := hE.cellS (by first | exact (fun h : b6 = b5 => n56 h.symm) | exact hb10 | exact hb11) m1; have zk8 := hE.cellS (by first | exact (fun h : b6 = b5 => n56 h.symm) | exact hb10 | exact hb11) m2; have zk9 := hE.cellS (by first | exact (fun h : b6 = b5 => n56 h.symm) | exact hb10 | exact hb11) m3; have zk10 := hE.cellS (by first | exact (fun h : b6 = b5 => n56 h.symm) | exact hb10 | exact hb11) m4; have zk11 := hE.cellS (by first | exact (fun h : b6 = b5 => n56 h.symm) | exact hb10 | exact hb11) m5; have zk12 := hE.cellS (by first | exact (fun h : b6 = b5 => n56 h.symm) | exact hb10 | exact hb11) t0'; have zk13 := hE.cellS (by first | exact (fun h : b6 = b5 => n56 h.symm) | exact hb10 | exact hb11) t1'; have zk14 := hE.cellS (by first | exact (fun h : b6 = b5 => n56 h.symm) | exact hb10 | exact hb11) t2'; have zk15 := hE.cellS (by first | exact (fun h : b6 = b5 => n56 h.symm) | exact hb10 | exact hb11) t3'; have zk16 := hE.cellS (by first | exact (fun h : b6 = b5 => n56 h.symm) | exact hb10 | exact hb11) t4'; have zk17 := hE.cellS (by first | exact (fun h : b6 = b5 => n56 h.symm) | exact hb10 | exact hb11) t5'; go_simp; try with_reducible rfl)) ?_; simp only [Act.put, List.setIfInBounds_toArray, List.set_cons_zero, List.set_cons_succ]
  refine wpS_quiet (some 99) { dst := some 99, op := Op.load 24 (Operand.tmp 6), type := _, pos := _, after := _, guard := none } _ rfl rfl (by rfl) (fun wE hE => by (have zk0 := hE.cellS (by first | exact (fun h : b6 = b5 => n56 h.symm) | exact hb10 | exact hb11) n0; have zk1 := hE.cellS (by first | exact (fun h : b6 = b5 => n56 h.symm) | exact hb10 | exact hb11) n1; have zk2 := hE.cellS (by first | exact (fun h : b6 = b5 => n56 h.symm) | exact hb10 | exact hb11) n2; have zk3 := hE.cellS (by first | exact (fun h : b6 = b5 => n56 h.symm) | exact hb10 | exact hb11) n3; have zk4 := hE.cellS (by first | exact (fun h : b6 = b5 => n56 h.symm) | exact hb10 | exact hb11) n4; have zk5 := hE.cellS (by first | exact (fun h : b6 = b5 => n56 h.symm) | exact hb10 | exact hb11) n5; have zk6 := hE.cellS (by first | exact (fun h : b6 = b5 => n56 h.symm) | exact hb10 | exact hb11) m0; have zk7 := hE.cellS (by first | exact (fun h : b6 = b5 => n56 h.symm) | exact hb10 | exact hb11) m1; have zk8 := hE.cellS (by first | exact (fun h : b6 = b5 => n56 h.symm) | exact hb10 | exact hb11) m2; have zk9 := hE.cellS (by first | exact (fun h : b6 = b5 => n56 h.symm) | exact hb10 | exact hb11) m3; have zk10 := hE.cellS (by first | exact (fun h : b6 = b5 => n56 h.symm) | exact hb10 | exact hb11) m4; have zk11 := hE.cellS (by first | exact (fun h : b6 = b5 => n56 h.symm) | exact hb10 | exact hb11) m5; have zk12 := hE.cellS (by first | exact (fun h : b6 = b5 => n56 h.symm) | exact hb10 | exact hb11) t0'; have zk13 := hE.cellS (by first | exact (fun h : b6 = b5 => n56 h.symm) | exact hb10 | exact hb11) t1'; have zk14 := hE.cellS (by first | exact (fun h : b6 = b5 => n56 h.symm) | exact hb10 | exact hb11) t2'; have zk15 := hE.cellS (by first | exact (fun h : b6 = b5 => n56 h.symm) | exact hb10 | exact hb11) t3'; have zk16 := hE.cellS (by first | exact (fun h : b6 = b5 => n56 h.symm) | exact hb10 | exact hb11) t4'; have zk17 := hE.cellS (by first | exact (fun h : b6 = b5 => n56 h.symm) | exact hb10 | exact hb11) t5'; go_simp; try with_reducible rfl)) ?_; simp only [Act.put, List.setIfInBounds_toArray, List.set_cons_zero, List.set_cons_succ]
  refine wpS_quiet (some 100) { dst := some 100, op := Op.load 35 (Operand.tmp 11), type := _, pos := _, after := _, guard := none } _ rfl rfl (by rfl) (fun wE hE => by (have zk0 := hE.cellS (by first | exact (fun h : b6 = b5 => n56 h.symm) | exact hb10 | exact hb11) n0; have zk1 := hE.cellS (by first | exact (fun h : b6 = b5 => n56 h.symm) | exact hb10 | exact hb11) n1; have zk2 := hE.cellS (by first | exact (fun h : b6 = b5 => n56 h.symm) | exact hb10 | exact hb11) n2; have zk3 := hE.cellS (by first | exact (fun h : b6 = b5 => n56 h.symm) | exact hb10 | exact hb11) n3; have zk4 := hE.cellS (by first | exact (fun h : b6 = b5 => n56 h.symm) | exact hb10 | exact hb11) n4; have zk5 := hE.cellS (by first | exact (fun h : b6 = b5 => n56 h.symm) | exact hb10 | exact hb11) n5; have zk6 := hE.cellS (by first | exact (fun h : b6 = b5 => n56 h.symm) | exact hb10 | exact hb11) m0; have zk7 := hE.cellS (by first | exact (fun h : b6 = b5 => n56 h.symm) | exact hb10 | exact hb11) m1; have zk8 := hE.cellS (by first | exact (fun h : b6 = b5 => n56 h.symm) | exact hb10 | exact hb11) m2; have zk9 := hE.cellS (by first | exact (fun h : b6 = b5 => n56 h.symm) | exact hb10 | exact hb11) m3; have zk10 := hE.cellS (by first | exact (fun h : b6 = b5 => n56 h.symm) | exact hb10 | exact hb11) m4; have zk11 := hE.cellS (by first | exact (fun h : b6 = b5 => n56 h.symm) | exact hb10 | exact hb11) m5; have zk12 := hE.cellS (by first | exact (fun h : b6 = b5 => n56 h.symm) | exact hb10 | exact hb11) t0'; have zk13 := hE.cellS (by first | exact (fun h : b6 = b5 => n56 h.symm) | exact hb10 | exact hb11) t1'; have zk14 := hE.cellS (by first | exact (fun h : b6 = b5 => n56 h.symm) | exact hb10 | exact hb11) t2'; have zk15 := hE.cellS (by first | exact (fun h : b6 = b5 => n56 h.symm) | exact hb10 | exact hb11) t3'; have zk16 := hE.cellS (by first | exact (fun h : b6 = b5 => n56 h.symm) | exact hb10 | exact hb11) t4'; have zk17 := hE.cellS (by first | exact (fun h : b6 = b5 => n56 h.symm) | exact hb10 | exact hb11) t5'; go_simp; try with_reducible rfl)) ?_; simp only [Act.put, List.setIfInBounds_toArray, List.set_cons_zero, List.set_cons_succ]
  refine wpS_upd (some 96) { dst := some 96, op := Op.load 24 (Operand.tmp 5), type := _, pos := _, after := _, guard := none } rfl rfl (by rfl) ?_ trivial
  refine ⟨gdV v2 A5 v2.members.length p5, wd.drew, by go_simp; try rfl, ExtX.refl _ _, ?_⟩
  simp only [Act.put, List.setIfInBounds_toArray, List.set_cons_zero, List.set_cons_succ]
  refine wpS_call (some 98) { dst := some 98, op := Op.call { callee := Callee.value (Operand.func 15), args := #[Operand.tmp 96, Operand.tmp 97], argTypes := #[24, 35] }, type := _, pos := _, after := _, guard := none } 15 _ rfl rfl (by rfl) (by go_simp; try first | with_reducible rfl | exact ⟨rfl, rfl⟩) ?_
  refine (voted_all v2 x A5 _ p5 _ hxk.out).mono ?_; rintro e w8 ⟨rfl, h8⟩; refine ⟨_, rfl, (h8.toX _), ?_⟩; simp only [Act.put, List.setIfInBounds_toArray, List.set_cons_zero, List.set_cons_succ]
  refine wpS_call (some 101) { dst := some 101, op := Op.call { callee := Callee.value (Operand.func 15), args := #[Operand.tmp 99, Operand.tmp 100], argTypes := #[24, 35] }, type := _, pos := _, after := _, guard := none } 15 _ rfl rfl (by rfl) (by go_simp; try first | with_reducible rfl | exact ⟨rfl, rfl⟩) ?_
  refine (voted_all v2 x A6 _ p6 w8 hxk.out).mono ?_; rintro e w9 ⟨rfl, h9⟩; refine ⟨_, rfl, (h9.toX _), ?_⟩; simp only [Act.put, List.setIfInBounds_toArray, List.set_cons_zero, List.set_cons_succ]
  have K59 := (K5.ext h8.undrew).ext h9
  have K69 := (K6.ext h8.undrew).ext h9
  refine wpS_storeL none { dst := none, op := Op.store 24 (Operand.tmp 5) (Operand.tmp 98), type := _, pos := _, after := _, guard := none } rfl rfl (by rfl) (.tmp 5) (.tmp 98) 24 rfl rfl rfl rfl K59 rfl (Nat.le_of_ble_eq_true rfl) rfl (fun w' x => x) ?_ trivial
  intro we Ke xe
  simp only [Act.put, List.setIfInBounds_toArray, List.set_cons_zero, List.set_cons_succ]
  have K6e := K69.extX xe (fun h => n56 h.symm)
  refine wpS_store none { dst := none, op := Op.store 24 (Operand.tmp 6) (Operand.tmp 101), type := _, pos := _, after := _, guard := none } rfl rfl (by rfl) (.tmp 6) (.tmp 101) 24 rfl rfl rfl rfl K6e rfl (Nat.le_of_ble_eq_true rfl) rfl ?_
  intro wf Kf xf
  simp only [Act.put, List.setIfInBounds_toArray, List.set_cons_zero, List.set_cons_succ]
  exact h.out _ _ _ _ _ _ _ _ _ (h8.undrew.trans h9) xe xf (Ke.extX xf n56) Kf

set_option maxRecDepth 20000 in
set_option maxHeartbeats 8000000 in
theorem reg28 (t0 t1 t2 t3 t4 t7 t8 t9 t10 t11 t14 t15 t16 t17 t18 t19 t20 t21 t22 t23 t24 t25 t26 t27 t28 t29 t30 t31 t32 t33 t34 t35 t36 t37 t38 t39 t40 t41 t42 t43 t44 t45 t46 t47 t48 t49 t50 t51 t52 t53 t54 t55 t56 t57 t58 t59 t60 t61 t62 t63 t64 t65 t66 t67 t68 t69 t70 t71 t72 t73 t74 t75 t76 t77 t78 t79 t80 t81 t82 t83 t84 t85 t86 t87 t88 t89 t90 t91 t92 t93 t94 t95 t96 t97 t98 t99 t100 t101 t102 t103 t104 t105 t106 t107 t108 t109 t110 t111 t112 t113 t114 t115 t116 t117 t118 t119 t120 t121 t122 t123 t124 t125 t126 t127 t128 t129 t130 t131 t132 t133 t134 t135 t136 t137 t138 t139 t140 t141 t142 t143 t144 t145 t146 t147 t148 t149 : Value) {Q : Exit → Act → World → Prop} (hQ : CatchAll Q) (wd : World) (b5 b6 b10 b11 : Nat) (v2 : GD) (x : VoteD) (A5 A6 : Option Addr) (p5 p6 : Nat) (n56 : b5 ≠ b6) (hb10 : b10 ≠ b5) (hb11 : b11 ≠ b5)
    (K5 : Blk wd b5 24 (gdCells v2 A5 v2.members.length p5)) (K6 : Blk wd b6 24 (gdCells v2 A6 v2.members.length p6)) (K10 : Blk wd b10 35 (voteCells x)) (K11 : Blk wd b11 35 (voteCells x)) (hxk : Hid (VKind x))
    (h : Hid (∀ (u119 u120 u121 u122 u123 u124 : Value) (w9 we wf : World), Ext wd w9 → ExtX (fun k => k = b5) w9 we → ExtX (fun k => k = b6) we wf → Blk wf b5 24 (gdCells (voted v2 x) A5 v2.members.length p5) → Blk wf b6 24 (gdCells (voted v2 x) A6 v2.members.length p6) →
      Q .normal ⟨#[t0, t1, t2, t3, t4, .pointer (some ⟨b5, 0, none⟩), .pointer (some ⟨b6, 0, none⟩), t7, t8, t9, t10, t11, .pointer (some ⟨b10, 0, none⟩), .pointer (some ⟨b11, 0, none⟩), t14, t15, t16, t17, t18, t19, t20, t21, t22, t23, t24, t25, t26, t27, t28, t29, t30, t31, t32, t33, t34, t35, t36, t37, t38, t39, t40, t41, t42, t43, t44, t45, t46, t47, t48, t49, t50, t51, t52, t53, t54, t55, t56, t57, t58, t59, t60, t61, t62, t63, t64, t65, t66, t67, t68, t69, t70, t71, t72, t73, t74, t75, t76, t77, t78, t79, t80, t81, t82, t83, t84, t85, t86, t87, t88, t89, t90, t91, t92, t93, t94, t95, t96, t97, t98, t99, t100, t101, t102, t103, t104, t105, t106, t107, t108, t109, t110, t111, t112, t113, t114, t115, t116, t117, t118, u119, u120, u121, u122, u123, u124, t125, t126, t127, t128, t129, t130, t131, t132, t133, t134, t135, t136, t137, t138, t139, t140, t141, t142, t143, t144, t145, t146, t147, t148, t149], []⟩ wf)) :
    (Code.region 28 ops_3_28 true).wp Tryz.prog Q ⟨#[t0, t1, t2, t3, t4, .pointer (some ⟨b5, 0, none⟩), .pointer (some ⟨b6, 0, none⟩), t7, t8, t9, t10, t11, .pointer (some ⟨b10, 0, none⟩), .pointer (some ⟨b11, 0, none⟩), t14, t15, t16, t17, t18, t19, t20, t21, t22, t23, t24, t25, t26, t27, t28, t29, t30, t31, t32, t33, t34, t35, t36, t37, t38, t39, t40, t41, t42, t43, t44, t45, t46, t47, t48, t49, t50, t51, t52, t53, t54, t55, t56, t57, t58, t59, t60, t61, t62, t63, t64, t65, t66, t67, t68, t69, t70, t71, t72, t73, t74, t75, t76, t77, t78, t79, t80, t81, t82, t83, t84, t85, t86, t87, t88, t89, t90, t91, t92, t93, t94, t95, t96, t97, t98, t99, t100, t101, t102, t103, t104, t105, t106, t107, t108, t109, t110, t111, t112, t113, t114, t115, t116, t117, t118, t119, t120, t121, t122, t123, t124, t125, t126, t127, t128, t129, t130, t131, t132, t133, t134, t135, t136, t137, t138, t139, t140, t141, t142, t143, t144, t145, t146, t147, t148, t149], []⟩ wd := by
  obtain ⟨n0, n1, n2, n3, n4, n5⟩ := vote_load K10
  obtain ⟨m0, m1, m2, m3, m4, m5⟩ := vote_load K11
  obtain ⟨t0', t1', t2', t3', t4', t5'⟩ := gd_load K6
  obtain ⟨s0, s1', s2, s3, s4, s5⟩ := gd_load K5
  refine wp_region_sched (ops := ops_3_28) (ExtX (fun k => k = b5)) [7] (.quiet 1 (.quiet 3 (.quiet 4 (.loud 0 (.loud 2 (.loud 5 (.loud 6 (.last 7 (.done)) (.stop)) (.stop)) (.stop)) (.stop))))) (by kernel_rfl) (ExtX.refl (fun k => k = b5)) (fun _ _ _ => ExtX.trans) (by kernel_rfl) (hQ) ?_
  refine wpS_quiet (some 120) { dst := some 120, op := Op.load 35 (Operand.tmp 12), type := _, pos := _, after := _, guard := none } _ rfl rfl (by rfl) (fun wE hE => by (have zk0 := hE.cellS (by first | exact (fun h : b6 = b5 => n56 h.symm) | exact hb10 | exact hb11) n0; have zk1 := hE.cellS (by first | exact (fun h : b6 = b5 => n56 h.symm) | exact hb10 | exact hb11) n1; have zk2 := hE.cellS (by first | exact (fun h : b6 = b5 => n56 h.symm) | exact hb10 | exact hb11) n2; have zk3 := hE.cellS (by first | exact (fun h : b6 = b5 => n56 h.symm) | exact hb10 | exact hb11) n3; have zk4 := hE.cellS (by first | exact (fun h : b6 = b5 => n56 h.symm) | exact hb10 | exact hb11) n4; have zk5 := hE.cellS (by first | exact (fun h : b6 = b5 => n56 h.symm) | exact hb10 | exact hb11) n5; have zk6 := hE.cellS (by first | exact (fun h : b6 = b5 => n56 h.symm) | exact hb10 | exact hb11) m0; have zk7 := hE.cellS (by first | exact (fun h : b6 = b5 => n56 h.symm) | exact hb10 | exact hb11) m1; have zk8 := hE.cellS (by first | exact (fun h : b6 = b5 => n56 h.symm) | exact hb10 | exact hb11) m2; have zk9 := hE.cellS (by first | exact (fun h : b6 = b5 => n56 h.symm) | exact hb10 | exact hb11) m3; have zk10 := hE.cellS (by first | exact (fun h : b6 = b5 => n56 h.symm) | exact hb10 | exact hb11) m4; have zk11 := hE.cellS (by first | exact (fun h : b6 = b5 => n56 h.symm) | exact hb10 | exact hb11) m5; have zk12 := hE.cellS (by first | exact (fun h : b6 = b5 => n56 h.symm) | exact hb10 | exact hb11) t0'; have zk13 := hE.cellS (by first | exact (fun h : b6 = b5 => n56 h.symm) | exact hb10 | exact hb11) t1'; have zk14 := hE.cellS (by first | exact (fun h : b6 = b5 => n56 h.symm) | exact hb10 | exact hb11) t2'; have zk15 := hE.cellS (by first | exact (fun h : b6 = b5 => n56 h.symm) | exact hb10 | exact hb11) t3'; have zk16 := hE.cellS (by first | exact (fun h : b6 = b5 => n56 h.symm) | exact hb10 | exact hb11) t4'; have zk17 := hE.cellS (by first | exact (fun h : b6 = b5 => n56 h.symm) | exact hb10 | exact hb11) t5'; go_simp; try with_reducible rfl)) ?_; simp only [Act.put, List.setIfInBounds_toArray, List.set_cons_zero, List.set_cons_succ]
  refine wpS_quiet (some 122) { dst := some 122, op := Op.load 24 (Operand.tmp 6), type := _, pos := _, after := _, guard := none } _ rfl rfl (by rfl) (fun wE hE => by (have zk0 := hE.cellS (by first | exact (fun h : b6 = b5 => n56 h.symm) | exact hb10 | exact hb11) n0; have zk1 := hE.cellS (by first | exact (fun h : b6 = b5 => n56 h.symm) | exact hb10 | exact hb11) n1; have zk2 := hE.cellS (by first | exact (fun h : b6 = b5 => n56 h.symm) | exact hb10 | exact hb11) n2; have zk3 := hE.cellS (by first | exact (fun h : b6 = b5 => n56 h.symm) | exact hb10 | exact hb11) n3; have zk4 := hE.cellS (by first | exact (fun h : b6 = b5 => n56 h.symm) | exact hb10 | exact hb11) n4; have zk5 := hE.cellS (by first | exact (fun h : b6 = b5 => n56 h.symm) | exact hb10 | exact hb11) n5; have zk6 := hE.cellS (by first | exact (fun h : b6 = b5 => n56 h.symm) | exact hb10 | exact hb11) m0; have zk7 := hE.cellS (by first | exact (fun h : b6 = b5 => n56 h.symm) | exact hb10 | exact hb11) m1; have zk8 := hE.cellS (by first | exact (fun h : b6 = b5 => n56 h.symm) | exact hb10 | exact hb11) m2; have zk9 := hE.cellS (by first | exact (fun h : b6 = b5 => n56 h.symm) | exact hb10 | exact hb11) m3; have zk10 := hE.cellS (by first | exact (fun h : b6 = b5 => n56 h.symm) | exact hb10 | exact hb11) m4; have zk11 := hE.cellS (by first | exact (fun h : b6 = b5 => n56 h.symm) | exact hb10 | exact hb11) m5; have zk12 := hE.cellS (by first | exact (fun h : b6 = b5 => n56 h.symm) | exact hb10 | exact hb11) t0'; have zk13 := hE.cellS (by first | exact (fun h : b6 = b5 => n56 h.symm) | exact hb10 | exact hb11) t1'; have zk14 := hE.cellS (by first | exact (fun h : b6 = b5 => n56 h.symm) | exact hb10 | exact hb11) t2'; have zk15 := hE.cellS (by first | exact (fun h : b6 = b5 => n56 h.symm) | exact hb10 | exact hb11) t3'; have zk16 := hE.cellS (by first | exact (fun h : b6 = b5 => n56 h.symm) | exact hb10 | exact hb11) t4'; have zk17 := hE.cellS (by first | exact (fun h : b6 = b5 => n56 h.symm) | exact hb10 | exact hb11) t5'; go_simp; try with_reducible rfl)) ?_; simp only [Act.put, List.setIfInBounds_toArray, List.set_cons_zero, List.set_cons_succ]
  refine wpS_quiet (some 123) { dst := some 123, op := Op.load 35 (Operand.tmp 13), type := _, pos := _, after := _, guard := none } _ rfl rfl (by rfl) (fun wE hE => by (have zk0 := hE.cellS (by first | exact (fun h : b6 = b5 => n56 h.symm) | exact hb10 | exact hb11) n0; have zk1 := hE.cellS (by first | exact (fun h : b6 = b5 => n56 h.symm) | exact hb10 | exact hb11) n1; have zk2 := hE.cellS (by first | exact (fun h : b6 = b5 => n56 h.symm) | exact hb10 | exact hb11) n2; have zk3 := hE.cellS (by first | exact (fun h : b6 = b5 => n56 h.symm) | exact hb10 | exact hb11) n3; have zk4 := hE.cellS (by first | exact (fun h : b6 = b5 => n56 h.symm) | exact hb10 | exact hb11) n4; have zk5 := hE.cellS (by first | exact (fun h : b6 = b5 => n56 h.symm) | exact hb10 | exact hb11) n5; have zk6 := hE.cellS (by first | exact (fun h : b6 = b5 => n56 h.symm) | exact hb10 | exact hb11) m0; have zk7 := hE.cellS (by first | exact (fun h : b6 = b5 => n56 h.symm) | exact hb10 | exact hb11) m1; have zk8 := hE.cellS (by first | exact (fun h : b6 = b5 => n56 h.symm) | exact hb10 | exact hb11) m2; have zk9 := hE.cellS (by first | exact (fun h : b6 = b5 => n56 h.symm) | exact hb10 | exact hb11) m3; have zk10 := hE.cellS (by first | exact (fun h : b6 = b5 => n56 h.symm) | exact hb10 | exact hb11) m4; have zk11 := hE.cellS (by first | exact (fun h : b6 = b5 => n56 h.symm) | exact hb10 | exact hb11) m5; have zk12 := hE.cellS (by first | exact (fun h : b6 = b5 => n56 h.symm) | exact hb10 | exact hb11) t0'; have zk13 := hE.cellS (by first | exact (fun h : b6 = b5 => n56 h.symm) | exact hb10 | exact hb11) t1'; have zk14 := hE.cellS (by first | exact (fun h : b6 = b5 => n56 h.symm) | exact hb10 | exact hb11) t2'; have zk15 := hE.cellS (by first | exact (fun h : b6 = b5 => n56 h.symm) | exact hb10 | exact hb11) t3'; have zk16 := hE.cellS (by first | exact (fun h : b6 = b5 => n56 h.symm) | exact hb10 | exact hb11) t4'; have zk17 := hE.cellS (by first | exact (fun h : b6 = b5 => n56 h.symm) | exact hb10 | exact hb11) t5'; go_simp; try with_reducible rfl)) ?_; simp only [Act.put, List.setIfInBounds_toArray, List.set_cons_zero, List.set_cons_succ]
  refine wpS_upd (some 119) { dst := some 119, op := Op.load 24 (Operand.tmp 5), type := _, pos := _, after := _, guard := none } rfl rfl (by rfl) ?_ trivial
  refine ⟨gdV v2 A5 v2.members.length p5, wd.drew, by go_simp; try rfl, ExtX.refl _ _, ?_⟩
  simp only [Act.put, List.setIfInBounds_toArray, List.set_cons_zero, List.set_cons_succ]
  refine wpS_call (some 121) { dst := some 121, op := Op.call { callee := Callee.value (Operand.func 15), args := #[Operand.tmp 119, Operand.tmp 120], argTypes := #[24, 35] }, type := _, pos := _, after := _, guard := none } 15 _ rfl rfl (by rfl) (by go_simp; try first | with_reducible rfl | exact ⟨rfl, rfl⟩) ?_
  refine (voted_all v2 x A5 _ p5 _ hxk.out).mono ?_; rintro e w8 ⟨rfl, h8⟩; refine ⟨_, rfl, (h8.toX _), ?_⟩; simp only [Act.put, List.setIfInBounds_toArray, List.set_cons_zero, List.set_cons_succ]
  refine wpS_call (some 124) { dst := some 124, op := Op.call { callee := Callee.value (Operand.func 15), args := #[Operand.tmp 122, Operand.tmp 123], argTypes := #[24, 35] }, type := _, pos := _, after := _, guard := none } 15 _ rfl rfl (by rfl) (by go_simp; try first | with_reducible rfl | exact ⟨rfl, rfl⟩) ?_
  refine (voted_all v2 x A6 _ p6 w8 hxk.out).mono ?_; rintro e w9 ⟨rfl, h9⟩; refine ⟨_, rfl, (h9.toX _), ?_⟩; simp only [Act.put, List.setIfInBounds_toArray, List.set_cons_zero, List.set_cons_succ]
  have K59 := (K5.ext h8.undrew).ext h9
  have K69 := (K6.ext h8.undrew).ext h9
  refine wpS_storeL none { dst := none, op := Op.store 24 (Operand.tmp 5) (Operand.tmp 121), type := _, pos := _, after := _, guard := none } rfl rfl (by rfl) (.tmp 5) (.tmp 121) 24 rfl rfl rfl rfl K59 rfl (Nat.le_of_ble_eq_true rfl) rfl (fun w' x => x) ?_ trivial
  intro we Ke xe
  simp only [Act.put, List.setIfInBounds_toArray, List.set_cons_zero, List.set_cons_succ]
  have K6e := K69.extX xe (fun h => n56 h.symm)
  refine wpS_store none { dst := none, op := Op.store 24 (Operand.tmp 6) (Operand.tmp 124), type := _, pos := _, after := _, guard := none } rfl rfl (by rfl) (.tmp 6) (.tmp 124) 24 rfl rfl rfl rfl K6e rfl (Nat.le_of_ble_eq_true rfl) rfl ?_
  intro wf Kf xf
  simp only [Act.put, List.setIfInBounds_toArray, List.set_cons_zero, List.set_cons_succ]
  exact h.out _ _ _ _ _ _ _ _ _ (h8.undrew.trans h9) xe xf (Ke.extX xf n56) Kf

set_option maxRecDepth 20000 in
set_option maxHeartbeats 8000000 in
theorem reg34 (t0 t1 t2 t3 t4 t7 t8 t9 t10 t11 t12 t13 t16 t17 t18 t19 t20 t21 t22 t23 t24 t25 t26 t27 t28 t29 t30 t31 t32 t33 t34 t35 t36 t37 t38 t39 t40 t41 t42 t43 t44 t45 t46 t47 t48 t49 t50 t51 t52 t53 t54 t55 t56 t57 t58 t59 t60 t61 t62 t63 t64 t65 t66 t67 t68 t69 t70 t71 t72 t73 t74 t75 t76 t77 t78 t79 t80 t81 t82 t83 t84 t85 t86 t87 t88 t89 t90 t91 t92 t93 t94 t95 t96 t97 t98 t99 t100 t101 t102 t103 t104 t105 t106 t107 t108 t109 t110 t111 t112 t113 t114 t115 t116 t117 t118 t119 t120 t121 t122 t123 t124 t125 t126 t127 t128 t129 t130 t131 t132 t133 t134 t135 t136 t137 t138 t139 t140 t141 t142 t143 t144 t145 t146 t147 t148 t149 : Value) {Q : Exit → Act → World → Prop} (hQ : CatchAll Q) (wd : World) (b5 b6 b10 b11 : Nat) (v2 : GD) (x : VoteD) (A5 A6 : Option Addr) (p5 p6 : Nat) (n56 : b5 ≠ b6) (hb10 : b10 ≠ b5) (hb11 : b11 ≠ b5)
    (K5 : Blk wd b5 24 (gdCells v2 A5 v2.members.length p5)) (K6 : Blk wd b6 24 (gdCells v2 A6 v2.members.length p6)) (K10 : Blk wd b10 35 (voteCells x)) (K11 : Blk wd b11 35 (voteCells x)) (hxk : Hid (VKind x))
    (h : Hid (∀ (u142 u143 u144 u145 u146 u147 : Value) (w9 we wf : World), Ext wd w9 → ExtX (fun k => k = b5) w9 we → ExtX (fun k => k = b6) we wf → Blk wf b5 24 (gdCells (voted v2 x) A5 v2.members.length p5) → Blk wf b6 24 (gdCells (voted v2 x) A6 v2.members.length p6) →
      Q .normal ⟨#[t0, t1, t2, t3, t4, .pointer (some ⟨b5, 0, none⟩), .pointer (some ⟨b6, 0, none⟩), t7, t8, t9, t10, t11, t12, t13, .pointer (some ⟨b10, 0, none⟩), .pointer (some ⟨b11, 0, none⟩), t16, t17, t18, t19, t20, t21, t22, t23, t24, t25, t26, t27, t28, t29, t30, t31, t32, t33, t34, t35, t36, t37, t38, t39, t40, t41, t42, t43, t44, t45, t46, t47, t48, t49, t50, t51, t52, t53, t54, t55, t56, t57, t58, t59, t60, t61, t62, t63, t64, t65, t66, t67, t68, t69, t70, t71, t72, t73, t74, t75, t76, t77, t78, t79, t80, t81, t82, t83, t84, t85, t86, t87, t88, t89, t90, t91, t92, t93, t94, t95, t96, t97, t98, t99, t100, t101, t102, t103, t104, t105, t106, t107, t108, t109, t110, t111, t112, t113, t114, t115, t116, t117, t118, t119, t120, t121, t122, t123, t124, t125, t126, t127, t128, t129, t130, t131, t132, t133, t134, t135, t136, t137, t138, t139, t140, t141, u142, u143, u144, u145, u146, u147, t148, t149], []⟩ wf)) :
    (Code.region 34 ops_3_34 true).wp Tryz.prog Q ⟨#[t0, t1, t2, t3, t4, .pointer (some ⟨b5, 0, none⟩), .pointer (some ⟨b6, 0, none⟩), t7, t8, t9, t10, t11, t12, t13, .pointer (some ⟨b10, 0, none⟩), .pointer (some ⟨b11, 0, none⟩), t16, t17, t18, t19, t20, t21, t22, t23, t24, t25, t26, t27, t28, t29, t30, t31, t32, t33, t34, t35, t36, t37, t38, t39, t40, t41, t42, t43, t44, t45, t46, t47, t48, t49, t50, t51, t52, t53, t54, t55, t56, t57, t58, t59, t60, t61, t62, t63, t64, t65, t66, t67, t68, t69, t70, t71, t72, t73, t74, t75, t76, t77, t78, t79, t80, t81, t82, t83, t84, t85, t86, t87, t88, t89, t90, t91, t92, t93, t94, t95, t96, t97, t98, t99, t100, t101, t102, t103, t104, t105, t106, t107, t108, t109, t110, t111, t112, t113, t114, t115, t116, t117, t118, t119, t120, t121, t122, t123, t124, t125, t126, t127, t128, t129, t130, t131, t132, t133, t134, t135, t136, t137, t138, t139, t140, t141, t142, t143, t144, t145, t146, t147, t148, t149], []⟩ wd := by
  obtain ⟨n0, n1, n2, n3, n4, n5⟩ := vote_load K10
  obtain ⟨m0, m1, m2, m3, m4, m5⟩ := vote_load K11
  obtain ⟨t0', t1', t2', t3', t4', t5'⟩ := gd_load K6
  obtain ⟨s0, s1', s2, s3, s4, s5⟩ := gd_load K5
  refine wp_region_sched (ops := ops_3_34) (ExtX (fun k => k = b5)) [7] (.quiet 1 (.quiet 3 (.quiet 4 (.loud 0 (.loud 2 (.loud 5 (.loud 6 (.last 7 (.done)) (.stop)) (.stop)) (.stop)) (.stop))))) (by kernel_rfl) (ExtX.refl (fun k => k = b5)) (fun _ _ _ => ExtX.trans) (by kernel_rfl) (hQ) ?_
  refine wpS_quiet (some 143) { dst := some 143, op := Op.load 35 (Operand.tmp 14), type := _, pos := _, after := _, guard := none } _ rfl rfl (by rfl) (fun wE hE => by (have zk0 := hE.cellS (by first | exact (fun h : b6 = b5 => n56 h.symm) | exact hb10 | exact hb11) n0; have zk1 := hE.cellS (by first | exact (fun h : b6 = b5 => n56 h.symm) | exact hb10 | exact hb11) n1; have zk2 := hE.cellS (by first | exact (fun h : b6 = b5 => n56 h.symm) | exact hb10 | exact hb11) n2; have zk3 := hE.cellS (by first | exact (fun h : b6 = b5 => n56 h.symm) | exact hb10 | exact hb11) n3; have zk4 := hE.cellS (by first | exact (fun h : b6 = b5 => n56 h.symm) | exact hb10 | exact hb11) n4; have zk5 := hE.cellS (by first | exact (fun h : b6 = b5 => n56 h.symm) | exact hb10 | exact hb11) n5; have zk6 := hE.cellS (by first | exact (fun h : b6 = b5 => n56 h.symm) | exact hb10 | exact hb11) m0; have zk7 := hE.cellS (by first | exact (fun h : b6 = b5 => n56 h.symm) | exact hb10 | exact hb11) m1; have zk8 := hE.cellS (by first | exact (fun h : b6 = b5 => n56 h.symm) | exact hb10 | exact hb11) m2; have zk9 := hE.cellS (by first | exact (fun h : b6 = b5 => n56 h.symm) | exact hb10 | exact hb11) m3; have zk10 := hE.cellS (by first | exact (fun h : b6 = b5 => n56 h.symm) | exact hb10 | exact hb11) m4; have zk11 := hE.cellS (by first | exact (fun h : b6 = b5 => n56 h.symm) | exact hb10 | exact hb11) m5; have zk12 := hE.cellS (by first | exact (fun h : b6 = b5 => n56 h.symm) | exact hb10 | exact hb11) t0'; have zk13 := hE.cellS (by first | exact (fun h : b6 = b5 => n56 h.symm) | exact hb10 | exact hb11) t1'; have zk14 := hE.cellS (by first | exact (fun h : b6 = b5 => n56 h.symm) | exact hb10 | exact hb11) t2'; have zk15 := hE.cellS (by first | exact (fun h : b6 = b5 => n56 h.symm) | exact hb10 | exact hb11) t3'; have zk16 := hE.cellS (by first | exact (fun h : b6 = b5 => n56 h.symm) | exact hb10 | exact hb11) t4'; have zk17 := hE.cellS (by first | exact (fun h : b6 = b5 => n56 h.symm) | exact hb10 | exact hb11) t5'; go_simp; try with_reducible rfl)) ?_; simp only [Act.put, List.setIfInBounds_toArray, List.set_cons_zero, List.set_cons_succ]
  refine wpS_quiet (some 145) { dst := some 145, op := Op.load 24 (Operand.tmp 6), type := _, pos := _, after := _, guard := none } _ rfl rfl (by rfl) (fun wE hE => by (have zk0 := hE.cellS (by first | exact (fun h : b6 = b5 => n56 h.symm) | exact hb10 | exact hb11) n0; have zk1 := hE.cellS (by first | exact (fun h : b6 = b5 => n56 h.symm) | exact hb10 | exact hb11) n1; have zk2 := hE.cellS (by first | exact (fun h : b6 = b5 => n56 h.symm) | exact hb10 | exact hb11) n2; have zk3 := hE.cellS (by first | exact (fun h : b6 = b5 => n56 h.symm) | exact hb10 | exact hb11) n3; have zk4 := hE.cellS (by first | exact (fun h : b6 = b5 => n56 h.symm) | exact hb10 | exact hb11) n4; have zk5 := hE.cellS (by first | exact (fun h : b6 = b5 => n56 h.symm) | exact hb10 | exact hb11) n5; have zk6 := hE.cellS (by first | exact (fun h : b6 = b5 => n56 h.symm) | exact hb10 | exact hb11) m0; have zk7 := hE.cellS (by first | exact (fun h : b6 = b5 => n56 h.symm) | exact hb10 | exact hb11) m1; have zk8 := hE.cellS (by first | exact (fun h : b6 = b5 => n56 h.symm) | exact hb10 | exact hb11) m2; have zk9 := hE.cellS (by first | exact (fun h : b6 = b5 => n56 h.symm) | exact hb10 | exact hb11) m3; have zk10 := hE.cellS (by first | exact (fun h : b6 = b5 => n56 h.symm) | exact hb10 | exact hb11) m4; have zk11 := hE.cellS (by first | exact (fun h : b6 = b5 => n56 h.symm) | exact hb10 | exact hb11) m5; have zk12 := hE.cellS (by first | exact (fun h : b6 = b5 => n56 h.symm) | exact hb10 | exact hb11) t0'; have zk13 := hE.cellS (by first | exact (fun h : b6 = b5 => n56 h.symm) | exact hb10 | exact hb11) t1'; have zk14 := hE.cellS (by first | exact (fun h : b6 = b5 => n56 h.symm) | exact hb10 | exact hb11) t2'; have zk15 := hE.cellS (by first | exact (fun h : b6 = b5 => n56 h.symm) | exact hb10 | exact hb11) t3'; have zk16 := hE.cellS (by first | exact (fun h : b6 = b5 => n56 h.symm) | exact hb10 | exact hb11) t4'; have zk17 := hE.cellS (by first | exact (fun h : b6 = b5 => n56 h.symm) | exact hb10 | exact hb11) t5'; go_simp; try with_reducible rfl)) ?_; simp only [Act.put, List.setIfInBounds_toArray, List.set_cons_zero, List.set_cons_succ]
  refine wpS_quiet (some 146) { dst := some 146, op := Op.load 35 (Operand.tmp 15), type := _, pos := _, after := _, guard := none } _ rfl rfl (by rfl) (fun wE hE => by (have zk0 := hE.cellS (by first | exact (fun h : b6 = b5 => n56 h.symm) | exact hb10 | exact hb11) n0; have zk1 := hE.cellS (by first | exact (fun h : b6 = b5 => n56 h.symm) | exact hb10 | exact hb11) n1; have zk2 := hE.cellS (by first | exact (fun h : b6 = b5 => n56 h.symm) | exact hb10 | exact hb11) n2; have zk3 := hE.cellS (by first | exact (fun h : b6 = b5 => n56 h.symm) | exact hb10 | exact hb11) n3; have zk4 := hE.cellS (by first | exact (fun h : b6 = b5 => n56 h.symm) | exact hb10 | exact hb11) n4; have zk5 := hE.cellS (by first | exact (fun h : b6 = b5 => n56 h.symm) | exact hb10 | exact hb11) n5; have zk6 := hE.cellS (by first | exact (fun h : b6 = b5 => n56 h.symm) | exact hb10 | exact hb11) m0; have zk7 := hE.cellS (by first | exact (fun h : b6 = b5 => n56 h.symm) | exact hb10 | exact hb11) m1; have zk8 := hE.cellS (by first | exact (fun h : b6 = b5 => n56 h.symm) | exact hb10 | exact hb11) m2; have zk9 := hE.cellS (by first | exact (fun h : b6 = b5 => n56 h.symm) | exact hb10 | exact hb11) m3; have zk10 := hE.cellS (by first | exact (fun h : b6 = b5 => n56 h.symm) | exact hb10 | exact hb11) m4; have zk11 := hE.cellS (by first | exact (fun h : b6 = b5 => n56 h.symm) | exact hb10 | exact hb11) m5; have zk12 := hE.cellS (by first | exact (fun h : b6 = b5 => n56 h.symm) | exact hb10 | exact hb11) t0'; have zk13 := hE.cellS (by first | exact (fun h : b6 = b5 => n56 h.symm) | exact hb10 | exact hb11) t1'; have zk14 := hE.cellS (by first | exact (fun h : b6 = b5 => n56 h.symm) | exact hb10 | exact hb11) t2'; have zk15 := hE.cellS (by first | exact (fun h : b6 = b5 => n56 h.symm) | exact hb10 | exact hb11) t3'; have zk16 := hE.cellS (by first | exact (fun h : b6 = b5 => n56 h.symm) | exact hb10 | exact hb11) t4'; have zk17 := hE.cellS (by first | exact (fun h : b6 = b5 => n56 h.symm) | exact hb10 | exact hb11) t5'; go_simp; try with_reducible rfl)) ?_; simp only [Act.put, List.setIfInBounds_toArray, List.set_cons_zero, List.set_cons_succ]
  refine wpS_upd (some 142) { dst := some 142, op := Op.load 24 (Operand.tmp 5), type := _, pos := _, after := _, guard := none } rfl rfl (by rfl) ?_ trivial
  refine ⟨gdV v2 A5 v2.members.length p5, wd.drew, by go_simp; try rfl, ExtX.refl _ _, ?_⟩
  simp only [Act.put, List.setIfInBounds_toArray, List.set_cons_zero, List.set_cons_succ]
  refine wpS_call (some 144) { dst := some 144, op := Op.call { callee := Callee.value (Operand.func 15), args := #[Operand.tmp 142, Operand.tmp 143], argTypes := #[24, 35] }, type := _, pos := _, after := _, guard := none } 15 _ rfl rfl (by rfl) (by go_simp; try first | with_reducible rfl | exact ⟨rfl, rfl⟩) ?_
  refine (voted_all v2 x A5 _ p5 _ hxk.out).mono ?_; rintro e w8 ⟨rfl, h8⟩; refine ⟨_, rfl, (h8.toX _), ?_⟩; simp only [Act.put, List.setIfInBounds_toArray, List.set_cons_zero, List.set_cons_succ]
  refine wpS_call (some 147) { dst := some 147, op := Op.call { callee := Callee.value (Operand.func 15), args := #[Operand.tmp 145, Operand.tmp 146], argTypes := #[24, 35] }, type := _, pos := _, after := _, guard := none } 15 _ rfl rfl (by rfl) (by go_simp; try first | with_reducible rfl | exact ⟨rfl, rfl⟩) ?_
  refine (voted_all v2 x A6 _ p6 w8 hxk.out).mono ?_; rintro e w9 ⟨rfl, h9⟩; refine ⟨_, rfl, (h9.toX _), ?_⟩; simp only [Act.put, List.setIfInBounds_toArray, List.set_cons_zero, List.set_cons_succ]
  have K59 := (K5.ext h8.undrew).ext h9
  have K69 := (K6.ext h8.undrew).ext h9
  refine wpS_storeL none { dst := none, op := Op.store 24 (Operand.tmp 5) (Operand.tmp 144), type := _, pos := _, after := _, guard := none } rfl rfl (by rfl) (.tmp 5) (.tmp 144) 24 rfl rfl rfl rfl K59 rfl (Nat.le_of_ble_eq_true rfl) rfl (fun w' x => x) ?_ trivial
  intro we Ke xe
  simp only [Act.put, List.setIfInBounds_toArray, List.set_cons_zero, List.set_cons_succ]
  have K6e := K69.extX xe (fun h => n56 h.symm)
  refine wpS_store none { dst := none, op := Op.store 24 (Operand.tmp 6) (Operand.tmp 147), type := _, pos := _, after := _, guard := none } rfl rfl (by rfl) (.tmp 6) (.tmp 147) 24 rfl rfl rfl rfl K6e rfl (Nat.le_of_ble_eq_true rfl) rfl ?_
  intro wf Kf xf
  simp only [Act.put, List.setIfInBounds_toArray, List.set_cons_zero, List.set_cons_succ]
  exact h.out _ _ _ _ _ _ _ _ _ (h8.undrew.trans h9) xe xf (Ke.extX xf n56) Kf

set_option maxRecDepth 20000 in
set_option maxHeartbeats 8000000 in
theorem reg25 (t0 t1 t2 t3 t4 t7 t9 t10 t11 t12 t13 t14 t15 t16 t17 t18 t19 t20 t21 t22 t23 t24 t25 t26 t27 t28 t29 t30 t31 t32 t33 t34 t35 t36 t37 t38 t39 t40 t41 t42 t43 t44 t45 t46 t47 t48 t49 t50 t51 t52 t53 t54 t55 t56 t57 t58 t59 t60 t61 t62 t63 t64 t65 t66 t67 t68 t69 t70 t71 t72 t73 t74 t75 t76 t77 t78 t79 t80 t81 t82 t83 t84 t85 t86 t87 t88 t89 t90 t91 t92 t93 t94 t95 t96 t97 t98 t99 t100 t101 t102 t103 t104 t105 t106 t107 t108 t109 t110 t111 t112 t113 t114 t115 t116 t117 t118 t119 t120 t121 t122 t123 t124 t125 t126 t127 t128 t129 t130 t131 t132 t133 t134 t135 t136 t137 t138 t139 t140 t141 t142 t143 t144 t145 t146 t147 t148 t149 : Value) {Q : Exit → Act → World → Prop} (hQ : CatchAll Q) (w6 : World) (b5 b6 : Nat) (v : GD) (st : StepD) (bt : Nat) (cv : VD) (x : VoteD) (A5 A6 : Option Addr) (p5 p6 : Nat)
    (K5 : Blk w6 b5 24 (gdCells v A5 v.members.length p5)) (K6 : Blk w6 b6 24 (gdCells v A6 v.members.length p6)) (KT : Blk w6 bt 31 (stCells st)) (HTO : Hid st.to.ok) (hok : Hid v.ok) (HW : Hid (VarsOk w6)) (hcv : Hid (verOfD v.cluster = some cv)) (hx : Hid (x = { enVote vote0 (validD cv st.to v.down) st.to with err := errNo (validD cv st.to v.down) }))
    (h : Hid (∀ (b10 b11 : Nat) (u108 u109 u110 u111 u112 u113 u114 u115 : Value) (wx : World), w6.heap.size ≤ b10 → w6.heap.size ≤ b11 → Blk wx b10 35 (voteCells x) → Blk wx b11 35 (voteCells x) → Ext w6 wx →
      Q .normal ⟨#[t0, t1, t2, t3, t4, .pointer (some ⟨b5, 0, none⟩), .pointer (some ⟨b6, 0, none⟩), t7, .pointer (some ⟨bt, 0, none⟩), t9, t10, t11, .pointer (some ⟨b10, 0, none⟩), .pointer (some ⟨b11, 0, none⟩), t14, t15, t16, t17, t18, t19, t20, t21, t22, t23, t24, t25, t26, t27, t28, t29, t30, t31, t32, t33, t34, t35, t36, t37, t38, t39, t40, t41, t42, t43, t44, t45, t46, t47, t48, t49, t50, t51, t52, t53, t54, t55, t56, t57, t58, t59, t60, t61, t62, t63, t64, t65, t66, t67, t68, t69, t70, t71, t72, t73, t74, t75, t76, t77, t78, t79, t80, t81, t82, t83, t84, t85, t86, t87, t88, t89, t90, t91, t92, t93, t94, t95, t96, t97, t98, t99, t100, t101, t102, t103, t104, t105, t106, t107, u108, u109, u110, u111, u112, u113, u114, u115, t116, t117, t118, t119, t120, t121, t122, t123, t124, t125, t126, t127, t128, t129, t130, t131, t132, t133, t134, t135, t136, t137, t138, t139, t140, t141, t142, t143, t144, t145, t146, t147, t148, t149], []⟩ wx)) :
    (Code.region 25 ops_3_25 true).wp Tryz.prog Q ⟨#[t0, t1, t2, t3, t4, .pointer (some ⟨b5, 0, none⟩), .pointer (some ⟨b6, 0, none⟩), t7, .pointer (some ⟨bt, 0, none⟩), t9, t10, t11, t12, t13, t14, t15, t16, t17, t18, t19, t20, t21, t22, t23, t24, t25, t26, t27, t28, t29, t30, t31, t32, t33, t34, t35, t36, t37, t38, t39, t40, t41, t42, t43, t44, t45, t46, t47, t48, t49, t50, t51, t52, t53, t54, t55, t56, t57, t58, t59, t60, t61, t62, t63, t64, t65, t66, t67, t68, t69, t70, t71, t72, t73, t74, t75, t76, t77, t78, t79, t80, t81, t82, t83, t84, t85, t86, t87, t88, t89, t90, t91, t92, t93, t94, t95, t96, t97, t98, t99, t100, t101, t102, t103, t104, t105, t106, t107, t108, t109, t110, t111, t112, t113, t114, t115, t116, t117, t118, t119, t120, t121, t122, t123, t124, t125, t126, t127, t128, t129, t130, t131, t132, t133, t134, t135, t136, t137, t138, t139, t140, t141, t142, t143, t144, t145, t146, t147, t148, t149], []⟩ w6 := by
  obtain ⟨r0, r1, r2, r3, r4, r5⟩ := gd_load K5
  obtain ⟨z0, z1, z2, z3, z4, z5⟩ := gd_load K6
  obtain ⟨s9, hs9⟩ : ∃ s9, w6.heap.size = s9 := ⟨_, rfl⟩
  have hs5 : b5 < s9 := by have := K5.lt; omega
  have hs6 : b6 < s9 := by have := K6.lt; omega
  have hsT : bt < s9 := by have := KT.lt; omega
  have c3 := KT.cell (o := 3) rfl
  have c4 := KT.cell (o := 4) rfl
  have c5 := KT.cell (o := 5) rfl
  have hs : s9 ≤ w6.drew.heap.size := Nat.le_of_eq hs9.symm
  replace hs9 := Lib.hid hs9
  refine wp_region_sched (ops := ops_3_25) (ExtB s9) [11] (.quiet 0 (.quiet 1 (.quiet 2 (.quiet 4 (.quiet 5 (.quiet 6 (.loud 3 (.loud 7 (.loud 8 (.loud 9 (.loud 10 (.last 11 (.done)) (.stop)) (.stop)) (.loud 9 (.loud 8 (.loud 10 (.last 11 (.done)) (.stop)) (.stop)) (.stop))) (.loud 8 (.loud 7 (.loud 9 (.loud 10 (.last 11 (.done)) (.stop)) (.stop)) (.loud 9 (.loud 7 (.loud 10 (.last 11 (.done)) (.stop)) (.stop)) (.stop))) (.loud 9 (.loud 7 (.loud 8 (.loud 10 (.last 11 (.done)) (.stop)) (.stop)) (.loud 8 (.loud 7 (.loud 10 (.last 11 (.done)) (.stop)) (.stop)) (.stop))) (.stop)))) (.loud 8 (.loud 3 (.loud 7 (.loud 9 (.loud 10 (.last 11 (.done)) (.stop)) (.stop)) (.loud 9 (.loud 7 (.loud 10 (.last 11 (.done)) (.stop)) (.stop)) (.stop))) (.loud 9 (.loud 3 (.loud 7 (.loud 10 (.last 11 (.done)) (.stop)) (.stop)) (.stop)) (.stop))) (.loud 9 (.loud 3 (.loud 7 (.loud 8 (.loud 10 (.last 11 (.done)) (.stop)) (.stop)) (.loud 8 (.loud 7 (.loud 10 (.last 11 (.done)) (.stop)) (.stop)) (.stop))) (.loud 8 (.loud 3 (.loud 7 (.loud 10 (.last 11 (.done)) (.stop)) (.stop)) (.stop)) (.stop))) (.stop)))))))))) (by kernel_rfl) (extB_refl s9) (extB_trans s9) (by kernel_rfl) (hQ) ?_
  have E : ExtB s9 w6 w6.drew := ExtB.refl _ _
  refine wpS_quiet (some 108) { dst := some 108, op := Op.load 24 (Operand.tmp 5), type := _, pos := _, after := _, guard := none } _ rfl rfl (by rfl) (fun wE hE => by (have zk0 := hE.cellS (by first | exact hs5 | exact hs6 | exact hsT) r0; have zk1 := hE.cellS (by first | exact hs5 | exact hs6 | exact hsT) r1; have zk2 := hE.cellS (by first | exact hs5 | exact hs6 | exact hsT) r2; have zk3 := hE.cellS (by first | exact hs5 | exact hs6 | exact hsT) r3; have zk4 := hE.cellS (by first | exact hs5 | exact hs6 | exact hsT) r4; have zk5 := hE.cellS (by first | exact hs5 | exact hs6 | exact hsT) r5; have zk6 := hE.cellS (by first | exact hs5 | exact hs6 | exact hsT) z0; have zk7 := hE.cellS (by first | exact hs5 | exact hs6 | exact hsT) z1; have zk8 := hE.cellS (by first | exact hs5 | exact hs6 | exact hsT) z2; have zk9 := hE.cellS (by first | exact hs5 | exact hs6 | exact hsT) z3; have zk10 := hE.cellS (by first | exact hs5 | exact hs6 | exact hsT) z4; have zk11 := hE.cellS (by first | exact hs5 | exact hs6 | exact hsT) z5; have zk12 := hE.cellS (by first | exact hs5 | exact hs6 | exact hsT) c3; have zk13 := hE.cellS (by first | exact hs5 | exact hs6 | exact hsT) c4; have zk14 := hE.cellS (by first | exact hs5 | exact hs6 | exact hsT) c5; go_simp; try with_reducible rfl)) ?_; simp only [Act.put, List.setIfInBounds_toArray, List.set_cons_zero, List.set_cons_succ]
  refine wpS_quiet (some 109) { dst := some 109, op := Op.fieldAddr 31 (Operand.tmp 8) 3, type := _, pos := _, after := _, guard := none } _ rfl rfl (by rfl) (fun wE hE => by (go_simp; try with_reducible rfl)) ?_; simp only [Act.put, List.setIfInBounds_toArray, List.set_cons_zero, List.set_cons_succ]
  refine wpS_quiet (some 110) { dst := some 110, op := Op.load 29 (Operand.tmp 109), type := _, pos := _, after := _, guard := none } _ rfl rfl (by rfl) (fun wE hE => by (have zk0 := hE.cellS (by first | exact hs5 | exact hs6 | exact hsT) r0; have zk1 := hE.cellS (by first | exact hs5 | exact hs6 | exact hsT) r1; have zk2 := hE.cellS (by first | exact hs5 | exact hs6 | exact hsT) r2; have zk3 := hE.cellS (by first | exact hs5 | exact hs6 | exact hsT) r3; have zk4 := hE.cellS (by first | exact hs5 | exact hs6 | exact hsT) r4; have zk5 := hE.cellS (by first | exact hs5 | exact hs6 | exact hsT) r5; have zk6 := hE.cellS (by first | exact hs5 | exact hs6 | exact hsT) z0; have zk7 := hE.cellS (by first | exact hs5 | exact hs6 | exact hsT) z1; have zk8 := hE.cellS (by first | exact hs5 | exact hs6 | exact hsT) z2; have zk9 := hE.cellS (by first | exact hs5 | exact hs6 | exact hsT) z3; have zk10 := hE.cellS (by first | exact hs5 | exact hs6 | exact hsT) z4; have zk11 := hE.cellS (by first | exact hs5 | exact hs6 | exact hsT) z5; have zk12 := hE.cellS (by first | exact hs5 | exact hs6 | exact hsT) c3; have zk13 := hE.cellS (by first | exact hs5 | exact hs6 | exact hsT) c4; have zk14 := hE.cellS (by first | exact hs5 | exact hs6 | exact hsT) c5; go_simp; try with_reducible rfl)) ?_; simp only [Act.put, List.setIfInBounds_toArray, List.set_cons_zero, List.set_cons_succ]
  refine wpS_quiet (some 112) { dst := some 112, op := Op.load 24 (Operand.tmp 6), type := _, pos := _, after := _, guard := none } _ rfl rfl (by rfl) (fun wE hE => by (have zk0 := hE.cellS (by first | exact hs5 | exact hs6 | exact hsT) r0; have zk1 := hE.cellS (by first | exact hs5 | exact hs6 | exact hsT) r1; have zk2 := hE.cellS (by first | exact hs5 | exact hs6 | exact hsT) r2; have zk3 := hE.cellS (by first | exact hs5 | exact hs6 | exact hsT) r3; have zk4 := hE.cellS (by first | exact hs5 | exact hs6 | exact hsT) r4; have zk5 := hE.cellS (by first | exact hs5 | exact hs6 | exact hsT) r5; have zk6 := hE.cellS (by first | exact hs5 | exact hs6 | exact hsT) z0; have zk7 := hE.cellS (by first | exact hs5 | exact hs6 | exact hsT) z1; have zk8 := hE.cellS (by first | exact hs5 | exact hs6 | exact hsT) z2; have zk9 := hE.cellS (by first | exact hs5 | exact hs6 | exact hsT) z3; have zk10 := hE.cellS (by first | exact hs5 | exact hs6 | exact hsT) z4; have zk11 := hE.cellS (by first | exact hs5 | exact hs6 | exact hsT) z5; have zk12 := hE.cellS (by first | exact hs5 | exact hs6 | exact hsT) c3; have zk13 := hE.cellS (by first | exact hs5 | exact hs6 | exact hsT) c4; have zk14 := hE.cellS (by first | exact hs5 | exact hs6 | exact hsT) c5; go_simp; try with_reducible rfl)) ?_; simp only [Act.put, List.setIfInBounds_toArray, List.set_cons_zero, List.set_cons_succ]
  refine wpS_quiet (some 113) { dst := some 113, op := Op.fieldAddr 31 (Operand.tmp 8) 3, type := _, pos := _, after := _, guard := none } _ rfl rfl (by rfl) (fun wE hE => by (go_simp; try with_reducible rfl)) ?_; simp only [Act.put, List.setIfInBounds_toArray, List.set_cons_zero, List.set_cons_succ]
  refine wpS_quiet (some 114) { dst := some 114, op := Op.load 29 (Operand.tmp 113), type := _, pos := _, after := _, guard := none } _ rfl rfl (by rfl) (fun wE hE => by (have zk0 := hE.cellS (by first | exact hs5 | exact hs6 | exact hsT) r0; have zk1 := hE.cellS (by first | exact hs5 | exact hs6 | exact hsT) r1; have zk2 := hE.cellS (by first | exact hs5 | exact hs6 | exact hsT) r2; have zk3 := hE.cellS (by first | exact hs5 | exact hs6 | exact hsT) r3; have zk4 := hE.cellS (by first | exact hs5 | exact hs6 | exact hsT) r4; have zk5 := hE.cellS (by first | exact hs5 | exact hs6 | exact hsT) r5; have zk6 := hE.cellS (by first | exact hs5 | exact hs6 | exact hsT) z0; have zk7 := hE.cellS (by first | exact hs5 | exact hs6 | exact hsT) z1; have zk8 := hE.cellS (by first | exact hs5 | exact hs6 | exact hsT) z2; have zk9 := hE.cellS (by first | exact hs5 | exact hs6 | exact hsT) z3; have zk10 := hE.cellS (by first | exact hs5 | exact hs6 | exact hsT) z4; have zk11 := hE.cellS (by first | exact hs5 | exact hs6 | exact hsT) z5; have zk12 := hE.cellS (by first | exact hs5 | exact hs6 | exact hsT) c3; have zk13 := hE.cellS (by first | exact hs5 | exact hs6 | exact hsT) c4; have zk14 := hE.cellS (by first | exact hs5 | exact hs6 | exact hsT) c5; go_simp; try with_reducible rfl)) ?_; simp only [Act.put, List.setIfInBounds_toArray, List.set_cons_zero, List.set_cons_succ]
  refine wpS_callm (some 111) { dst := some 111, op := Op.call { callee := Callee.value (Operand.func 17), args := #[Operand.tmp 108, Operand.tmp 110], argTypes := #[24, 29] }, type := _, pos := _, after := _, guard := none } 17 _ rfl rfl (by rfl) (by go_simp; try with_reducible rfl) ?_ ?_
  rotate_right
  · skip
    refine wpS_alloc (some 12) { dst := some 12, op := Op.alloc 35, type := _, pos := _, after := _, guard := none } _ _ rfl rfl (by rfl) (by go_simp; try with_reducible rfl) ?_ ?_ ?_
    rotate_right
    · skip
      refine wpS_alloc (some 13) { dst := some 13, op := Op.alloc 35, type := _, pos := _, after := _, guard := none } _ _ rfl rfl (by rfl) (by go_simp; try with_reducible rfl) ?_ ?_ trivial
      exact fun w' h => h.toB hs
      intro b11 wd hb ed K11
      have g11 : s9 ≤ b11 := by omega
      (try have n01 : b10 ≠ b11 := by (have := K10.lt; omega))
      clear hb
      (try replace K10 := K10.ext ed)
      have E := E.trans (ed.toB hs)
      have hs := Nat.le_trans hs ed.size
      simp only [Act.put, List.setIfInBounds_toArray, List.set_cons_zero, List.set_cons_succ]
      refine wpS_callm (some 111) { dst := some 111, op := Op.call { callee := Callee.value (Operand.func 17), args := #[Operand.tmp 108, Operand.tmp 110], argTypes := #[24, 29] }, type := _, pos := _, after := _, guard := none } 17 _ rfl rfl (by rfl) (by go_simp; try with_reducible rfl) ?_ ?_
      rotate_right
      · skip
        refine wpS_alloc (some 12) { dst := some 12, op := Op.alloc 35, type := _, pos := _, after := _, guard := none } _ _ rfl rfl (by rfl) (by go_simp; try with_reducible rfl) ?_ ?_ trivial
        exact fun w' h => h.toB hs
        intro b10 wc hb ec K10
        have g10 : s9 ≤ b10 := by omega
        (try have n01 : b10 ≠ b11 := by (have := K11.lt; omega))
        clear hb
        (try replace K11 := K11.ext ec)
        have E := E.trans (ec.toB hs)
        have hs := Nat.le_trans hs ec.size
        simp only [Act.put, List.setIfInBounds_toArray, List.set_cons_zero, List.set_cons_succ]
        refine wpS_callm (some 111) { dst := some 111, op := Op.call { callee := Callee.value (Operand.func 17), args := #[Operand.tmp 108, Operand.tmp 110], argTypes := #[24, 29] }, type := _, pos := _, after := _, guard := none } 17 _ rfl rfl (by rfl) (by go_simp; try with_reducible rfl) ?_ trivial
        refine (implEnable_any v A5 _ p5 cv st.to HTO.out wc hok.out (HW.out.ext (E.mono (Nat.le_of_eq hs9.out)).ext) hcv.out).mono ?_
        rintro e wa ⟨rfl, ea⟩
        rw [← hx.out]
        refine ⟨_, rfl, ea.toB hs, ?_⟩
        (try replace K10 := K10.ext ea)
        (try replace K11 := K11.ext ea)
        have E := E.trans (ea.toB hs)
        have hs := Nat.le_trans hs ea.size
        simp only [Act.put, List.setIfInBounds_toArray, List.set_cons_zero, List.set_cons_succ]
        refine wpS_callm (some 115) { dst := some 115, op := Op.call { callee := Callee.value (Operand.func 18), args := #[Operand.tmp 112, Operand.tmp 114], argTypes := #[24, 29] }, type := _, pos := _, after := _, guard := none } 18 _ rfl rfl (by rfl) (by go_simp; try with_reducible rfl) ?_ trivial
        refine (specEnable_any v A6 _ p6 cv st.to HTO.out wa hok.out hcv.out).mono ?_
        rintro e wb ⟨rfl, eb⟩
        rw [← hx.out]
        refine ⟨_, rfl, eb.toB hs, ?_⟩
        (try replace K10 := K10.ext eb)
        (try replace K11 := K11.ext eb)
        have E := E.trans (eb.toB hs)
        have hs := Nat.le_trans hs eb.size
        simp only [Act.put, List.setIfInBounds_toArray, List.set_cons_zero, List.set_cons_succ]
        refine wpS_storeL none { dst := none, op := Op.store 35 (Operand.tmp 12) (Operand.tmp 111), type := _, pos := _, after := _, guard := none } rfl rfl (by rfl) (.tmp 12) (.tmp 111) 35 rfl rfl rfl rfl K10 rfl (Nat.le_refl 6) rfl (fun w' x => x.toB (fun k hk => by have hk : k = b10 := hk; omega) hs) ?_ trivial
        intro we Kn xe
        (have ee := xe.toB (B := s9) (fun k hk => by have hk : k = b10 := hk; omega) hs)
        replace K10 := Kn
        (try replace K11 := K11.extX xe n01.symm)
        have E := E.trans ee
        have hs := Nat.le_trans hs ee.size
        simp only [Act.put, List.setIfInBounds_toArray, List.set_cons_zero, List.set_cons_succ]
        refine wpS_store none { dst := none, op := Op.store 35 (Operand.tmp 13) (Operand.tmp 115), type := _, pos := _, after := _, guard := none } rfl rfl (by rfl) (.tmp 13) (.tmp 115) 35 rfl rfl rfl rfl K11 rfl (Nat.le_refl 6) rfl ?_
        intro wf Kn xf
        (have ef := xf.toB (B := s9) (fun k hk => by have hk : k = b11 := hk; omega) hs)
        replace K11 := Kn
        (try replace K10 := K10.extX xf n01)
        have E := E.trans ef
        have hs := Nat.le_trans hs ef.size
        simp only [Act.put, List.setIfInBounds_toArray, List.set_cons_zero, List.set_cons_succ]
        exact h.out b10 b11 _ _ _ _ _ _ _ _ _ (by have := hs9.out; omega) (by have := hs9.out; omega) K10 K11 (E.mono (Nat.le_of_eq hs9.out)).ext
      refine (implEnable_any v A5 _ p5 cv st.to HTO.out wd hok.out (HW.out.ext (E.mono (Nat.le_of_eq hs9.out)).ext) hcv.out).mono ?_
      rintro e wa ⟨rfl, ea⟩
      rw [← hx.out]
      refine ⟨_, rfl, ea.toB hs, ?_⟩
      (try replace K10 := K10.ext ea)
      (try replace K11 := K11.ext ea)
      have E := E.trans (ea.toB hs)
      have hs := Nat.le_trans hs ea.size
      simp only [Act.put, List.setIfInBounds_toArray, List.set_cons_zero, List.set_cons_succ]
      refine wpS_callm (some 115) { dst := some 115, op := Op.call { callee := Callee.value (Operand.func 18), args := #[Operand.tmp 112, Operand.tmp 114], argTypes := #[24, 29] }, type := _, pos := _, after := _, guard := none } 18 _ rfl rfl (by rfl) (by go_simp; try with_reducible rfl) ?_ ?_
      rotate_right
      · skip
        refine wpS_alloc (some 12) { dst := some 12, op := Op.alloc 35, type := _, pos := _, after := _, guard := none } _ _ rfl rfl (by rfl) (by go_simp; try with_reducible rfl) ?_ ?_ trivial
        exact fun w' h => h.toB hs
        intro b10 wc hb ec K10
        have g10 : s9 ≤ b10 := by omega
        (try have n01 : b10 ≠ b11 := by (have := K11.lt; omega))
        clear hb
        (try replace K11 := K11.ext ec)
        have E := E.trans (ec.toB hs)
        have hs := Nat.le_trans hs ec.size
        simp only [Act.put, List.setIfInBounds_toArray, List.set_cons_zero, List.set_cons_succ]
        refine wpS_callm (some 115) { dst := some 115, op := Op.call { callee := Callee.value (Operand.func 18), args := #[Operand.tmp 112, Operand.tmp 114], argTypes := #[24, 29] }, type := _, pos := _, after := _, guard := none } 18 _ rfl rfl (by rfl) (by go_simp; try with_reducible rfl) ?_ trivial
        refine (specEnable_any v A6 _ p6 cv st.to HTO.out wc hok.out hcv.out).mono ?_
        rintro e wb ⟨rfl, eb⟩
        rw [← hx.out]
        refine ⟨_, rfl, eb.toB hs, ?_⟩
        (try replace K10 := K10.ext eb)
        (try replace K11 := K11.ext eb)
        have E := E.trans (eb.toB hs)
        have hs := Nat.le_trans hs eb.size
        simp only [Act.put, List.setIfInBounds_toArray, List.set_cons_zero, List.set_cons_succ]
        refine wpS_storeL none { dst := none, op := Op.store 35 (Operand.tmp 12) (Operand.tmp 111), type := _, pos := _, after := _, guard := none } rfl rfl (by rfl) (.tmp 12) (.tmp 111) 35 rfl rfl rfl rfl K10 rfl (Nat.le_refl 6) rfl (fun w' x => x.toB (fun k hk => by have hk : k = b10 := hk; omega) hs) ?_ trivial
        intro we Kn xe
        (have ee := xe.toB (B := s9) (fun k hk => by have hk : k = b10 := hk; omega) hs)
        replace K10 := Kn
        (try replace K11 := K11.extX xe n01.symm)
        have E := E.trans ee
        have hs := Nat.le_trans hs ee.size
        simp only [Act.put, List.setIfInBounds_toArray, List.set_cons_zero, List.set_cons_succ]
        refine wpS_store none { dst := none, op := Op.store 35 (Operand.tmp 13) (Operand.tmp 115), type := _, pos := _, after := _, guard := none } rfl rfl (by rfl) (.tmp 13) (.tmp 115) 35 rfl rfl rfl rfl K11 rfl (Nat.le_refl 6) rfl ?_
        intro wf Kn xf
        (have ef := xf.toB (B := s9) (fun k hk => by have hk : k = b11 := hk; omega) hs)
        replace K11 := Kn
        (try replace K10 := K10.extX xf n01)
        have E := E.trans ef
        have hs := Nat.le_trans hs ef.size
        simp only [Act.put, List.setIfInBounds_toArray, List.set_cons_zero, List.set_cons_succ]
        exact h.out b10 b11 _ _ _ _ _ _ _ _ _ (by have := hs9.out; omega) (by have := hs9.out; omega) K10 K11 (E.mono (Nat.le_of_eq hs9.out)).ext
      refine (specEnable_any v A6 _ p6 cv st.to HTO.out wa hok.out hcv.out).mono ?_
      rintro e wb ⟨rfl, eb⟩
      rw [← hx.out]
      refine ⟨_, rfl, eb.toB hs, ?_⟩
      (try replace K10 := K10.ext eb)
      (try replace K11 := K11.ext eb)
      have E := E.trans (eb.toB hs)
      have hs := Nat.le_trans hs eb.size
      simp only [Act.put, List.setIfInBounds_toArray, List.set_cons_zero, List.set_cons_succ]
      refine wpS_alloc (some 12) { dst := some 12, op := Op.alloc 35, type := _, pos := _, after := _, guard := none } _ _ rfl rfl (by rfl) (by go_simp; try with_reducible rfl) ?_ ?_ trivial
      exact fun w' h => h.toB hs
      intro b10 wc hb ec K10
      have g10 : s9 ≤ b10 := by omega
      (try have n01 : b10 ≠ b11 := by (have := K11.lt; omega))
      clear hb
      (try replace K11 := K11.ext ec)
      have E := E.trans (ec.toB hs)
      have hs := Nat.le_trans hs ec.size
      simp only [Act.put, List.setIfInBounds_toArray, List.set_cons_zero, List.set_cons_succ]
      refine wpS_storeL none { dst := none, op := Op.store 35 (Operand.tmp 12) (Operand.tmp 111), type := _, pos := _, after := _, guard := none } rfl rfl (by rfl) (.tmp 12) (.tmp 111) 35 rfl rfl rfl rfl K10 rfl (Nat.le_refl 6) rfl (fun w' x => x.toB (fun k hk => by have hk : k = b10 := hk; omega) hs) ?_ trivial
      intro we Kn xe
      (have ee := xe.toB (B := s9) (fun k hk => by have hk : k = b10 := hk; omega) hs)
      replace K10 := Kn
      (try replace K11 := K11.extX xe n01.symm)
      have E := E.trans ee
      have hs := Nat.le_trans hs ee.size
      simp only [Act.put, List.setIfInBounds_toArray, List.set_cons_zero, List.set_cons_succ]
      refine wpS_store none { dst := none, op := Op.store 35 (Operand.tmp 13) (Operand.tmp 115), type := _, pos := _, after := _, guard := none } rfl rfl (by rfl) (.tmp 13) (.tmp 115) 35 rfl rfl rfl rfl K11 rfl (Nat.le_refl 6) rfl ?_
      intro wf Kn xf
      (have ef := xf.toB (B := s9) (fun k hk => by have hk : k = b11 := hk; omega) hs)
      replace K11 := Kn
      (try replace K10 := K10.extX xf n01)
      have E := E.trans ef
      have hs := Nat.le_trans hs ef.size
      simp only [Act.put, List.setIfInBounds_toArray, List.set_cons_zero, List.set_cons_succ]
      exact h.out b10 b11 _ _ _ _ _ _ _ _ _ (by have := hs9.out; omega) (by have := hs9.out; omega) K10 K11 (E.mono (Nat.le_of_eq hs9.out)).ext
    exact fun w' h => h.toB hs
    intro b10 wc hb ec K10
    have g10 : s9 ≤ b10 := by omega
    (try have n01 : b10 ≠ b11 := by (have := K11.lt; omega))
    clear hb
    (try replace K11 := K11.ext ec)
    have E := E.trans (ec.toB hs)
    have hs := Nat.le_trans hs ec.size
    simp only [Act.put, List.setIfInBounds_toArray, List.set_cons_zero, List.set_cons_succ]
    refine wpS_callm (some 111) { dst := some 111, op := Op.call { callee := Callee.value (Operand.func 17), args := #[Operand.tmp 108, Operand.tmp 110], argTypes := #[24, 29] }, type := _, pos := _, after := _, guard := none } 17 _ rfl rfl (by rfl) (by go_simp; try with_reducible rfl) ?_ ?_
    rotate_right
    · skip
      refine wpS_alloc (some 13) { dst := some 13, op := Op.alloc 35, type := _, pos := _, after := _, guard := none } _ _ rfl rfl (by rfl) (by go_simp; try with_reducible rfl) ?_ ?_ trivial
      exact fun w' h => h.toB hs
      intro b11 wd hb ed K11
      have g11 : s9 ≤ b11 := by omega
      (try have n01 : b10 ≠ b11 := by (have := K10.lt; omega))
      clear hb
      (try replace K10 := K10.ext ed)
      have E := E.trans (ed.toB hs)
      have hs := Nat.le_trans hs ed.size
      simp only [Act.put, List.setIfInBounds_toArray, List.set_cons_zero, List.set_cons_succ]
      refine wpS_callm (some 111) { dst := some 111, op := Op.call { callee := Callee.value (Operand.func 17), args := #[Operand.tmp 108, Operand.tmp 110], argTypes := #[24, 29] }, type := _, pos := _, after := _, guard := none } 17 _ rfl rfl (by rfl) (by go_simp; try with_reducible rfl) ?_ trivial
      refine (implEnable_any v A5 _ p5 cv st.to HTO.out wd hok.out (HW.out.ext (E.mono (Nat.le_of_eq hs9.out)).ext) hcv.out).mono ?_
      rintro e wa ⟨rfl, ea⟩
      rw [← hx.out]
      refine ⟨_, rfl, ea.toB hs, ?_⟩
      (try replace K10 := K10.ext ea)
      (try replace K11 := K11.ext ea)
      have E := E.trans (ea.toB hs)
      have hs := Nat.le_trans hs ea.size
      simp only [Act.put, List.setIfInBounds_toArray, List.set_cons_zero, List.set_cons_succ]
      refine wpS_callm (some 115) { dst := some 115, op := Op.call { callee := Callee.value (Operand.func 18), args := #[Operand.tmp 112, Operand.tmp 114], argTypes := #[24, 29] }, type := _, pos := _, after := _, guard := none } 18 _ rfl rfl (by rfl) (by go_simp; try with_reducible rfl) ?_ trivial
      refine (specEnable_any v A6 _ p6 cv st.to HTO.out wa hok.out hcv.out).mono ?_
      rintro e wb ⟨rfl, eb⟩
      rw [← hx.out]
      refine ⟨_, rfl, eb.toB hs, ?_⟩
      (try replace K10 := K10.ext eb)
      (try replace K11 := K11.ext eb)
      have E := E.trans (eb.toB hs)
      have hs := Nat.le_trans hs eb.size
      simp only [Act.put, List.setIfInBounds_toArray, List.set_cons_zero, List.set_cons_succ]
      refine wpS_storeL none { dst := none, op := Op.store 35 (Operand.tmp 12) (Operand.tmp 111), type := _, pos := _, after := _, guard := none } rfl rfl (by rfl) (.tmp 12) (.tmp 111) 35 rfl rfl rfl rfl K10 rfl (Nat.le_refl 6) rfl (fun w' x => x.toB (fun k hk => by have hk : k = b10 := hk; omega) hs) ?_ trivial
      intro we Kn xe
      (have ee := xe.toB (B := s9) (fun k hk => by have hk : k = b10 := hk; omega) hs)
      replace K10 := Kn
      (try replace K11 := K11.extX xe n01.symm)
      have E := E.trans ee
      have hs := Nat.le_trans hs ee.size
      simp only [Act.put, List.setIfInBounds_toArray, List.set_cons_zero, List.set_cons_succ]
      refine wpS_store none { dst := none, op := Op.store 35 (Operand.tmp 13) (Operand.tmp 115), type := _, pos := _, after := _, guard := none } rfl rfl (by rfl) (.tmp 13) (.tmp 115) 35 rfl rfl rfl rfl K11 rfl (Nat.le_refl 6) rfl ?_
      intro wf Kn xf
      (have ef := xf.toB (B := s9) (fun k hk => by have hk : k = b11 := hk; omega) hs)
      replace K11 := Kn
      (try replace K10 := K10.extX xf n01)
      have E := E.trans ef
      have hs := Nat.le_trans hs ef.size
      simp only [Act.put, List.setIfInBounds_toArray, List.set_cons_zero, List.set_cons_succ]
      exact h.out b10 b11 _ _ _ _ _ _ _ _ _ (by have := hs9.out; omega) (by have := hs9.out; omega) K10 K11 (E.mono (Nat.le_of_eq hs9.out)).ext
    refine (implEnable_any v A5 _ p5 cv st.to HTO.out wc hok.out (HW.out.ext (E.mono (Nat.le_of_eq hs9.out)).ext) hcv.out).mono ?_
    rintro e wa ⟨rfl, ea⟩
    rw [← hx.out]
    refine ⟨_, rfl, ea.toB hs, ?_⟩
    (try replace K10 := K10.ext ea)
    (try replace K11 := K11.ext ea)
    have E := E.trans (ea.toB hs)
    have hs := Nat.le_trans hs ea.size
    simp only [Act.put, List.setIfInBounds_toArray, List.set_cons_zero, List.set_cons_succ]
    refine wpS_callm (some 115) { dst := some 115, op := Op.call { callee := Callee.value (Operand.func 18), args := #[Operand.tmp 112, Operand.tmp 114], argTypes := #[24, 29] }, type := _, pos := _, after := _, guard := none } 18 _ rfl rfl (by rfl) (by go_simp; try with_reducible rfl) ?_ ?_
    rotate_right
    · skip
      refine wpS_alloc (some 13) { dst := some 13, op := Op.alloc 35, type := _, pos := _, after := _, guard := none } _ _ rfl rfl (by rfl) (by go_simp; try with_reducible rfl) ?_ ?_ trivial
      exact fun w' h => h.toB hs
      intro b11 wd hb ed K11
      have g11 : s9 ≤ b11 := by omega
      (try have n01 : b10 ≠ b11 := by (have := K10.lt; omega))
      clear hb
      (try replace K10 := K10.ext ed)
      have E := E.trans (ed.toB hs)
      have hs := Nat.le_trans hs ed.size
      simp only [Act.put, List.setIfInBounds_toArray, List.set_cons_zero, List.set_cons_succ]
      refine wpS_callm (some 115) { dst := some 115, op := Op.call { callee := Callee.value (Operand.func 18), args := #[Operand.tmp 112, Operand.tmp 114], argTypes := #[24, 29] }, type := _, pos := _, after := _, guard := none } 18 _ rfl rfl (by rfl) (by go_simp; try with_reducible rfl) ?_ trivial
      refine (specEnable_any v A6 _ p6 cv st.to HTO.out wd hok.out hcv.out).mono ?_
      rintro e wb ⟨rfl, eb⟩
      rw [← hx.out]
      refine ⟨_, rfl, eb.toB hs, ?_⟩
      (try replace K10 := K10.ext eb)
      (try replace K11 := K11.ext eb)
      have E := E.trans (eb.toB hs)
      have hs := Nat.le_trans hs eb.size
      simp only [Act.put, List.setIfInBounds_toArray, List.set_cons_zero, List.set_cons_succ]
      refine wpS_storeL none { dst := none, op := Op.store 35 (Operand.tmp 12) (Operand.tmp 111), type := _, pos := _, after := _, guard := none } rfl rfl (by rfl) (.tmp 12) (.tmp 111) 35 rfl rfl rfl rfl K10 rfl (Nat.le_refl 6) rfl (fun w' x => x.toB (fun k hk => by have hk : k = b10 := hk; omega) hs) ?_ trivial
      intro we Kn xe
      (have ee := xe.toB (B := s9) (fun k hk => by have hk : k = b10 := hk; omega) hs)
      replace K10 := Kn
      (try replace K11 := K11.extX xe n01.symm)
      have E := E.trans ee
      have hs := Nat.le_trans hs ee.size
      simp only [Act.put, List.setIfInBounds_toArray, List.set_cons_zero, List.set_cons_succ]
      refine wpS_store none { dst := none, op := Op.store 35 (Operand.tmp 13) (Operand.tmp 115), type := _, pos := _, after := _, guard := none } rfl rfl (by rfl) (.tmp 13) (.tmp 115) 35 rfl rfl rfl rfl K11 rfl (Nat.le_refl 6) rfl ?_
      intro wf Kn xf
      (have ef := xf.toB (B := s9) (fun k hk => by have hk : k = b11 := hk; omega) hs)
      replace K11 := Kn
      (try replace K10 := K10.extX xf n01)
      have E := E.trans ef
      have hs := Nat.le_trans hs ef.size
      simp only [Act.put, List.setIfInBounds_toArray, List.set_cons_zero, List.set_cons_succ]
      exact h.out b10 b11 _ _ _ _ _ _ _ _ _ (by have := hs9.out; omega) (by have := hs9.out; omega) K10 K11 (E.mono (Nat.le_of_eq hs9.out)).ext
    refine (specEnable_any v A6 _ p6 cv st.to HTO.out wa hok.out hcv.out).mono ?_
    rintro e wb ⟨rfl, eb⟩
    rw [← hx.out]
    refine ⟨_, rfl, eb.toB hs, ?_⟩
    (try replace K10 := K10.ext eb)
    (try replace K11 := K11.ext eb)
    have E := E.trans (eb.toB hs)
    have hs := Nat.le_trans hs eb.size
    simp only [Act.put, List.setIfInBounds_toArray, List.set_cons_zero, List.set_cons_succ]
    refine wpS_alloc (some 13) { dst := some 13, op := Op.alloc 35, type := _, pos := _, after := _, guard := none } _ _ rfl rfl (by rfl) (by go_simp; try with_reducible rfl) ?_ ?_ trivial
    exact fun w' h => h.toB hs
    intro b11 wd hb ed K11
    have g11 : s9 ≤ b11 := by omega
    (try have n01 : b10 ≠ b11 := by (have := K10.lt; omega))
    clear hb
    (try replace K10 := K10.ext ed)
    have E := E.trans (ed.toB hs)
    have hs := Nat.le_trans hs ed.size
    simp only [Act.put, List.setIfInBounds_toArray, List.set_cons_zero, List.set_cons_succ]
    refine wpS_storeL none { dst := none, op := Op.store 35 (Operand.tmp 12) (Operand.tmp 111), type := _, pos := _, after := _, guard := none } rfl rfl (by rfl) (.tmp 12) (.tmp 111) 35 rfl rfl rfl rfl K10 rfl (Nat.le_refl 6) rfl (fun w' x => x.toB (fun k hk => by have hk : k = b10 := hk; omega) hs) ?_ trivial
    intro we Kn xe
    (have ee := xe.toB (B := s9) (fun k hk => by have hk : k = b10 := hk; omega) hs)
    replace K10 := Kn
    (try replace K11 := K11.extX xe n01.symm)
    have E := E.trans ee
    have hs := Nat.le_trans hs ee.size
    simp only [Act.put, List.setIfInBounds_toArray, List.set_cons_zero, List.set_cons_succ]
    refine wpS_store none { dst := none, op := Op.store 35 (Operand.tmp 13) (Operand.tmp 115), type := _, pos := _, after := _, guard := none } rfl rfl (by rfl) (.tmp 13) (.tmp 115) 35 rfl rfl rfl rfl K11 rfl (Nat.le_refl 6) rfl ?_
    intro wf Kn xf
    (have ef := xf.toB (B := s9) (fun k hk => by have hk : k = b11 := hk; omega) hs)
    replace K11 := Kn
    (try replace K10 := K10.extX xf n01)
    have E := E.trans ef
    have hs := Nat.le_trans hs ef.size
    simp only [Act.put, List.setIfInBounds_toArray, List.set_cons_zero, List.set_cons_succ]
    exact h.out b10 b11 _ _ _ _ _ _ _ _ _ (by have := hs9.out; omega) (by have := hs9.out; omega) K10 K11 (E.mono (Nat.le_of_eq hs9.out)).ext
  refine (implEnable_any v A5 _ p5 cv st.to HTO.out w6.drew hok.out (HW.out.ext (E.mono (Nat.le_of_eq hs9.out)).ext) hcv.out).mono ?_
  rintro e wa ⟨rfl, ea⟩
  rw [← hx.out]
  refine ⟨_, rfl, ea.toB hs, ?_⟩
  (try replace K10 := K10.ext ea)
  (try replace K11 := K11.ext ea)
  have E := E.trans (ea.toB hs)
  have hs := Nat.le_trans hs ea.size
  simp only [Act.put, List.setIfInBounds_toArray, List.set_cons_zero, List.set_cons_succ]
  refine wpS_callm (some 115) { dst := some 115, op := Op.call { callee := Callee.value (Operand.func 18), args := #[Operand.tmp 112, Operand.tmp 114], argTypes := #[24, 29] }, type := _, pos := _, after := _, guard := none } 18 _ rfl rfl (by rfl) (by go_simp; try with_reducible rfl) ?_ ?_
  rotate_right
  · skip
    refine wpS_alloc (some 12) { dst := some 12, op := Op.alloc 35, type := _, pos := _, after := _, guard := none } _ _ rfl rfl (by rfl) (by go_simp; try with_reducible rfl) ?_ ?_ ?_
    rotate_right
    · skip
      refine wpS_alloc (some 13) { dst := some 13, op := Op.alloc 35, type := _, pos := _, after := _, guard := none } _ _ rfl rfl (by rfl) (by go_simp; try with_reducible rfl) ?_ ?_ trivial
      exact fun w' h => h.toB hs
      intro b11 wd hb ed K11
      have g11 : s9 ≤ b11 := by omega
      (try have n01 : b10 ≠ b11 := by (have := K10.lt; omega))
      clear hb
      (try replace K10 := K10.ext ed)
      have E := E.trans (ed.toB hs)
      have hs := Nat.le_trans hs ed.size
      simp only [Act.put, List.setIfInBounds_toArray, List.set_cons_zero, List.set_cons_succ]
      refine wpS_callm (some 115) { dst := some 115, op := Op.call { callee := Callee.value (Operand.func 18), args := #[Operand.tmp 112, Operand.tmp 114], argTypes := #[24, 29] }, type := _, pos := _, after := _, guard := none } 18 _ rfl rfl (by rfl) (by go_simp; try with_reducible rfl) ?_ ?_
      rotate_right
      · skip
        refine wpS_alloc (some 12) { dst := some 12, op := Op.alloc 35, type := _, pos := _, after := _, guard := none } _ _ rfl rfl (by rfl) (by go_simp; try with_reducible rfl) ?_ ?_ trivial
        exact fun w' h => h.toB hs
        intro b10 wc hb ec K10
        have g10 : s9 ≤ b10 := by omega
        (try have n01 : b10 ≠ b11 := by (have := K11.lt; omega))
        clear hb
        (try replace K11 := K11.ext ec)
        have E := E.trans (ec.toB hs)
        have hs := Nat.le_trans hs ec.size
        simp only [Act.put, List.setIfInBounds_toArray, List.set_cons_zero, List.set_cons_succ]
        refine wpS_callm (some 115) { dst := some 115, op := Op.call { callee := Callee.value (Operand.func 18), args := #[Operand.tmp 112, Operand.tmp 114], argTypes := #[24, 29] }, type := _, pos := _, after := _, guard := none } 18 _ rfl rfl (by rfl) (by go_simp; try with_reducible rfl) ?_ trivial
        refine (specEnable_any v A6 _ p6 cv st.to HTO.out wc hok.out hcv.out).mono ?_
        rintro e wb ⟨rfl, eb⟩
        rw [← hx.out]
        refine ⟨_, rfl, eb.toB hs, ?_⟩
        (try replace K10 := K10.ext eb)
        (try replace K11 := K11.ext eb)
        have E := E.trans (eb.toB hs)
        have hs := Nat.le_trans hs eb.size
        simp only [Act.put, List.setIfInBounds_toArray, List.set_cons_zero, List.set_cons_succ]
        refine wpS_storeL none { dst := none, op := Op.store 35 (Operand.tmp 12) (Operand.tmp 111), type := _, pos := _, after := _, guard := none } rfl rfl (by rfl) (.tmp 12) (.tmp 111) 35 rfl rfl rfl rfl K10 rfl (Nat.le_refl 6) rfl (fun w' x => x.toB (fun k hk => by have hk : k = b10 := hk; omega) hs) ?_ trivial
        intro we Kn xe
        (have ee := xe.toB (B := s9) (fun k hk => by have hk : k = b10 := hk; omega) hs)
        replace K10 := Kn
        (try replace K11 := K11.extX xe n01.symm)
        have E := E.trans ee
        have hs := Nat.le_trans hs ee.size
        simp only [Act.put, List.setIfInBounds_toArray, List.set_cons_zero, List.set_cons_succ]
        refine wpS_store none { dst := none, op := Op.store 35 (Operand.tmp 13) (Operand.tmp 115), type := _, pos := _, after := _, guard := none } rfl rfl (by rfl) (.tmp 13) (.tmp 115) 35 rfl rfl rfl rfl K11 rfl (Nat.le_refl 6) rfl ?_
        intro wf Kn xf
        (have ef := xf.toB (B := s9) (fun k hk => by have hk : k = b11 := hk; omega) hs)
        replace K11 := Kn
        (try replace K10 := K10.extX xf n01)
        have E := E.trans ef
        have hs := Nat.le_trans hs ef.size
        simp only [Act.put, List.setIfInBounds_toArray, List.set_cons_zero, List.set_cons_succ]
        exact h.out b10 b11 _ _ _ _ _ _ _ _ _ (by have := hs9.out; omega) (by have := hs9.out; omega) K10 K11 (E.mono (Nat.le_of_eq hs9.out)).ext
      refine (specEnable_any v A6 _ p6 cv st.to HTO.out wd hok.out hcv.out).mono ?_
      rintro e wb ⟨rfl, eb⟩
      rw [← hx.out]
      refine ⟨_, rfl, eb.toB hs, ?_⟩
      (try replace K10 := K10.ext eb)
      (try replace K11 := K11.ext eb)
      have E := E.trans (eb.toB hs)
      have hs := Nat.le_trans hs eb.size
      simp only [Act.put, List.setIfInBounds_toArray, List.set_cons_zero, List.set_cons_succ]
      refine wpS_alloc (some 12) { dst := some 12, op := Op.alloc 35, type := _, pos := _, after := _, guard := none } _ _ rfl rfl (by rfl) (by go_simp; try with_reducible rfl) ?_ ?_ trivial
      exact fun w' h => h.toB hs
      intro b10 wc hb ec K10
      have g10 : s9 ≤ b10 := by omega
      (try have n01 : b10 ≠ b11 := by (have := K11.lt; omega))
      clear hb
      (try replace K11 := K11.ext ec)
      have E := E.trans (ec.toB hs)
      have hs := Nat.le_trans hs ec.size
      simp only [Act.put, List.setIfInBounds_toArray, List.set_cons_zero, List.set_cons_succ]
      refine wpS_storeL none { dst := none, op := Op.store 35 (Operand.tmp 12) (Operand.tmp 111), type := _, pos := _, after := _, guard := none } rfl rfl (by rfl) (.tmp 12) (.tmp 111) 35 rfl rfl rfl rfl K10 rfl (Nat.le_refl 6) rfl (fun w' x => x.toB (fun k hk => by have hk : k = b10 := hk; omega) hs) ?_ trivial
      intro we Kn xe
      (have ee := xe.toB (B := s9) (fun k hk => by have hk : k = b10 := hk; omega) hs)
      replace K10 := Kn
      (try replace K11 := K11.extX xe n01.symm)
      have E := E.trans ee
      have hs := Nat.le_trans hs ee.size
      simp only [Act.put, List.setIfInBounds_toArray, List.set_cons_zero, List.set_cons_succ]
      refine wpS_store none { dst := none, op := Op.store 35 (Operand.tmp 13) (Operand.tmp 115), type := _, pos := _, after := _, guard := none } rfl rfl (by rfl) (.tmp 13) (.tmp 115) 35 rfl rfl rfl rfl K11 rfl (Nat.le_refl 6) rfl ?_
      intro wf Kn xf
      (have ef := xf.toB (B := s9) (fun k hk => by have hk : k = b11 := hk; omega) hs)
      replace K11 := Kn
      (try replace K10 := K10.extX xf n01)
      have E := E.trans ef
      have hs := Nat.le_trans hs ef.size
      simp only [Act.put, List.setIfInBounds_toArray, List.set_cons_zero, List.set_cons_succ]
      exact h.out b10 b11 _ _ _ _ _ _ _ _ _ (by have := hs9.out; omega) (by have := hs9.out; omega) K10 K11 (E.mono (Nat.le_of_eq hs9.out)).ext
    exact fun w' h => h.toB hs
    intro b10 wc hb ec K10
    have g10 : s9 ≤ b10 := by omega
    (try have n01 : b10 ≠ b11 := by (have := K11.lt; omega))
    clear hb
    (try replace K11 := K11.ext ec)
    have E := E.trans (ec.toB hs)
    have hs := Nat.le_trans hs ec.size
    simp only [Act.put, List.setIfInBounds_toArray, List.set_cons_zero, List.set_cons_succ]
    refine wpS_callm (some 115) { dst := some 115, op := Op.call { callee := Callee.value (Operand.func 18), args := #[Operand.tmp 112, Operand.tmp 114], argTypes := #[24, 29] }, type := _, pos := _, after := _, guard := none } 18 _ rfl rfl (by rfl) (by go_simp; try with_reducible rfl) ?_ ?_
    rotate_right
    · skip
      refine wpS_alloc (some 13) { dst := some 13, op := Op.alloc 35, type := _, pos := _, after := _, guard := none } _ _ rfl rfl (by rfl) (by go_simp; try with_reducible rfl) ?_ ?_ trivial
      exact fun w' h => h.toB hs
      intro b11 wd hb ed K11
      have g11 : s9 ≤ b11 := by omega
      (try have n01 : b10 ≠ b11 := by (have := K10.lt; omega))
      clear hb
      (try replace K10 := K10.ext ed)
      have E := E.trans (ed.toB hs)
      have hs := Nat.le_trans hs ed.size
      simp only [Act.put, List.setIfInBounds_toArray, List.set_cons_zero, List.set_cons_succ]
      refine wpS_callm (some 115) { dst := some 115, op := Op.call { callee := Callee.value (Operand.func 18), args := #[Operand.tmp 112, Operand.tmp 114], argTypes := #[24, 29] }, type := _, pos := _, after := _, guard := none } 18 _ rfl rfl (by rfl) (by go_simp; try with_reducible rfl) ?_ trivial
      refine (specEnable_any v A6 _ p6 cv st.to HTO.out wd hok.out hcv.out).mono ?_
      rintro e wb ⟨rfl, eb⟩
      rw [← hx.out]
      refine ⟨_, rfl, eb.toB hs, ?_⟩
      (try replace K10 := K10.ext eb)
      (try replace K11 := K11.ext eb)
      have E := E.trans (eb.toB hs)
      have hs := Nat.le_trans hs eb.size
      simp only [Act.put, List.setIfInBounds_toArray, List.set_cons_zero, List.set_cons_succ]
      refine wpS_storeL none { dst := none, op := Op.store 35 (Operand.tmp 12) (Operand.tmp 111), type := _, pos := _, after := _, guard := none } rfl rfl (by rfl) (.tmp 12) (.tmp 111) 35 rfl rfl rfl rfl K10 rfl (Nat.le_refl 6) rfl (fun w' x => x.toB (fun k hk => by have hk : k = b10 := hk; omega) hs) ?_ trivial
      intro we Kn xe
      (have ee := xe.toB (B := s9) (fun k hk => by have hk : k = b10 := hk; omega) hs)
      replace K10 := Kn
      (try replace K11 := K11.extX xe n01.symm)
      have E := E.trans ee
      have hs := Nat.le_trans hs ee.size
      simp only [Act.put, List.setIfInBounds_toArray, List.set_cons_zero, List.set_cons_succ]
      refine wpS_store none { dst := none, op := Op.store 35 (Operand.tmp 13) (Operand.tmp 115), type := _, pos := _, after := _, guard := none } rfl rfl (by rfl) (.tmp 13) (.tmp 115) 35 rfl rfl rfl rfl K11 rfl (Nat.le_refl 6) rfl ?_
      intro wf Kn xf
      (have ef := xf.toB (B := s9) (fun k hk => by have hk : k = b11 := hk; omega) hs)
      replace K11 := Kn
      (try replace K10 := K10.extX xf n01)
      have E := E.trans ef
      have hs := Nat.le_trans hs ef.size
      simp only [Act.put, List.setIfInBounds_toArray, List.set_cons_zero, List.set_cons_succ]
      exact h.out b10 b11 _ _ _ _ _ _ _ _ _ (by have := hs9.out; omega) (by have := hs9.out; omega) K10 K11 (E.mono (Nat.le_of_eq hs9.out)).ext
    refine (specEnable_any v A6 _ p6 cv st.to HTO.out wc hok.out hcv.out).mono ?_
    rintro e wb ⟨rfl, eb⟩
    rw [← hx.out]
    refine ⟨_, rfl, eb.toB hs, ?_⟩
    (try replace K10 := K10.ext eb)
    (try replace K11 := K11.ext eb)
    have E := E.trans (eb.toB hs)
    have hs := Nat.le_trans hs eb.size
    simp only [Act.put, List.setIfInBounds_toArray, List.set_cons_zero, List.set_cons_succ]
    refine wpS_alloc (some 13) { dst := some 13, op := Op.alloc 35, type := _, pos := _, after := _, guard := none } _ _ rfl rfl (by rfl) (by go_simp; try with_reducible rfl) ?_ ?_ trivial
    exact fun w' h => h.toB hs
    intro b11 wd hb ed K11
    have g11 : s9 ≤ b11 := by omega
    (try have n01 : b10 ≠ b11 := by (have := K10.lt; omega))
    clear hb
    (try replace K10 := K10.ext ed)
    have E := E.trans (ed.toB hs)
    have hs := Nat.le_trans hs ed.size
    simp only [Act.put, List.setIfInBounds_toArray, List.set_cons_zero, List.set_cons_succ]
    refine wpS_storeL none { dst := none, op := Op.store 35 (Operand.tmp 12) (Operand.tmp 111), type := _, pos := _, after := _, guard := none } rfl rfl (by rfl) (.tmp 12) (.tmp 111) 35 rfl rfl rfl rfl K10 rfl (Nat.le_refl 6) rfl (fun w' x => x.toB (fun k hk => by have hk : k = b10 := hk; omega) hs) ?_ trivial
    intro we Kn xe
    (have ee := xe.toB (B := s9) (fun k hk => by have hk : k = b10 := hk; omega) hs)
    replace K10 := Kn
    (try replace K11 := K11.extX xe n01.symm)
    have E := E.trans ee
    have hs := Nat.le_trans hs ee.size
    simp only [Act.put, List.setIfInBounds_toArray, List.set_cons_zero, List.set_cons_succ]
    refine wpS_store none { dst := none, op := Op.store 35 (Operand.tmp 13) (Operand.tmp 115), type := _, pos := _, after := _, guard := none } rfl rfl (by rfl) (.tmp 13) (.tmp 115) 35 rfl rfl rfl rfl K11 rfl (Nat.le_refl 6) rfl ?_
    intro wf Kn xf
    (have ef := xf.toB (B := s9) (fun k hk => by have hk : k = b11 := hk; omega) hs)
    replace K11 := Kn
    (try replace K10 := K10.extX xf n01)
    have E := E.trans ef
    have hs := Nat.le_trans hs ef.size
    simp only [Act.put, List.setIfInBounds_toArray, List.set_cons_zero, List.set_cons_succ]
    exact h.out b10 b11 _ _ _ _ _ _ _ _ _ (by have := hs9.out; omega) (by have := hs9.out; omega) K10 K11 (E.mono (Nat.le_of_eq hs9.out)).ext
  refine (specEnable_any v A6 _ p6 cv st.to HTO.out wa hok.out hcv.out).mono ?_
  rintro e wb ⟨rfl, eb⟩
  rw [← hx.out]
  refine ⟨_, rfl, eb.toB hs, ?_⟩
  (try replace K10 := K10.ext eb)
  (try replace K11 := K11.ext eb)
  have E := E.trans (eb.toB hs)
  have hs := Nat.le_trans hs eb.size
  simp only [Act.put, List.setIfInBounds_toArray, List.set_cons_zero, List.set_cons_succ]
  refine wpS_alloc (some 12) { dst := some 12, op := Op.alloc 35, type := _, pos := _, after := _, guard := none } _ _ rfl rfl (by rfl) (by go_simp; try with_reducible rfl) ?_ ?_ ?_
  rotate_right
  · skip
    refine wpS_alloc (some 13) { dst := some 13, op := Op.alloc 35, type := _, pos := _, after := _, guard := none } _ _ rfl rfl (by rfl) (by go_simp; try with_reducible rfl) ?_ ?_ trivial
    exact fun w' h => h.toB hs
    intro b11 wd hb ed K11
    have g11 : s9 ≤ b11 := by omega
    (try have n01 : b10 ≠ b11 := by (have := K10.lt; omega))
    clear hb
    (try replace K10 := K10.ext ed)
    have E := E.trans (ed.toB hs)
    have hs := Nat.le_trans hs ed.size
    simp only [Act.put, List.setIfInBounds_toArray, List.set_cons_zero, List.set_cons_succ]
    refine wpS_alloc (some 12) { dst := some 12, op := Op.alloc 35, type := _, pos := _, after := _, guard := none } _ _ rfl rfl (by rfl) (by go_simp; try with_reducible rfl) ?_ ?_ trivial
    exact fun w' h => h.toB hs
    intro b10 wc hb ec K10
    have g10 : s9 ≤ b10 := by omega
    (try have n01 : b10 ≠ b11 := by (have := K11.lt; omega))
    clear hb
    (try replace K11 := K11.ext ec)
    have E := E.trans (ec.toB hs)
    have hs := Nat.le_trans hs ec.size
    simp only [Act.put, List.setIfInBounds_toArray, List.set_cons_zero, List.set_cons_succ]
    refine wpS_storeL none { dst := none, op := Op.store 35 (Operand.tmp 12) (Operand.tmp 111), type := _, pos := _, after := _, guard := none } rfl rfl (by rfl) (.tmp 12) (.tmp 111) 35 rfl rfl rfl rfl K10 rfl (Nat.le_refl 6) rfl (fun w' x => x.toB (fun k hk => by have hk : k = b10 := hk; omega) hs) ?_ trivial
    intro we Kn xe
    (have ee := xe.toB (B := s9) (fun k hk => by have hk : k = b10 := hk; omega) hs)
    replace K10 := Kn
    (try replace K11 := K11.extX xe n01.symm)
    have E := E.trans ee
    have hs := Nat.le_trans hs ee.size
    simp only [Act.put, List.setIfInBounds_toArray, List.set_cons_zero, List.set_cons_succ]
    refine wpS_store none { dst := none, op := Op.store 35 (Operand.tmp 13) (Operand.tmp 115), type := _, pos := _, after := _, guard := none } rfl rfl (by rfl) (.tmp 13) (.tmp 115) 35 rfl rfl rfl rfl K11 rfl (Nat.le_refl 6) rfl ?_
    intro wf Kn xf
    (have ef := xf.toB (B := s9) (fun k hk => by have hk : k = b11 := hk; omega) hs)
    replace K11 := Kn
    (try replace K10 := K10.extX xf n01)
    have E := E.trans ef
    have hs := Nat.le_trans hs ef.size
    simp only [Act.put, List.setIfInBounds_toArray, List.set_cons_zero, List.set_cons_succ]
    exact h.out b10 b11 _ _ _ _ _ _ _ _ _ (by have := hs9.out; omega) (by have := hs9.out; omega) K10 K11 (E.mono (Nat.le_of_eq hs9.out)).ext
  exact fun w' h => h.toB hs
  intro b10 wc hb ec K10
  have g10 : s9 ≤ b10 := by omega
  (try have n01 : b10 ≠ b11 := by (have := K11.lt; omega))
  clear hb
  (try replace K11 := K11.ext ec)
  have E := E.trans (ec.toB hs)
  have hs := Nat.le_trans hs ec.size
  simp only [Act.put, List.setIfInBounds_toArray, List.set_cons_zero, List.set_cons_succ]
  refine wpS_alloc (some 13) { dst := some 13, op := Op.alloc 35, type := _, pos := _, after := _, guard := none } _ _ rfl rfl (by rfl) (by go_simp; try with_reducible rfl) ?_ ?_ trivial
  exact fun w' h => h.toB hs
  intro b11 wd hb ed K11
  have g11 : s9 ≤ b11 := by omega
  (try have n01 : b10 ≠ b11 := by (have := K10.lt; omega))
  clear hb
  (try replace K10 := K10.ext ed)
  have E := E.trans (ed.toB hs)
  have hs := Nat.le_trans hs ed.size
  simp only [Act.put, List.setIfInBounds_toArray, List.set_cons_zero, List.set_cons_succ]
  refine wpS_storeL none { dst := none, op := Op.store 35 (Operand.tmp 12) (Operand.tmp 111), type := _, pos := _, after := _, guard := none } rfl rfl (by rfl) (.tmp 12) (.tmp 111) 35 rfl rfl rfl rfl K10 rfl (Nat.le_refl 6) rfl (fun w' x => x.toB (fun k hk => by have hk : k = b10 := hk; omega) hs) ?_ trivial
  intro we Kn xe
  (have ee := xe.toB (B := s9) (fun k hk => by have hk : k = b10 := hk; omega) hs)
  replace K10 := Kn
  (try replace K11 := K11.extX xe n01.symm)
  have E := E.trans ee
  have hs := Nat.le_trans hs ee.size
  simp only [Act.put, List.setIfInBounds_toArray, List.set_cons_zero, List.set_cons_succ]
  refine wpS_store none { dst := none, op := Op.store 35 (Operand.tmp 13) (Operand.tmp 115), type := _, pos := _, after := _, guard := none } rfl rfl (by rfl) (.tmp 13) (.tmp 115) 35 rfl rfl rfl rfl K11 rfl (Nat.le_refl 6) rfl ?_
  intro wf Kn xf
  (have ef := xf.toB (B := s9) (fun k hk => by have hk : k = b11 := hk; omega) hs)
  replace K11 := Kn
  (try replace K10 := K10.extX xf n01)
  have E := E.trans ef
  have hs := Nat.le_trans hs ef.size
  simp only [Act.put, List.setIfInBounds_toArray, List.set_cons_zero, List.set_cons_succ]
  exact h.out b10 b11 _ _ _ _ _ _ _ _ _ (by have := hs9.out; omega) (by have := hs9.out; omega) K10 K11 (E.mono (Nat.le_of_eq hs9.out)).ext

set_option maxRecDepth 20000 in
set_option maxHeartbeats 8000000 in
theorem reg31 (t0 t1 t2 t3 t4 t7 t8 t9 t10 t11 t12 t13 t14 t15 t16 t17 t18 t19 t20 t21 t22 t23 t24 t25 t26 t27 t28 t29 t30 t31 t32 t33 t34 t35 t36 t37 t38 t39 t40 t41 t42 t43 t44 t45 t46 t47 t48 t49 t50 t51 t52 t53 t54 t55 t56 t57 t58 t59 t60 t61 t62 t63 t64 t65 t66 t67 t68 t69 t70 t71 t72 t73 t74 t75 t76 t77 t78 t79 t80 t81 t82 t83 t84 t85 t86 t87 t88 t89 t90 t91 t92 t93 t94 t95 t96 t97 t98 t99 t100 t101 t102 t103 t104 t105 t106 t107 t108 t109 t110 t111 t112 t113 t114 t115 t116 t117 t118 t119 t120 t121 t122 t123 t124 t125 t126 t127 t128 t129 t130 t131 t132 t133 t134 t135 t136 t137 t138 t139 t140 t141 t142 t143 t144 t145 t146 t147 t148 t149 : Value) {Q : Exit → Act → World → Prop} (hQ : CatchAll Q) (w6 : World) (b5 b6 : Nat) (v : GD) (x : VoteD) (A5 A6 : Option Addr) (p5 p6 : Nat)
    (K5 : Blk w6 b5 24 (gdCells v A5 v.members.length p5)) (K6 : Blk w6 b6 24 (gdCells v A6 v.members.length p6)) (hh : Hid (v.hasDown = true)) (hx : Hid (x = downCancelD v))
    (h : Hid (∀ (b10 b11 : Nat) (u135 u136 u137 u138 : Value) (wx : World), w6.heap.size ≤ b10 → w6.heap.size ≤ b11 → Blk wx b10 35 (voteCells x) → Blk wx b11 35 (voteCells x) → Ext w6 wx →
      Q .normal ⟨#[t0, t1, t2, t3, t4, .pointer (some ⟨b5, 0, none⟩), .pointer (some ⟨b6, 0, none⟩), t7, t8, t9, t10, t11, t12, t13, .pointer (some ⟨b10, 0, none⟩), .pointer (some ⟨b11, 0, none⟩), t16, t17, t18, t19, t20, t21, t22, t23, t24, t25, t26, t27, t28, t29, t30, t31, t32, t33, t34, t35, t36, t37, t38, t39, t40, t41, t42, t43, t44, t45, t46, t47, t48, t49, t50, t51, t52, t53, t54, t55, t56, t57, t58, t59, t60, t61, t62, t63, t64, t65, t66, t67, t68, t69, t70, t71, t72, t73, t74, t75, t76, t77, t78, t79, t80, t81, t82, t83, t84, t85, t86, t87, t88, t89, t90, t91, t92, t93, t94, t95, t96, t97, t98, t99, t100, t101, t102, t103, t104, t105, t106, t107, t108, t109, t110, t111, t112, t113, t114, t115, t116, t117, t118, t119, t120, t121, t122, t123, t124, t125, t126, t127, t128, t129, t130, t131, t132, t133, t134, u135, u136, u137, u138, t139, t140, t141, t142, t143, t144, t145, t146, t147, t148, t149], []⟩ wx)) :
    (Code.region 31 ops_3_31 true).wp Tryz.prog Q ⟨#[t0, t1, t2, t3, t4, .pointer (some ⟨b5, 0, none⟩), .pointer (some ⟨b6, 0, none⟩), t7, t8, t9, t10, t11, t12, t13, t14, t15, t16, t17, t18, t19, t20, t21, t22, t23, t24, t25, t26, t27, t28, t29, t30, t31, t32, t33, t34, t35, t36, t37, t38, t39, t40, t41, t42, t43, t44, t45, t46, t47, t48, t49, t50, t51, t52, t53, t54, t55, t56, t57, t58, t59, t60, t61, t62, t63, t64, t65, t66, t67, t68, t69, t70, t71, t72, t73, t74, t75, t76, t77, t78, t79, t80, t81, t82, t83, t84, t85, t86, t87, t88, t89, t90, t91, t92, t93, t94, t95, t96, t97, t98, t99, t100, t101, t102, t103, t104, t105, t106, t107, t108, t109, t110, t111, t112, t113, t114, t115, t116, t117, t118, t119, t120, t121, t122, t123, t124, t125, t126, t127, t128, t129, t130, t131, t132, t133, t134, t135, t136, t137, t138, t139, t140, t141, t142, t143, t144, t145, t146, t147, t148, t149], []⟩ w6 := by
  obtain ⟨r0, r1, r2, r3, r4, r5⟩ := gd_load K5
  obtain ⟨z0, z1, z2, z3, z4, z5⟩ := gd_load K6
  obtain ⟨s9, hs9⟩ : ∃ s9, w6.heap.size = s9 := ⟨_, rfl⟩
  have hs5 : b5 < s9 := by have := K5.lt; omega
  have hs6 : b6 < s9 := by have := K6.lt; omega
  skip
  have hs : s9 ≤ w6.drew.heap.size := Nat.le_of_eq hs9.symm
  replace hs9 := Lib.hid hs9
  refine wp_region_sched (ops := ops_3_31) (ExtB s9) [7] (.quiet 0 (.quiet 2 (.loud 1 (.loud 3 (.loud 4 (.loud 5 (.loud 6 (.last 7 (.done)) (.stop)) (.stop)) (.loud 5 (.loud 4 (.loud 6 (.last 7 (.done)) (.stop)) (.stop)) (.stop))) (.loud 4 (.loud 3 (.loud 5 (.loud 6 (.last 7 (.done)) (.stop)) (.stop)) (.loud 5 (.loud 3 (.loud 6 (.last 7 (.done)) (.stop)) (.stop)) (.stop))) (.loud 5 (.loud 3 (.loud 4 (.loud 6 (.last 7 (.done)) (.stop)) (.stop)) (.loud 4 (.loud 3 (.loud 6 (.last 7 (.done)) (.stop)) (.stop)) (.stop))) (.stop)))) (.loud 4 (.loud 1 (.loud 3 (.loud 5 (.loud 6 (.last 7 (.done)) (.stop)) (.stop)) (.loud 5 (.loud 3 (.loud 6 (.last 7 (.done)) (.stop)) (.stop)) (.stop))) (.loud 5 (.loud 1 (.loud 3 (.loud 6 (.last 7 (.done)) (.stop)) (.stop)) (.stop)) (.stop))) (.loud 5 (.loud 1 (.loud 3 (.loud 4 (.loud 6 (.last 7 (.done)) (.stop)) (.stop)) (.loud 4 (.loud 3 (.loud 6 (.last 7 (.done)) (.stop)) (.stop)) (.stop))) (.loud 4 (.loud 1 (.loud 3 (.loud 6 (.last 7 (.done)) (.stop)) (.stop)) (.stop)) (.stop))) (.stop)))))) (by kernel_rfl) (extB_refl s9) (extB_trans s9) (by kernel_rfl) (hQ) ?_
  have E : ExtB s9 w6 w6.drew := ExtB.refl _ _
  refine wpS_quiet (some 135) { dst := some 135, op := Op.load 24 (Operand.tmp 5), type := _, pos := _, after := _, guard := none } _ rfl rfl (by rfl) (fun wE hE => by (have zk0 := hE.cellS (by first | exact hs5 | exact hs6) r0; have zk1 := hE.cellS (by first | exact hs5 | exact hs6) r1; have zk2 := hE.cellS (by first | exact hs5 | exact hs6) r2; have zk3 := hE.cellS (by first | exact hs5 | exact hs6) r3; have zk4 := hE.cellS (by first | exact hs5 | exact hs6) r4; have zk5 := hE.cellS (by first | exact hs5 | exact hs6) r5; have zk6 := hE.cellS (by first | exact hs5 | exact hs6) z0; have zk7 := hE.cellS (by first | exact hs5 | exact hs6) z1; have zk8 := hE.cellS (by first | exact hs5 | exact hs6) z2; have zk9 := hE.cellS (by first | exact hs5 | exact hs6) z3; have zk10 := hE.cellS (by first | exact hs5 | exact hs6) z4; have zk11 := hE.cellS (by first | exact hs5 | exact hs6) z5; go_simp; try with_reducible rfl)) ?_; simp only [Act.put, List.setIfInBounds_toArray, List.set_cons_zero, List.set_cons_succ]
  refine wpS_quiet (some 137) { dst := some 137, op := Op.load 24 (Operand.tmp 6), type := _, pos := _, after := _, guard := none } _ rfl rfl (by rfl) (fun wE hE => by (have zk0 := hE.cellS (by first | exact hs5 | exact hs6) r0; have zk1 := hE.cellS (by first | exact hs5 | exact hs6) r1; have zk2 := hE.cellS (by first | exact hs5 | exact hs6) r2; have zk3 := hE.cellS (by first | exact hs5 | exact hs6) r3; have zk4 := hE.cellS (by first | exact hs5 | exact hs6) r4; have zk5 := hE.cellS (by first | exact hs5 | exact hs6) r5; have zk6 := hE.cellS (by first | exact hs5 | exact hs6) z0; have zk7 := hE.cellS (by first | exact hs5 | exact hs6) z1; have zk8 := hE.cellS (by first | exact hs5 | exact hs6) z2; have zk9 := hE.cellS (by first | exact hs5 | exact hs6) z3; have zk10 := hE.cellS (by first | exact hs5 | exact hs6) z4; have zk11 := hE.cellS (by first | exact hs5 | exact hs6) z5; go_simp; try with_reducible rfl)) ?_; simp only [Act.put, List.setIfInBounds_toArray, List.set_cons_zero, List.set_cons_succ]
  refine wpS_callm (some 136) { dst := some 136, op := Op.call { callee := Callee.value (Operand.func 19), args := #[Operand.tmp 135], argTypes := #[24] }, type := _, pos := _, after := _, guard := none } 19 _ rfl rfl (by rfl) (by go_simp; try with_reducible rfl) ?_ ?_
  rotate_right
  · skip
    refine wpS_alloc (some 14) { dst := some 14, op := Op.alloc 35, type := _, pos := _, after := _, guard := none } _ _ rfl rfl (by rfl) (by go_simp; try with_reducible rfl) ?_ ?_ ?_
    rotate_right
    · skip
      refine wpS_alloc (some 15) { dst := some 15, op := Op.alloc 35, type := _, pos := _, after := _, guard := none } _ _ rfl rfl (by rfl) (by go_simp; try with_reducible rfl) ?_ ?_ trivial
      exact fun w' h => h.toB hs
      intro b11 wd hb ed K11
      have g11 : s9 ≤ b11 := by omega
      (try have n01 : b10 ≠ b11 := by (have := K10.lt; omega))
      clear hb
      (try replace K10 := K10.ext ed)
      have E := E.trans (ed.toB hs)
      have hs := Nat.le_trans hs ed.size
      simp only [Act.put, List.setIfInBounds_toArray, List.set_cons_zero, List.set_cons_succ]
      refine wpS_callm (some 136) { dst := some 136, op := Op.call { callee := Callee.value (Operand.func 19), args := #[Operand.tmp 135], argTypes := #[24] }, type := _, pos := _, after := _, guard := none } 19 _ rfl rfl (by rfl) (by go_simp; try with_reducible rfl) ?_ ?_
      rotate_right
      · skip
        refine wpS_alloc (some 14) { dst := some 14, op := Op.alloc 35, type := _, pos := _, after := _, guard := none } _ _ rfl rfl (by rfl) (by go_simp; try with_reducible rfl) ?_ ?_ trivial
        exact fun w' h => h.toB hs
        intro b10 wc hb ec K10
        have g10 : s9 ≤ b10 := by omega
        (try have n01 : b10 ≠ b11 := by (have := K11.lt; omega))
        clear hb
        (try replace K11 := K11.ext ec)
        have E := E.trans (ec.toB hs)
        have hs := Nat.le_trans hs ec.size
        simp only [Act.put, List.setIfInBounds_toArray, List.set_cons_zero, List.set_cons_succ]
        refine wpS_callm (some 136) { dst := some 136, op := Op.call { callee := Callee.value (Operand.func 19), args := #[Operand.tmp 135], argTypes := #[24] }, type := _, pos := _, after := _, guard := none } 19 _ rfl rfl (by rfl) (by go_simp; try with_reducible rfl) ?_ trivial
        refine (implDownCancel_any v A5 _ p5 wc hh.out).mono ?_
        rintro e wa ⟨rfl, ea⟩
        rw [← hx.out]
        refine ⟨_, rfl, ea.toB hs, ?_⟩
        (try replace K10 := K10.ext ea)
        (try replace K11 := K11.ext ea)
        have E := E.trans (ea.toB hs)
        have hs := Nat.le_trans hs ea.size
        simp only [Act.put, List.setIfInBounds_toArray, List.set_cons_zero, List.set_cons_succ]
        refine wpS_callm (some 138) { dst := some 138, op := Op.call { callee := Callee.value (Operand.func 20), args := #[Operand.tmp 137], argTypes := #[24] }, type := _, pos := _, after := _, guard := none } 20 _ rfl rfl (by rfl) (by go_simp; try with_reducible rfl) ?_ trivial
        refine (specDownCancel_any v A6 _ p6 wa).mono ?_
        rintro e wb ⟨rfl, eb⟩
        rw [← hx.out]
        refine ⟨_, rfl, eb.toB hs, ?_⟩
        (try replace K10 := K10.ext eb)
        (try replace K11 := K11.ext eb)
        have E := E.trans (eb.toB hs)
        have hs := Nat.le_trans hs eb.size
        simp only [Act.put, List.setIfInBounds_toArray, List.set_cons_zero, List.set_cons_succ]
        refine wpS_storeL none { dst := none, op := Op.store 35 (Operand.tmp 14) (Operand.tmp 136), type := _, pos := _, after := _, guard := none } rfl rfl (by rfl) (.tmp 14) (.tmp 136) 35 rfl rfl rfl rfl K10 rfl (Nat.le_refl 6) rfl (fun w' x => x.toB (fun k hk => by have hk : k = b10 := hk; omega) hs) ?_ trivial
        intro we Kn xe
        (have ee := xe.toB (B := s9) (fun k hk => by have hk : k = b10 := hk; omega) hs)
        replace K10 := Kn
        (try replace K11 := K11.extX xe n01.symm)
        have E := E.trans ee
        have hs := Nat.le_trans hs ee.size
        simp only [Act.put, List.setIfInBounds_toArray, List.set_cons_zero, List.set_cons_succ]
        refine wpS_store none { dst := none, op := Op.store 35 (Operand.tmp 15) (Operand.tmp 138), type := _, pos := _, after := _, guard := none } rfl rfl (by rfl) (.tmp 15) (.tmp 138) 35 rfl rfl rfl rfl K11 rfl (Nat.le_refl 6) rfl ?_
        intro wf Kn xf
        (have ef := xf.toB (B := s9) (fun k hk => by have hk : k = b11 := hk; omega) hs)
        replace K11 := Kn
        (try replace K10 := K10.extX xf n01)
        have E := E.trans ef
        have hs := Nat.le_trans hs ef.size
        simp only [Act.put, List.setIfInBounds_toArray, List.set_cons_zero, List.set_cons_succ]
        exact h.out b10 b11 _ _ _ _ _ (by have := hs9.out; omega) (by have := hs9.out; omega) K10 K11 (E.mono (Nat.le_of_eq hs9.out)).ext
      refine (implDownCancel_any v A5 _ p5 wd hh.out).mono ?_
      rintro e wa ⟨rfl, ea⟩
      rw [← hx.out]
      refine ⟨_, rfl, ea.toB hs, ?_⟩
      (try replace K10 := K10.ext ea)
      (try replace K11 := K11.ext ea)
      have E := E.trans (ea.toB hs)
      have hs := Nat.le_trans hs ea.size
      simp only [Act.put, List.setIfInBounds_toArray, List.set_cons_zero, List.set_cons_succ]
      refine wpS_callm (some 138) { dst := some 138, op := Op.call { callee := Callee.value (Operand.func 20), args := #[Operand.tmp 137], argTypes := #[24] }, type := _, pos := _, after := _, guard := none } 20 _ rfl rfl (by rfl) (by go_simp; try with_reducible rfl) ?_ ?_
      rotate_right
      · skip
        refine wpS_alloc (some 14) { dst := some 14, op := Op.alloc 35, type := _, pos := _, after := _, guard := none } _ _ rfl rfl (by rfl) (by go_simp; try with_reducible rfl) ?_ ?_ trivial
        exact fun w' h => h.toB hs
        intro b10 wc hb ec K10
        have g10 : s9 ≤ b10 := by omega
        (try have n01 : b10 ≠ b11 := by (have := K11.lt; omega))
        clear hb
        (try replace K11 := K11.ext ec)
        have E := E.trans (ec.toB hs)
        have hs := Nat.le_trans hs ec.size
        simp only [Act.put, List.setIfInBounds_toArray, List.set_cons_zero, List.set_cons_succ]
        refine wpS_callm (some 138) { dst := some 138, op := Op.call { callee := Callee.value (Operand.func 20), args := #[Operand.tmp 137], argTypes := #[24] }, type := _, pos := _, after := _, guard := none } 20 _ rfl rfl (by rfl) (by go_simp; try with_reducible rfl) ?_ trivial
        refine (specDownCancel_any v A6 _ p6 wc).mono ?_
        rintro e wb ⟨rfl, eb⟩
        rw [← hx.out]
        refine ⟨_, rfl, eb.toB hs, ?_⟩
        (try replace K10 := K10.ext eb)
        (try replace K11 := K11.ext eb)
        have E := E.trans (eb.toB hs)
        have hs := Nat.le_trans hs eb.size
        simp only [Act.put, List.setIfInBounds_toArray, List.set_cons_zero, List.set_cons_succ]
        refine wpS_storeL none { dst := none, op := Op.store 35 (Operand.tmp 14) (Operand.tmp 136), type := _, pos := _, after := _, guard := none } rfl rfl (by rfl) (.tmp 14) (.tmp 136) 35 rfl rfl rfl rfl K10 rfl (Nat.le_refl 6) rfl (fun w' x => x.toB (fun k hk => by have hk : k = b10 := hk; omega) hs) ?_ trivial
        intro we Kn xe
        (have ee := xe.toB (B := s9) (fun k hk => by have hk : k = b10 := hk; omega) hs)
        replace K10 := Kn
        (try replace K11 := K11.extX xe n01.symm)
        have E := E.trans ee
        have hs := Nat.le_trans hs ee.size
        simp only [Act.put, List.setIfInBounds_toArray, List.set_cons_zero, List.set_cons_succ]
        refine wpS_store none { dst := none, op := Op.store 35 (Operand.tmp 15) (Operand.tmp 138), type := _, pos := _, after := _, guard := none } rfl rfl (by rfl) (.tmp 15) (.tmp 138) 35 rfl rfl rfl rfl K11 rfl (Nat.le_refl 6) rfl ?_
        intro wf Kn xf
        (have ef := xf.toB (B := s9) (fun k hk => by have hk : k = b11 := hk; omega) hs)
        replace K11 := Kn
        (try replace K10 := K10.extX xf n01)
        have E := E.trans ef
        have hs := Nat.le_trans hs ef.size
        simp only [Act.put, List.setIfInBounds_toArray, List.set_cons_zero, List.set_cons_succ]
        exact h.out b10 b11 _ _ _ _ _ (by have := hs9.out; omega) (by have := hs9.out; omega) K10 K11 (E.mono (Nat.le_of_eq hs9.out)).ext
      refine (specDownCancel_any v A6 _ p6 wa).mono ?_
      rintro e wb ⟨rfl, eb⟩
      rw [← hx.out]
      refine ⟨_, rfl, eb.toB hs, ?_⟩
      (try replace K10 := K10.ext eb)
      (try replace K11 := K11.ext eb)
      have E := E.trans (eb.toB hs)
      have hs := Nat.le_trans hs eb.size
      simp only [Act.put, List.setIfInBounds_toArray, List.set_cons_zero, List.set_cons_succ]
      refine wpS_alloc (some 14) { dst := some 14, op := Op.alloc 35, type := _, pos := _, after := _, guard := none } _ _ rfl rfl (by rfl) (by go_simp; try with_reducible rfl) ?_ ?_ trivial
      exact fun w' h => h.toB hs
      intro b10 wc hb ec K10
      have g10 : s9 ≤ b10 := by omega
      (try have n01 : b10 ≠ b11 := by (have := K11.lt; omega))
      clear hb
      (try replace K11 := K11.ext ec)
      have E := E.trans (ec.toB hs)
      have hs := Nat.le_trans hs ec.size
      simp only [Act.put, List.setIfInBounds_toArray, List.set_cons_zero, List.set_cons_succ]
      refine wpS_storeL none { dst := none, op := Op.store 35 (Operand.tmp 14) (Operand.tmp 136), type := _, pos := _, after := _, guard := none } rfl rfl (by rfl) (.tmp 14) (.tmp 136) 35 rfl rfl rfl rfl K10 rfl (Nat.le_refl 6) rfl (fun w' x => x.toB (fun k hk => by have hk : k = b10 := hk; omega) hs) ?_ trivial
      intro we Kn xe
      (have ee := xe.toB (B := s9) (fun k hk => by have hk : k = b10 := hk; omega) hs)
      replace K10 := Kn
      (try replace K11 := K11.extX xe n01.symm)
      have E := E.trans ee
      have hs := Nat.le_trans hs ee.size
      simp only [Act.put, List.setIfInBounds_toArray, List.set_cons_zero, List.set_cons_succ]
      refine wpS_store none { dst := none, op := Op.store 35 (Operand.tmp 15) (Operand.tmp 138), type := _, pos := _, after := _, guard := none } rfl rfl (by rfl) (.tmp 15) (.tmp 138) 35 rfl rfl rfl rfl K11 rfl (Nat.le_refl 6) rfl ?_
      intro wf Kn xf
      (have ef := xf.toB (B := s9) (fun k hk => by have hk : k = b11 := hk; omega) hs)
      replace K11 := Kn
      (try replace K10 := K10.extX xf n01)
      have E := E.trans ef
      have hs := Nat.le_trans hs ef.size
      simp only [Act.put, List.setIfInBounds_toArray, List.set_cons_zero, List.set_cons_succ]
      exact h.out b10 b11 _ _ _ _ _ (by have := hs9.out; omega) (by have := hs9.out; omega) K10 K11 (E.mono (Nat.le_of_eq hs9.out)).ext
    exact fun w' h => h.toB hs
    intro b10 wc hb ec K10
    have g10 : s9 ≤ b10 := by omega
    (try have n01 : b10 ≠ b11 := by (have := K11.lt; omega))
    clear hb
    (try replace K11 := K11.ext ec)
    have E := E.trans (ec.toB hs)
    have hs := Nat.le_trans hs ec.size
    simp only [Act.put, List.setIfInBounds_toArray, List.set_cons_zero, List.set_cons_succ]
    refine wpS_callm (some 136) { dst := some 136, op := Op.call { callee := Callee.value (Operand.func 19), args := #[Operand.tmp 135], argTypes := #[24] }, type := _, pos := _, after := _, guard := none } 19 _ rfl rfl (by rfl) (by go_simp; try with_reducible rfl) ?_ ?_
    rotate_right
    · skip
      refine wpS_alloc (some 15) { dst := some 15, op := Op.alloc 35, type := _, pos := _, after := _, guard := none } _ _ rfl rfl (by rfl) (by go_simp; try with_reducible rfl) ?_ ?_ trivial
      exact fun w' h => h.toB hs
      intro b11 wd hb ed K11
      have g11 : s9 ≤ b11 := by omega
      (try have n01 : b10 ≠ b11 := by (have := K10.lt; omega))
      clear hb
      (try replace K10 := K10.ext ed)
      have E := E.trans (ed.toB hs)
      have hs := Nat.le_trans hs ed.size
      simp only [Act.put, List.setIfInBounds_toArray, List.set_cons_zero, List.set_cons_succ]
      refine wpS_callm (some 136) { dst := some 136, op := Op.call { callee := Callee.value (Operand.func 19), args := #[Operand.tmp 135], argTypes := #[24] }, type := _, pos := _, after := _, guard := none } 19 _ rfl rfl (by rfl) (by go_simp; try with_reducible rfl) ?_ trivial
      refine (implDownCancel_any v A5 _ p5 wd hh.out).mono ?_
      rintro e wa ⟨rfl, ea⟩
      rw [← hx.out]
      refine ⟨_, rfl, ea.toB hs, ?_⟩
      (try replace K10 := K10.ext ea)
      (try replace K11 := K11.ext ea)
      have E := E.trans (ea.toB hs)
      have hs := Nat.le_trans hs ea.size
      simp only [Act.put, List.setIfInBounds_toArray, List.set_cons_zero, List.set_cons_succ]
      refine wpS_callm (some 138) { dst := some 138, op := Op.call { callee := Callee.value (Operand.func 20), args := #[Operand.tmp 137], argTypes := #[24] }, type := _, pos := _, after := _, guard := none } 20 _ rfl rfl (by rfl) (by go_simp; try with_reducible rfl) ?_ trivial
      refine (specDownCancel_any v A6 _ p6 wa).mono ?_
      rintro e wb ⟨rfl, eb⟩
      rw [← hx.out]
      refine ⟨_, rfl, eb.toB hs, ?_⟩
      (try replace K10 := K10.ext eb)
      (try replace K11 := K11.ext eb)
      have E := E.trans (eb.toB hs)
      have hs := Nat.le_trans hs eb.size
      simp only [Act.put, List.setIfInBounds_toArray, List.set_cons_zero, List.set_cons_succ]
      refine wpS_storeL none { dst := none, op := Op.store 35 (Operand.tmp 14) (Operand.tmp 136), type := _, pos := _, after := _, guard := none } rfl rfl (by rfl) (.tmp 14) (.tmp 136) 35 rfl rfl rfl rfl K10 rfl (Nat.le_refl 6) rfl (fun w' x => x.toB (fun k hk => by have hk : k = b10 := hk; omega) hs) ?_ trivial
      intro we Kn xe
      (have ee := xe.toB (B := s9) (fun k hk => by have hk : k = b10 := hk; omega) hs)
      replace K10 := Kn
      (try replace K11 := K11.extX xe n01.symm)
      have E := E.trans ee
      have hs := Nat.le_trans hs ee.size
      simp only [Act.put, List.setIfInBounds_toArray, List.set_cons_zero, List.set_cons_succ]
      refine wpS_store none { dst := none, op := Op.store 35 (Operand.tmp 15) (Operand.tmp 138), type := _, pos := _, after := _, guard := none } rfl rfl (by rfl) (.tmp 15) (.tmp 138) 35 rfl rfl rfl rfl K11 rfl (Nat.le_refl 6) rfl ?_
      intro wf Kn xf
      (have ef := xf.toB (B := s9) (fun k hk => by have hk : k = b11 := hk; omega) hs)
      replace K11 := Kn
      (try replace K10 := K10.extX xf n01)
      have E := E.trans ef
      have hs := Nat.le_trans hs ef.size
      simp only [Act.put, List.setIfInBounds_toArray, List.set_cons_zero, List.set_cons_succ]
      exact h.out b10 b11 _ _ _ _ _ (by have := hs9.out; omega) (by have := hs9.out; omega) K10 K11 (E.mono (Nat.le_of_eq hs9.out)).ext
    refine (implDownCancel_any v A5 _ p5 wc hh.out).mono ?_
    rintro e wa ⟨rfl, ea⟩
    rw [← hx.out]
    refine ⟨_, rfl, ea.toB hs, ?_⟩
    (try replace K10 := K10.ext ea)
    (try replace K11 := K11.ext ea)
    have E := E.trans (ea.toB hs)
    have hs := Nat.le_trans hs ea.size
    simp only [Act.put, List.setIfInBounds_toArray, List.set_cons_zero, List.set_cons_succ]
    refine wpS_callm (some 138) { dst := some 138, op := Op.call { callee := Callee.value (Operand.func 20), args := #[Operand.tmp 137], argTypes := #[24] }, type := _, pos := _, after := _, guard := none } 20 _ rfl rfl (by rfl) (by go_simp; try with_reducible rfl) ?_ ?_
    rotate_right
    · skip
      refine wpS_alloc (some 15) { dst := some 15, op := Op.alloc 35, type := _, pos := _, after := _, guard := none } _ _ rfl rfl (by rfl) (by go_simp; try with_reducible rfl) ?_ ?_ trivial
      exact fun w' h => h.toB hs
      intro b11 wd hb ed K11
      have g11 : s9 ≤ b11 := by omega
      (try have n01 : b10 ≠ b11 := by (have := K10.lt; omega))
      clear hb
      (try replace K10 := K10.ext ed)
      have E := E.trans (ed.toB hs)
      have hs := Nat.le_trans hs ed.size
      simp only [Act.put, List.setIfInBounds_toArray, List.set_cons_zero, List.set_cons_succ]
      refine wpS_callm (some 138) { dst := some 138, op := Op.call { callee := Callee.value (Operand.func 20), args := #[Operand.tmp 137], argTypes := #[24] }, type := _, pos := _, after := _, guard := none } 20 _ rfl rfl (by rfl) (by go_simp; try with_reducible rfl) ?_ trivial
      refine (specDownCancel_any v A6 _ p6 wd).mono ?_
      rintro e wb ⟨rfl, eb⟩
      rw [← hx.out]
      refine ⟨_, rfl, eb.toB hs, ?_⟩
      (try replace K10 := K10.ext eb)
      (try replace K11 := K11.ext eb)
      have E := E.trans (eb.toB hs)
      have hs := Nat.le_trans hs eb.size
      simp only [Act.put, List.setIfInBounds_toArray, List.set_cons_zero, List.set_cons_succ]
      refine wpS_storeL none { dst := none, op := Op.store 35 (Operand.tmp 14) (Operand.tmp 136), type := _, pos := _, after := _, guard := none } rfl rfl (by rfl) (.tmp 14) (.tmp 136) 35 rfl rfl rfl rfl K10 rfl (Nat.le_refl 6) rfl (fun w' x => x.toB (fun k hk => by have hk : k = b10 := hk; omega) hs) ?_ trivial
      intro we Kn xe
      (have ee := xe.toB (B := s9) (fun k hk => by have hk : k = b10 := hk; omega) hs)
      replace K10 := Kn
      (try replace K11 := K11.extX xe n01.symm)
      have E := E.trans ee
      have hs := Nat.le_trans hs ee.size
      simp only [Act.put, List.setIfInBounds_toArray, List.set_cons_zero, List.set_cons_succ]
      refine wpS_store none { dst := none, op := Op.store 35 (Operand.tmp 15) (Operand.tmp 138), type := _, pos := _, after := _, guard := none } rfl rfl (by rfl) (.tmp 15) (.tmp 138) 35 rfl rfl rfl rfl K11 rfl (Nat.le_refl 6) rfl ?_
      intro wf Kn xf
      (have ef := xf.toB (B := s9) (fun k hk => by have hk : k = b11 := hk; omega) hs)
      replace K11 := Kn
      (try replace K10 := K10.extX xf n01)
      have E := E.trans ef
      have hs := Nat.le_trans hs ef.size
      simp only [Act.put, List.setIfInBounds_toArray, List.set_cons_zero, List.set_cons_succ]
      exact h.out b10 b11 _ _ _ _ _ (by have := hs9.out; omega) (by have := hs9.out; omega) K10 K11 (E.mono (Nat.le_of_eq hs9.out)).ext
    refine (specDownCancel_any v A6 _ p6 wa).mono ?_
    rintro e wb ⟨rfl, eb⟩
    rw [← hx.out]
    refine ⟨_, rfl, eb.toB hs, ?_⟩
    (try replace K10 := K10.ext eb)
    (try replace K11 := K11.ext eb)
    have E := E.trans (eb.toB hs)
    have hs := Nat.le_trans hs eb.size
    simp only [Act.put, List.setIfInBounds_toArray, List.set_cons_zero, List.set_cons_succ]
    refine wpS_alloc (some 15) { dst := some 15, op := Op.alloc 35, type := _, pos := _, after := _, guard := none } _ _ rfl rfl (by rfl) (by go_simp; try with_reducible rfl) ?_ ?_ trivial
    exact fun w' h => h.toB hs
    intro b11 wd hb ed K11
    have g11 : s9 ≤ b11 := by omega
    (try have n01 : b10 ≠ b11 := by (have := K10.lt; omega))
    clear hb
    (try replace K10 := K10.ext ed)
    have E := E.trans (ed.toB hs)
    have hs := Nat.le_trans hs ed.size
    simp only [Act.put, List.setIfInBounds_toArray, List.set_cons_zero, List.set_cons_succ]
    refine wpS_storeL none { dst := none, op := Op.store 35 (Operand.tmp 14) (Operand.tmp 136), type := _, pos := _, after := _, guard := none } rfl rfl (by rfl) (.tmp 14) (.tmp 136) 35 rfl rfl rfl rfl K10 rfl (Nat.le_refl 6) rfl (fun w' x => x.toB (fun k hk => by have hk : k = b10 := hk; omega) hs) ?_ trivial
    intro we Kn xe
    (have ee := xe.toB (B := s9) (fun k hk => by have hk : k = b10 := hk; omega) hs)
    replace K10 := Kn
    (try replace K11 := K11.extX xe n01.symm)
    have E := E.trans ee
    have hs := Nat.le_trans hs ee.size
    simp only [Act.put, List.setIfInBounds_toArray, List.set_cons_zero, List.set_cons_succ]
    refine wpS_store none { dst := none, op := Op.store 35 (Operand.tmp 15) (Operand.tmp 138), type := _, pos := _, after := _, guard := none } rfl rfl (by rfl) (.tmp 15) (.tmp 138) 35 rfl rfl rfl rfl K11 rfl (Nat.le_refl 6) rfl ?_
    intro wf Kn xf
    (have ef := xf.toB (B := s9) (fun k hk => by have hk : k = b11 := hk; omega) hs)
    replace K11 := Kn
    (try replace K10 := K10.extX xf n01)
    have E := E.trans ef
    have hs := Nat.le_trans hs ef.size
    simp only [Act.put, List.setIfInBounds_toArray, List.set_cons_zero, List.set_cons_succ]
    exact h.out b10 b11 _ _ _ _ _ (by have := hs9.out; omega) (by have := hs9.out; omega) K10 K11 (E.mono (Nat.le_of_eq hs9.out)).ext
  refine (implDownCancel_any v A5 _ p5 w6.drew hh.out).mono ?_
  rintro e wa ⟨rfl, ea⟩
  rw [← hx.out]
  refine ⟨_, rfl, ea.toB hs, ?_⟩
  (try replace K10 := K10.ext ea)
  (try replace K11 := K11.ext ea)
  have E := E.trans (ea.toB hs)
  have hs := Nat.le_trans hs ea.size
  simp only [Act.put, List.setIfInBounds_toArray, List.set_cons_zero, List.set_cons_succ]
  refine wpS_callm (some 138) { dst := some 138, op := Op.call { callee := Callee.value (Operand.func 20), args := #[Operand.tmp 137], argTypes := #[24] }, type := _, pos := _, after := _, guard := none } 20 _ rfl rfl (by rfl) (by go_simp; try with_reducible rfl) ?_ ?_
  rotate_right
  · skip
    refine wpS_alloc (some 14) { dst := some 14, op := Op.alloc 35, type := _, pos := _, after := _, guard := none } _ _ rfl rfl (by rfl) (by go_simp; try with_reducible rfl) ?_ ?_ ?_
    rotate_right
    · skip
      refine wpS_alloc (some 15) { dst := some 15, op := Op.alloc 35, type := _, pos := _, after := _, guard := none } _ _ rfl rfl (by rfl) (by go_simp; try with_reducible rfl) ?_ ?_ trivial
      exact fun w' h => h.toB hs
      intro b11 wd hb ed K11
      have g11 : s9 ≤ b11 := by omega
      (try have n01 : b10 ≠ b11 := by (have := K10.lt; omega))
      clear hb
      (try replace K10 := K10.ext ed)
      have E := E.trans (ed.toB hs)
      have hs := Nat.le_trans hs ed.size
      simp only [Act.put, List.setIfInBounds_toArray, List.set_cons_zero, List.set_cons_succ]
      refine wpS_callm (some 138) { dst := some 138, op := Op.call { callee := Callee.value (Operand.func 20), args := #[Operand.tmp 137], argTypes := #[24] }, type := _, pos := _, after := _, guard := none } 20 _ rfl rfl (by rfl) (by go_simp; try with_reducible rfl) ?_ ?_
      rotate_right
      · skip
        refine wpS_alloc (some 14) { dst := some 14, op := Op.alloc 35, type := _, pos := _, after := _, guard := none } _ _ rfl rfl (by rfl) (by go_simp; try with_reducible rfl) ?_ ?_ trivial
        exact fun w' h => h.toB hs
        intro b10 wc hb ec K10
        have g10 : s9 ≤ b10 := by omega
        (try have n01 : b10 ≠ b11 := by (have := K11.lt; omega))
        clear hb
        (try replace K11 := K11.ext ec)
        have E := E.trans (ec.toB hs)
        have hs := Nat.le_trans hs ec.size
        simp only [Act.put, List.setIfInBounds_toArray, List.set_cons_zero, List.set_cons_succ]
        refine wpS_callm (some 138) { dst := some 138, op := Op.call { callee := Callee.value (Operand.func 20), args := #[Operand.tmp 137], argTypes := #[24] }, type := _, pos := _, after := _, guard := none } 20 _ rfl rfl (by rfl) (by go_simp; try with_reducible rfl) ?_ trivial
        refine (specDownCancel_any v A6 _ p6 wc).mono ?_
        rintro e wb ⟨rfl, eb⟩
        rw [← hx.out]
        refine ⟨_, rfl, eb.toB hs, ?_⟩
        (try replace K10 := K10.ext eb)
        (try replace K11 := K11.ext eb)
        have E := E.trans (eb.toB hs)
        have hs := Nat.le_trans hs eb.size
        simp only [Act.put, List.setIfInBounds_toArray, List.set_cons_zero, List.set_cons_succ]
        refine wpS_storeL none { dst := none, op := Op.store 35 (Operand.tmp 14) (Operand.tmp 136), type := _, pos := _, after := _, guard := none } rfl rfl (by rfl) (.tmp 14) (.tmp 136) 35 rfl rfl rfl rfl K10 rfl (Nat.le_refl 6) rfl (fun w' x => x.toB (fun k hk => by have hk : k = b10 := hk; omega) hs) ?_ trivial
        intro we Kn xe
        (have ee := xe.toB (B := s9) (fun k hk => by have hk : k = b10 := hk; omega) hs)
        replace K10 := Kn
        (try replace K11 := K11.extX xe n01.symm)
        have E := E.trans ee
        have hs := Nat.le_trans hs ee.size
        simp only [Act.put, List.setIfInBounds_toArray, List.set_cons_zero, List.set_cons_succ]
        refine wpS_store none { dst := none, op := Op.store 35 (Operand.tmp 15) (Operand.tmp 138), type := _, pos := _, after := _, guard := none } rfl rfl (by rfl) (.tmp 15) (.tmp 138) 35 rfl rfl rfl rfl K11 rfl (Nat.le_refl 6) rfl ?_
        intro wf Kn xf
        (have ef := xf.toB (B := s9) (fun k hk => by have hk : k = b11 := hk; omega) hs)
        replace K11 := Kn
        (try replace K10 := K10.extX xf n01)
        have E := E.trans ef
        have hs := Nat.le_trans hs ef.size
        simp only [Act.put, List.setIfInBounds_toArray, List.set_cons_zero, List.set_cons_succ]
        exact h.out b10 b11 _ _ _ _ _ (by have := hs9.out; omega) (by have := hs9.out; omega) K10 K11 (E.mono (Nat.le_of_eq hs9.out)).ext
      refine (specDownCancel_any v A6 _ p6 wd).mono ?_
      rintro e wb ⟨rfl, eb⟩
      rw [← hx.out]
      refine ⟨_, rfl, eb.toB hs, ?_⟩
      (try replace K10 := K10.ext eb)
      (try replace K11 := K11.ext eb)
      have E := E.trans (eb.toB hs)
      have hs := Nat.le_trans hs eb.size
      simp only [Act.put, List.setIfInBounds_toArray, List.set_cons_zero, List.set_cons_succ]
      refine wpS_alloc (some 14) { dst := some 14, op := Op.alloc 35, type := _, pos := _, after := _, guard := none } _ _ rfl rfl (by rfl) (by go_simp; try with_reducible rfl) ?_ ?_ trivial
      exact fun w' h => h.toB hs
      intro b10 wc hb ec K10
      have g10 : s9 ≤ b10 := by omega
      (try have n01 : b10 ≠ b11 := by (have := K11.lt; omega))
      clear hb
      (try replace K11 := K11.ext ec)
      have E := E.trans (ec.toB hs)
      have hs := Nat.le_trans hs ec.size
      simp only [Act.put, List.setIfInBounds_toArray, List.set_cons_zero, List.set_cons_succ]
      refine wpS_storeL none { dst := none, op := Op.store 35 (Operand.tmp 14) (Operand.tmp 136), type := _, pos := _, after := _, guard := none } rfl rfl (by rfl) (.tmp 14) (.tmp 136) 35 rfl rfl rfl rfl K10 rfl (Nat.le_refl 6) rfl (fun w' x => x.toB (fun k hk => by have hk : k = b10 := hk; omega) hs) ?_ trivial
      intro we Kn xe
      (have ee := xe.toB (B := s9) (fun k hk => by have hk : k = b10 := hk; omega) hs)
      replace K10 := Kn
      (try replace K11 := K11.extX xe n01.symm)
      have E := E.trans ee
      have hs := Nat.le_trans hs ee.size
      simp only [Act.put, List.setIfInBounds_toArray, List.set_cons_zero, List.set_cons_succ]
      refine wpS_store none { dst := none, op := Op.store 35 (Operand.tmp 15) (Operand.tmp 138), type := _, pos := _, after := _, guard := none } rfl rfl (by rfl) (.tmp 15) (.tmp 138) 35 rfl rfl rfl rfl K11 rfl (Nat.le_refl 6) rfl ?_
      intro wf Kn xf
      (have ef := xf.toB (B := s9) (fun k hk => by have hk : k = b11 := hk; omega) hs)
      replace K11 := Kn
      (try replace K10 := K10.extX xf n01)
      have E := E.trans ef
      have hs := Nat.le_trans hs ef.size
      simp only [Act.put, List.setIfInBounds_toArray, List.set_cons_zero, List.set_cons_succ]
      exact h.out b10 b11 _ _ _ _ _ (by have := hs9.out; omega) (by have := hs9.out; omega) K10 K11 (E.mono (Nat.le_of_eq hs9.out)).ext
    exact fun w' h => h.toB hs
    intro b10 wc hb ec K10
    have g10 : s9 ≤ b10 := by omega
    (try have n01 : b10 ≠ b11 := by (have := K11.lt; omega))
    clear hb
    (try replace K11 := K11.ext ec)
    have E := E.trans (ec.toB hs)
    have hs := Nat.le_trans hs ec.size
    simp only [Act.put, List.setIfInBounds_toArray, List.set_cons_zero, List.set_cons_succ]
    refine wpS_callm (some 138) { dst := some 138, op := Op.call { callee := Callee.value (Operand.func 20), args := #[Operand.tmp 137], argTypes := #[24] }, type := _, pos := _, after := _, guard := none } 20 _ rfl rfl (by rfl) (by go_simp; try with_reducible rfl) ?_ ?_
    rotate_right
    · skip
      refine wpS_alloc (some 15) { dst := some 15, op := Op.alloc 35, type := _, pos := _, after := _, guard := none } _ _ rfl rfl (by rfl) (by go_simp; try with_reducible rfl) ?_ ?_ trivial
      exact fun w' h => h.toB hs
      intro b11 wd hb ed K11
      have g11 : s9 ≤ b11 := by omega
      (try have n01 : b10 ≠ b11 := by (have := K10.lt; omega))
      clear hb
      (try replace K10 := K10.ext ed)
      have E := E.trans (ed.toB hs)
      have hs := Nat.le_trans hs ed.size
      simp only [Act.put, List.setIfInBounds_toArray, List.set_cons_zero, List.set_cons_succ]
      refine wpS_callm (some 138) { dst := some 138, op := Op.call { callee := Callee.value (Operand.func 20), args := #[Operand.tmp 137], argTypes := #[24] }, type := _, pos := _, after := _, guard := none } 20 _ rfl rfl (by rfl) (by go_simp; try with_reducible rfl) ?_ trivial
      refine (specDownCancel_any v A6 _ p6 wd).mono ?_
      rintro e wb ⟨rfl, eb⟩
      rw [← hx.out]
      refine ⟨_, rfl, eb.toB hs, ?_⟩
      (try replace K10 := K10.ext eb)
      (try replace K11 := K11.ext eb)
      have E := E.trans (eb.toB hs)
      have hs := Nat.le_trans hs eb.size
      simp only [Act.put, List.setIfInBounds_toArray, List.set_cons_zero, List.set_cons_succ]
      refine wpS_storeL none { dst := none, op := Op.store 35 (Operand.tmp 14) (Operand.tmp 136), type := _, pos := _, after := _, guard := none } rfl rfl (by rfl) (.tmp 14) (.tmp 136) 35 rfl rfl rfl rfl K10 rfl (Nat.le_refl 6) rfl (fun w' x => x.toB (fun k hk => by have hk : k = b10 := hk; omega) hs) ?_ trivial
      intro we Kn xe
      (have ee := xe.toB (B := s9) (fun k hk => by have hk : k = b10 := hk; omega) hs)
      replace K10 := Kn
      (try replace K11 := K11.extX xe n01.symm)
      have E := E.trans ee
      have hs := Nat.le_trans hs ee.size
      simp only [Act.put, List.setIfInBounds_toArray, List.set_cons_zero, List.set_cons_succ]
      refine wpS_store none { dst := none, op := Op.store 35 (Operand.tmp 15) (Operand.tmp 138), type := _, pos := _, after := _, guard := none } rfl rfl (by rfl) (.tmp 15) (.tmp 138) 35 rfl rfl rfl rfl K11 rfl (Nat.le_refl 6) rfl ?_
      intro wf Kn xf
      (have ef := xf.toB (B := s9) (fun k hk => by have hk : k = b11 := hk; omega) hs)
      replace K11 := Kn
      (try replace K10 := K10.extX xf n01)
      have E := E.trans ef
      have hs := Nat.le_trans hs ef.size
      simp only [Act.put, List.setIfInBounds_toArray, List.set_cons_zero, List.set_cons_succ]
      exact h.out b10 b11 _ _ _ _ _ (by have := hs9.out; omega) (by have := hs9.out; omega) K10 K11 (E.mono (Nat.le_of_eq hs9.out)).ext
    refine (specDownCancel_any v A6 _ p6 wc).mono ?_
    rintro e wb ⟨rfl, eb⟩
    rw [← hx.out]
    refine ⟨_, rfl, eb.toB hs, ?_⟩
    (try replace K10 := K10.ext eb)
    (try replace K11 := K11.ext eb)
    have E := E.trans (eb.toB hs)
    have hs := Nat.le_trans hs eb.size
    simp only [Act.put, List.setIfInBounds_toArray, List.set_cons_zero, List.set_cons_succ]
    refine wpS_alloc (some 15) { dst := some 15, op := Op.alloc 35, type := _, pos := _, after := _, guard := none } _ _ rfl rfl (by rfl) (by go_simp; try with_reducible rfl) ?_ ?_ trivial
    exact fun w' h => h.toB hs
    intro b11 wd hb ed K11
    have g11 : s9 ≤ b11 := by omega
    (try have n01 : b10 ≠ b11 := by (have := K10.lt; omega))
    clear hb
    (try replace K10 := K10.ext ed)
    have E := E.trans (ed.toB hs)
    have hs := Nat.le_trans hs ed.size
    simp only [Act.put, List.setIfInBounds_toArray, List.set_cons_zero, List.set_cons_succ]
    refine wpS_storeL none { dst := none, op := Op.store 35 (Operand.tmp 14) (Operand.tmp 136), type := _, pos := _, after := _, guard := none } rfl rfl (by rfl) (.tmp 14) (.tmp 136) 35 rfl rfl rfl rfl K10 rfl (Nat.le_refl 6) rfl (fun w' x => x.toB (fun k hk => by have hk : k = b10 := hk; omega) hs) ?_ trivial
    intro we Kn xe
    (have ee := xe.toB (B := s9) (fun k hk => by have hk : k = b10 := hk; omega) hs)
    replace K10 := Kn
    (try replace K11 := K11.extX xe n01.symm)
    have E := E.trans ee
    have hs := Nat.le_trans hs ee.size
    simp only [Act.put, List.setIfInBounds_toArray, List.set_cons_zero, List.set_cons_succ]
    refine wpS_store none { dst := none, op := Op.store 35 (Operand.tmp 15) (Operand.tmp 138), type := _, pos := _, after := _, guard := none } rfl rfl (by rfl) (.tmp 15) (.tmp 138) 35 rfl rfl rfl rfl K11 rfl (Nat.le_refl 6) rfl ?_
    intro wf Kn xf
    (have ef := xf.toB (B := s9) (fun k hk => by have hk : k = b11 := hk; omega) hs)
    replace K11 := Kn
    (try replace K10 := K10.extX xf n01)
    have E := E.trans ef
    have hs := Nat.le_trans hs ef.size
    simp only [Act.put, List.setIfInBounds_toArray, List.set_cons_zero, List.set_cons_succ]
    exact h.out b10 b11 _ _ _ _ _ (by have := hs9.out; omega) (by have := hs9.out; omega) K10 K11 (E.mono (Nat.le_of_eq hs9.out)).ext
  refine (specDownCancel_any v A6 _ p6 wa).mono ?_
  rintro e wb ⟨rfl, eb⟩
  rw [← hx.out]
  refine ⟨_, rfl, eb.toB hs, ?_⟩
  (try replace K10 := K10.ext eb)
  (try replace K11 := K11.ext eb)
  have E := E.trans (eb.toB hs)
  have hs := Nat.le_trans hs eb.size
  simp only [Act.put, List.setIfInBounds_toArray, List.set_cons_zero, List.set_cons_succ]
  refine wpS_alloc (some 14) { dst := some 14, op := Op.alloc 35, type := _, pos := _, after := _, guard := none } _ _ rfl rfl (by rfl) (by go_simp; try with_reducible rfl) ?_ ?_ ?_
  rotate_right
  · skip
    refine wpS_alloc (some 15) { dst := some 15, op := Op.alloc 35, type := _, pos := _, after := _, guard := none } _ _ rfl rfl (by rfl) (by go_simp; try with_reducible rfl) ?_ ?_ trivial
    exact fun w' h => h.toB hs
    intro b11 wd hb ed K11
    have g11 : s9 ≤ b11 := by omega
    (try have n01 : b10 ≠ b11 := by (have := K10.lt; omega))
    clear hb
    (try replace K10 := K10.ext ed)
    have E := E.trans (ed.toB hs)
    have hs := Nat.le_trans hs ed.size
    simp only [Act.put, List.setIfInBounds_toArray, List.set_cons_zero, List.set_cons_succ]
    refine wpS_alloc (some 14) { dst := some 14, op := Op.alloc 35, type := _, pos := _, after := _, guard := none } _ _ rfl rfl (by rfl) (by go_simp; try with_reducible rfl) ?_ ?_ trivial
    exact fun w' h => h.toB hs
    intro b10 wc hb ec K10
    have g10 : s9 ≤ b10 := by omega
    (try have n01 : b10 ≠ b11 := by (have := K11.lt; omega))
    clear hb
    (try replace K11 := K11.ext ec)
    have E := E.trans (ec.toB hs)
    have hs := Nat.le_trans hs ec.size
    simp only [Act.put, List.setIfInBounds_toArray, List.set_cons_zero, List.set_cons_succ]
    refine wpS_storeL none { dst := none, op := Op.store 35 (Operand.tmp 14) (Operand.tmp 136), type := _, pos := _, after := _, guard := none } rfl rfl (by rfl) (.tmp 14) (.tmp 136) 35 rfl rfl rfl rfl K10 rfl (Nat.le_refl 6) rfl (fun w' x => x.toB (fun k hk => by have hk : k = b10 := hk; omega) hs) ?_ trivial
    intro we Kn xe
    (have ee := xe.toB (B := s9) (fun k hk => by have hk : k = b10 := hk; omega) hs)
    replace K10 := Kn
    (try replace K11 := K11.extX xe n01.symm)
    have E := E.trans ee
    have hs := Nat.le_trans hs ee.size
    simp only [Act.put, List.setIfInBounds_toArray, List.set_cons_zero, List.set_cons_succ]
    refine wpS_store none { dst := none, op := Op.store 35 (Operand.tmp 15) (Operand.tmp 138), type := _, pos := _, after := _, guard := none } rfl rfl (by rfl) (.tmp 15) (.tmp 138) 35 rfl rfl rfl rfl K11 rfl (Nat.le_refl 6) rfl ?_
    intro wf Kn xf
    (have ef := xf.toB (B := s9) (fun k hk => by have hk : k = b11 := hk; omega) hs)
    replace K11 := Kn
    (try replace K10 := K10.extX xf n01)
    have E := E.trans ef
    have hs := Nat.le_trans hs ef.size
    simp only [Act.put, List.setIfInBounds_toArray, List.set_cons_zero, List.set_cons_succ]
    exact h.out b10 b11 _ _ _ _ _ (by have := hs9.out; omega) (by have := hs9.out; omega) K10 K11 (E.mono (Nat.le_of_eq hs9.out)).ext
  exact fun w' h => h.toB hs
  intro b10 wc hb ec K10
  have g10 : s9 ≤ b10 := by omega
  (try have n01 : b10 ≠ b11 := by (have := K11.lt; omega))
  clear hb
  (try replace K11 := K11.ext ec)
  have E := E.trans (ec.toB hs)
  have hs := Nat.le_trans hs ec.size
  simp only [Act.put, List.setIfInBounds_toArray, List.set_cons_zero, List.set_cons_succ]
  refine wpS_alloc (some 15) { dst := some 15, op := Op.alloc 35, type := _, pos := _, after := _, guard := none } _ _ rfl rfl (by rfl) (by go_simp; try with_reducible rfl) ?_ ?_ trivial
  exact fun w' h => h.toB hs
  intro b11 wd hb ed K11
  have g11 : s9 ≤ b11 := by omega
  (try have n01 : b10 ≠ b11 := by (have := K10.lt; omega))
  clear hb
  (try replace K10 := K10.ext ed)
  have E := E.trans (ed.toB hs)
  have hs := Nat.le_trans hs ed.size
  simp only [Act.put, List.setIfInBounds_toArray, List.set_cons_zero, List.set_cons_succ]
  refine wpS_storeL none { dst := none, op := Op.store 35 (Operand.tmp 14) (Operand.tmp 136), type := _, pos := _, after := _, guard := none } rfl rfl (by rfl) (.tmp 14) (.tmp 136) 35 rfl rfl rfl rfl K10 rfl (Nat.le_refl 6) rfl (fun w' x => x.toB (fun k hk => by have hk : k = b10 := hk; omega) hs) ?_ trivial
  intro we Kn xe
  (have ee := xe.toB (B := s9) (fun k hk => by have hk : k = b10 := hk; omega) hs)
  replace K10 := Kn
  (try replace K11 := K11.extX xe n01.symm)
  have E := E.trans ee
  have hs := Nat.le_trans hs ee.size
  simp only [Act.put, List.setIfInBounds_toArray, List.set_cons_zero, List.set_cons_succ]
  refine wpS_store none { dst := none, op := Op.store 35 (Operand.tmp 15) (Operand.tmp 138), type := _, pos := _, after := _, guard := none } rfl rfl (by rfl) (.tmp 15) (.tmp 138) 35 rfl rfl rfl rfl K11 rfl (Nat.le_refl 6) rfl ?_
  intro wf Kn xf
  (have ef := xf.toB (B := s9) (fun k hk => by have hk : k = b11 := hk; omega) hs)
  replace K11 := Kn
  (try replace K10 := K10.extX xf n01)
  have E := E.trans ef
  have hs := Nat.le_trans hs ef.size
  simp only [Act.put, List.setIfInBounds_toArray, List.set_cons_zero, List.set_cons_succ]
  exact h.out b10 b11 _ _ _ _ _ (by have := hs9.out; omega) (by have := hs9.out; omega) K10 K11 (E.mono (Nat.le_of_eq hs9.out)).ext

end Go.Proofs.YtdokcengcekfgaaGreatDoor
