/-
  FnValidChange: for every two versions the code's IsValidClusterVersionChange answers as its reference, and lets 3.5 go to 3.7. No condition.
-/
import Derived.Test.YtogojpckjamkjaaVc
namespace Go.Proofs.Ytogojpckjamkjaa
open Go.ChangeShapes Go.WideShapes Go.ChangeAt Go.RowKit
set_option linter.unusedSimpArgs false

noncomputable def ops_3_3 : Array Oper := opsAt Try.f3 3
set_option maxHeartbeats 1000000 in
theorem walk_FnValidChange (a b c a' b' c' : Int) (w : World) :
    Calls Try.prog 3 #[vv a b c, vv a' b' c'] w fun e w' => e = .returned (.bool true) ∧ Ext w w' := by
  cases h1 : vnum a b c with
  | false =>
    go_enter Try.func3, Try.ntmps3
    go_wp2_with (go_at_call 5; refine (verNumbers_no _ _ _ _ h1).mono ?_; rintro e w1 ⟨rfl, e1⟩)
    go_ret
    exact ⟨rfl, (((Ext.refl _).alloc _).alloc _).trans e1⟩
  | true =>
    cases h2 : vnum a' b' c' with
    | false =>
      go_enter Try.func3, Try.ntmps3
      go_wp2_with (first | (go_at_call 5; (with_reducible refine (verNumbers_yes a b c _ h1).mono ?_); rintro e w1 ⟨rfl, e1⟩; obtain ⟨r1, r2⟩ := e1.rules; have z1 := e1.size; simp only [World.size_alloc] at z1) | (go_at_call 5; (with_reducible refine (verNumbers_no a' b' c' _ h2).mono ?_); rintro e w2 ⟨rfl, e2⟩))
      go_ret
      exact ⟨rfl, ((((Ext.refl _).alloc _).alloc _).trans e1).trans e2⟩
    | true =>
      go_enter Try.func3, Try.ntmps3
      go_wp2_with (first | (go_at_call 5; (with_reducible refine (verNumbers_yes a b c _ h1).mono ?_); rintro e w1 ⟨rfl, e1⟩; obtain ⟨r1, r2⟩ := e1.rules; have z1 := e1.size; simp only [World.size_alloc] at z1) | (go_at_call 5; (with_reducible refine (verNumbers_yes a' b' c' _ h2).mono ?_); rintro e w2 ⟨rfl, e2⟩))
      have e12 : Ext w w2 := ((((Ext.refl _).alloc _).alloc _).trans e1).trans e2
      have e0 : Ext ((w.alloc (Obj.cells #[Value.int IntKind.i64 a, Value.int IntKind.i64 b, Value.int IntKind.i64 c] 23)).alloc
        (Obj.cells #[Value.int IntKind.i64 a', Value.int IntKind.i64 b', Value.int IntKind.i64 c'] 23)) w2 := e1.trans e2
      have p1 : V3 w2 w.heap.size 0 a b c := V3.ext (w := (w.alloc _).alloc _) ⟨by simp [go_sem], by simp [go_sem], by simp [go_sem]⟩ e0
      have q1 : V3 w2 (w.heap.size + 1) 0 a' b' c' := V3.ext (w := (w.alloc _).alloc _) ⟨by simp [go_sem], by simp [go_sem], by simp [go_sem]⟩ e0
      clear r1 r2 z1 e0 e1 e2
      obtain ⟨c0, c1, c2⟩ := id p1
      obtain ⟨d0, d1, d2⟩ := id q1
      refine wp_region_sched (ops := ops_3_3) Ext (.quiet 0 (.quiet 1 (.quiet 3 (.quiet 4 (.loud 2 (.loud 5 (.quiet 6 (.quiet 7 (.quiet 8 (.quiet 9 (.loud 10 (.quiet 11 (.quiet 12 (.done))) (.stop)))))) (.stop)) (.stop)))))) (by kernel_rfl) ext_refl ext_trans (by kernel_rfl) (fun _ _ d _ _ h => by cases d <;> exact h) ?_
      refine wpS_quiet (some 13) { dst := some 13, op := Op.load 23 (Operand.tmp 2), type := _, pos := _, after := _, guard := none } _ rfl rfl (by rfl) (fun wE hE => by (have k0 := hE.cellS c0; have k1 := hE.cellS c1; have k2 := hE.cellS c2; have k3 := hE.cellS d0; have k4 := hE.cellS d1; have k5 := hE.cellS d2; go_simp; try with_reducible rfl)) ?_; simp only [Act.put, List.setIfInBounds_toArray, List.set_cons_zero, List.set_cons_succ]
      refine wpS_quiet (some 14) { dst := some 14, op := Op.load 23 (Operand.tmp 3), type := _, pos := _, after := _, guard := none } _ rfl rfl (by rfl) (fun wE hE => by (have k0 := hE.cellS c0; have k1 := hE.cellS c1; have k2 := hE.cellS c2; have k3 := hE.cellS d0; have k4 := hE.cellS d1; have k5 := hE.cellS d2; go_simp; try with_reducible rfl)) ?_; simp only [Act.put, List.setIfInBounds_toArray, List.set_cons_zero, List.set_cons_succ]
      refine wpS_quiet (some 16) { dst := some 16, op := Op.load 23 (Operand.tmp 2), type := _, pos := _, after := _, guard := none } _ rfl rfl (by rfl) (fun wE hE => by (have k0 := hE.cellS c0; have k1 := hE.cellS c1; have k2 := hE.cellS c2; have k3 := hE.cellS d0; have k4 := hE.cellS d1; have k5 := hE.cellS d2; go_simp; try with_reducible rfl)) ?_; simp only [Act.put, List.setIfInBounds_toArray, List.set_cons_zero, List.set_cons_succ]
      refine wpS_quiet (some 17) { dst := some 17, op := Op.load 23 (Operand.tmp 3), type := _, pos := _, after := _, guard := none } _ rfl rfl (by rfl) (fun wE hE => by (have k0 := hE.cellS c0; have k1 := hE.cellS c1; have k2 := hE.cellS c2; have k3 := hE.cellS d0; have k4 := hE.cellS d1; have k5 := hE.cellS d2; go_simp; try with_reducible rfl)) ?_; simp only [Act.put, List.setIfInBounds_toArray, List.set_cons_zero, List.set_cons_succ]
      refine wpS_call (some 15) { dst := some 15, op := Op.call { callee := Callee.value (Operand.func 6), args := #[Operand.tmp 13, Operand.tmp 14], argTypes := #[23, 23] }, type := _, pos := _, after := _, guard := none } 6 _ rfl rfl (by rfl) (by go_simp; try with_reducible rfl) ?_
      refine (implChange_any _ _ _ _ _ _ _).mono ?_; rintro e w3 ⟨rfl, e3⟩; refine ⟨_, rfl, e3, ?_⟩; simp only [Act.put, List.setIfInBounds_toArray, List.set_cons_zero, List.set_cons_succ]
      refine wpS_call (some 18) { dst := some 18, op := Op.call { callee := Callee.value (Operand.func 7), args := #[Operand.tmp 16, Operand.tmp 17], argTypes := #[23, 23] }, type := _, pos := _, after := _, guard := none } 7 _ rfl rfl (by rfl) (by go_simp; try with_reducible rfl) ?_
      refine (specChange_any _ _ _ _ _ _ _).mono ?_; rintro e w4 ⟨rfl, e4⟩; refine ⟨_, rfl, e4, ?_⟩; simp only [Act.put, List.setIfInBounds_toArray, List.set_cons_zero, List.set_cons_succ]
      refine wpS_quiet (some 19) { dst := some 19, op := Op.binOp BinOp.eql 4 (Operand.tmp 15) (Operand.tmp 18) 4, type := _, pos := _, after := _, guard := none } _ rfl rfl (by rfl) (fun wE hE => by (go_simp; try with_reducible rfl)) ?_; simp only [Act.put, List.setIfInBounds_toArray, List.set_cons_zero, List.set_cons_succ]
      refine wpS_quiet (some 20) { dst := some 20, op := Op.move (Operand.tmp 19), type := _, pos := _, after := _, guard := none } _ rfl rfl (by rfl) (fun wE hE => by (go_simp; try with_reducible rfl)) ?_; simp only [Act.put, List.setIfInBounds_toArray, List.set_cons_zero, List.set_cons_succ]
      (first | refine wpS_quiet (some 21) { dst := some 21, op := Op.build 23 #[(0, Operand.const (Value.int IntKind.i64 3)), (1, Operand.const (Value.int IntKind.i64 5))], type := _, pos := _, after := _, guard := some (7, true) } _ rfl rfl (by rfl) (fun wE hE => by (go_simp; try with_reducible rfl)) ?_ | refine wpS_pass (some 21) _ rfl rfl (by rfl) ?_); simp only [Act.put, List.setIfInBounds_toArray, List.set_cons_zero, List.set_cons_succ]
      (first | refine wpS_quiet (some 22) { dst := some 22, op := Op.build 23 #[(0, Operand.const (Value.int IntKind.i64 3)), (1, Operand.const (Value.int IntKind.i64 7))], type := _, pos := _, after := _, guard := some (7, true) } _ rfl rfl (by rfl) (fun wE hE => by (go_simp; try with_reducible rfl)) ?_ | refine wpS_pass (some 22) _ rfl rfl (by rfl) ?_); simp only [Act.put, List.setIfInBounds_toArray, List.set_cons_zero, List.set_cons_succ]
      refine wpS_call (some 23) { dst := some 23, op := Op.call { callee := Callee.value (Operand.func 6), args := #[Operand.tmp 21, Operand.tmp 22], argTypes := #[23, 23] }, type := _, pos := _, after := _, guard := some (7, true) } 6 _ rfl rfl (by rfl) (by go_simp; try with_reducible rfl) ?_
      refine (implChange_any _ _ _ _ _ _ _).mono ?_; rintro e w5 ⟨rfl, e5⟩; rw [show vchange 3 5 3 7 = true by simp [vchange, vdown, veq, vless]]; refine ⟨_, rfl, e5, ?_⟩; simp only [Act.put, List.setIfInBounds_toArray, List.set_cons_zero, List.set_cons_succ]
      refine wpS_quiet (some 24) { dst := some 24, op := Op.pick (Operand.tmp 20) (Operand.tmp 23) (Operand.const (Value.bool false)), type := _, pos := _, after := _, guard := none } _ rfl rfl (by rfl) (fun wE hE => by (go_simp; try with_reducible rfl)) ?_; simp only [Act.put, List.setIfInBounds_toArray, List.set_cons_zero, List.set_cons_succ]
      refine wpS_quiet (some 4) { dst := some 4, op := Op.assign (Operand.tmp 24), type := _, pos := _, after := _, guard := none } _ rfl rfl (by rfl) (fun wE hE => by (go_simp; try with_reducible rfl)) ?_; simp only [Act.put, List.setIfInBounds_toArray, List.set_cons_zero, List.set_cons_succ]
      change Exit.then _ _ _ _ _
      go_wp2
      go_ret
      exact ⟨rfl, (e12.trans e3.undrew).trans (e4.trans e5)⟩

theorem own : ownKnob Try.prog.godebug = none := by kernel_rfl
theorem laidOut : laidOutB Try.prog = true := by kernel_rfl
theorem kVer_opens : Opens Try.prog 23 ((Rp.int .i64).pair ((Rp.int .i64).pair (Rp.int .i64))) :=
  Opens.struct Try.underlying23 (by kernel_rfl) (OpensF.cons rfl (by kernel_rfl) (Opens.int Try.underlying2) (OpensF.cons rfl (by kernel_rfl) (Opens.int Try.underlying2) (OpensF.one rfl (by kernel_rfl) (Opens.int Try.underlying2))))
theorem ver_arg {H : Type} {enc : TypeId × Value → H} {W : World} {base : Nat} {v : Value} {d : DataW H} {p : List MemPlace} (hv : Value.okWide Try.prog W .any base 23 v)
    (h : DataW.Trod enc Try.prog W 0 (fun _ => true) true 23 v d p) : ∃ a b c, v = vv a b c := by
  obtain ⟨cs, rfl, hsz⟩ := okWide_struct Try.underlying23 hv
  obtain ⟨fuel, hf⟩ := h
  obtain ⟨⟨a, b, c⟩, c1, c2, hcs, ⟨rfl, _⟩, c3, c4, rfl, ⟨rfl, _⟩, ⟨rfl, _⟩⟩ := kVer_opens enc W 0 _ true fuel _ _ hf
  refine ⟨a, b, c, ?_⟩
  have : cs.toList = [.int .i64 a, .int .i64 b, .int .i64 c] := by simpa [Value.cells] using hcs
  rw [show cs = #[.int .i64 a, .int .i64 b, .int .i64 c] from by rw [← Array.toArray_toList (xs := cs), this]]

set_option maxRecDepth 100000 in
theorem FnValidChange_holds : Rows.FnValidChangeSaid :=
  OpenClaim.holds_of_wide 3 Try.f3 rfl rfl rfl rfl rfl rfl rfl ⟨rfl, rfl, rfl, rfl, rfl⟩ rfl rfl rfl rfl rfl (by kernel_rfl) Try.func3 (by kernel_rfl)
    (of_decide_eq_true (by kernel_rfl)) (by unfold Func.isWrapper; first | (rw [if_pos (by decide +kernel)]; kernel_rfl) | (rw [if_neg (by decide +kernel)]; exact ⟨rfl, rfl⟩))
    (fun os started H enc _ => law_lifted 3 Try.f3 Rows.fnValidChangeSpec 4 Try.func3 (by kernel_rfl) rfl
      (fun H ds h => by match ds, h with | [a, b], _ => rfl) (by kernel_rfl) Try.underlying4 laidOut (by decide +kernel) own os started H enc
      (ChangeSpec.witness6 (enc := enc) (C := Try.checked) false ⟨#[], #[vv 0 0 0, vv 0 0 0], []⟩ 8 (by kernel_rfl) (by kernel_rfl) (by kernel_rfl) (by kernel_rfl))
      (fun W base args ds p hval hA _ => by
        rw [Try.params3] at hA hval
        obtain ⟨v0, vs0, d0, ds0, p0, q0, hargs, rfl, rfl, h0, r0⟩ := trodAll_cons hA
        obtain ⟨v1, vs1, d1, ds1, p1, q1, rfl, rfl, rfl, h1, r1⟩ := trodAll_cons r0
        obtain ⟨rfl, rfl, rfl⟩ := trodAll_nil r1
        obtain rfl : args = #[v0, v1] := by cases args; simp_all
        obtain ⟨a, b, c, rfl⟩ := ver_arg (hval 0 _ v0 rfl rfl) h0
        obtain ⟨a', b', c', rfl⟩ := ver_arg (hval 1 _ v1 rfl rfl) h1
        exact walk_FnValidChange a b c a' b' c' W))
#print axioms FnValidChange_holds
end Go.Proofs.Ytogojpckjamkjaa
