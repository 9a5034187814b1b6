/-
  Versions of three numbers: what the functions on them answer (package version, package semver, their reference).
-/
import Derived.Test.YtdokcengcekfgaaGreatDoorReg
namespace Go.Proofs.YtdokcengcekfgaaGreatDoor
open Go.RowKit

/-- three int64 cells at (x, y) -/
def V3 (w : World) (x y : Nat) (a b c : Int) : Prop :=
  w.cell? ⟨x, y, none⟩ = some (.int .i64 a) ∧ w.cell? ⟨x, y + 1, none⟩ = some (.int .i64 b) ∧ w.cell? ⟨x, y + 2, none⟩ = some (.int .i64 c)
theorem V3.ext {w w' : World} {x y : Nat} {a b c : Int} (h : V3 w x y a b c) (e : Ext w w') : V3 w' x y a b c :=
  ⟨e.cellS h.1, e.cellS h.2.1, e.cellS h.2.2⟩
/-- a version made new -/
def NewV (w : World) (a b c : Int) (e : Ending) (w' : World) : Prop :=
  ∃ x, e = .returned (.pointer (some ⟨x, 0, none⟩)) ∧ w.heap.size ≤ x ∧ V3 w' x 0 a b c ∧ Ext w w'
/-- a version as a value -/
abbrev vv (a b c : Int) : Value := .agg #[.int .i64 a, .int .i64 b, .int .i64 c]
/-- one version is less than another one -/
def vless (a b c a' b' c' : Int) : Bool := if a = a' then (if b = b' then decide (c < c') else decide (b < b')) else decide (a < a')
def veq (a b c a' b' c' : Int) : Bool := a == a' && (b == b' && c == c')
/-- a valid downgrade, of verFrom to verTo -/
def vdown (a b a' b' c' : Int) : Bool := veq a' b' c' a (wrap64 (b - 1)) 0
def vchange (a b a' b' : Int) : Bool := vdown a b a' b' 0 || (a == a' && vless a b 0 a' b' 0)

theorem verIn_any (a b c : Int) (w : World) :
    Calls Tryz.prog 39 #[vv a b c] w fun e w' => e = .returned (vv a b c) ∧ Ext w w' := by
  go_enter Tryz.func39, Tryz.ntmps39
  go_wp2
  refine bodyPost_ret (v := vv a b c) (by simp [results, Tryz.results39, go_sem]) rfl ⟨rfl, ?_⟩
  exact ((Ext.refl _).alloc _).alloc _

theorem equal_any (a b c a' b' c' : Int) (w : World) :
    Calls Tryz.prog 55 #[vv a b c, vv a' b' c'] w fun e w' => e = .returned (.bool (veq a b c a' b' c')) ∧ Ext w w' := by
  go_enter Tryz.func55, Tryz.ntmps55
  go_wp2
  all_goals
    go_ret
    refine ⟨by simp [veq, *], ?_⟩
    exact ((Ext.refl _).alloc _).alloc _

theorem less_any (a b c a' b' c' : Int) (w : World) :
    Calls Tryz.prog 57 #[vv a b c, vv a' b' c'] w fun e w' => e = .returned (.bool (vless a b c a' b' c')) ∧ Ext w w' := by
  by_cases h1 : a = a' <;> by_cases h2 : b = b'
  all_goals
    go_enter Tryz.func57, Tryz.ntmps57
    go_wp2
    go_ret
    refine ⟨by simp [vless, *], ?_⟩
    exact ((Ext.refl _).alloc _).alloc _

theorem allowed_any (x y : Nat) (a b c : Int) (w : World) (hp : V3 w x y a b c) :
    Calls Tryz.prog 61 #[.pointer (some ⟨x, y, none⟩)] w (NewV w a (wrap64 (b - 1)) 0) := by
  obtain ⟨h0, h1, h2⟩ := hp
  go_enter Tryz.func61, Tryz.ntmps61
  go_wp2
  go_region
  go_wp2
  go_ret
  exact ⟨w.heap.size, rfl, Nat.le_refl _, ⟨by simp [go_sem], by simp [go_sem], by simp [go_sem]⟩, ((Ext.refl _).alloc _).drew⟩

theorem isValid_any (x y x' y' : Nat) (a b c a' b' c' : Int) (w : World) (hp : V3 w x y a b c) (hq : V3 w x' y' a' b' c') :
    Calls Tryz.prog 56 #[.pointer (some ⟨x, y, none⟩), .pointer (some ⟨x', y', none⟩)] w fun e w' => e = .returned (.bool (vdown a b a' b' c')) ∧ Ext w w' := by
  obtain ⟨h0', h1', h2'⟩ := id hq
  go_enter Tryz.func56, Tryz.ntmps56
  go_wp2
  go_region_with (first | (go_at_call 61; refine (allowed_any x y a b c _ ?_).mono ?_; (exact hp); rintro e w1 ⟨z, rfl, hz, hv, hb⟩; obtain ⟨i0, i1, i2⟩ := hq.ext hb; obtain ⟨g0, g1, g2⟩ := id hv) | (go_at_call 55; refine (equal_any _ _ _ _ _ _ _).mono ?_; rintro e w2 ⟨rfl, hb2⟩))
  all_goals
    go_wp2
    go_ret
    exact ⟨rfl, Ext.trans (Ext.undrew hb) hb2⟩

noncomputable def ops_58_3 : Array Oper := opsAt Tryz.f58 3
set_option maxHeartbeats 1000000 in
theorem change_any (x y x' y' : Nat) (a b c a' b' c' : Int) (w : World) (hp : V3 w x y a b c) (hq : V3 w x' y' a' b' c') :
    Calls Tryz.prog 58 #[.pointer (some ⟨x, y, none⟩), .pointer (some ⟨x', y', none⟩)] w fun e w' => e = .returned (.bool (vchange a b a' b')) ∧ Ext w w' := by
  obtain ⟨h0, h1, h2⟩ := id hp
  obtain ⟨h0', h1', h2'⟩ := id hq
  have n1 : x' < w.heap.size := cell_lt h0'
  go_enter Tryz.func58, Tryz.ntmps58
  go_wp2
  go_region
  go_wp2
  go_region
  go_wp2
  obtain ⟨w1, hw1⟩ : ∃ u : World, u = ((w.alloc (Obj.cells #[Value.int IntKind.i64 a, Value.int IntKind.i64 b, Value.int IntKind.i64 0] 60)).alloc
      (Obj.cells #[Value.int IntKind.i64 a', Value.int IntKind.i64 b', Value.int IntKind.i64 0] 60)).drew.drew := ⟨_, rfl⟩
  have e1 : Ext w w1 := by rw [hw1]; exact (((Ext.refl _).alloc _).alloc _).drew.drew
  have p1 : V3 w1 w.heap.size 0 a b 0 := by rw [hw1]; exact ⟨by simp [go_sem], by simp [go_sem], by simp [go_sem]⟩
  have q1 : V3 w1 (w.heap.size + 1) 0 a' b' 0 := by rw [hw1]; exact ⟨by simp [go_sem], by simp [go_sem], by simp [go_sem]⟩
  rw [← hw1]
  clear hw1
  generalize w.heap.size = s at *
  obtain ⟨c0, c1, c2⟩ := id p1
  obtain ⟨d0, d1, d2⟩ := id q1
  by_cases hd : vdown a b a' b' 0 = true
  · refine wp_region_sched (ops := ops_58_3) Ext [] (.quiet 0 (.quiet 1 (.loud 2 (.quiet 3 (.quiet 4 (.quiet 5 (.quiet 6 (.quiet 7 (.quiet 8 (.quiet 9 (.quiet 10 (.quiet 11 (.quiet 12 (.quiet 13 (.quiet 14 (.quiet 15 (.quiet 16 (.quiet 17 (.quiet 18 (.quiet 19 (.loud 20 (.quiet 21 (.quiet 22 (.done))) (.stop))))))))))))))))))) (.stop)))) (by kernel_rfl) ext_refl ext_trans (by kernel_rfl) (fun _ _ d _ _ h => by cases d <;> exact h) ?_
    refine wpS_quiet (some 25) { dst := some 25, op := Op.move (Operand.tmp 0), type := _, pos := _, after := _, guard := none } _ rfl rfl (by rfl) (fun wE hE => by (go_simp; try with_reducible rfl)) ?_; simp only [Act.put, List.setIfInBounds_toArray, List.set_cons_zero, List.set_cons_succ]
    refine wpS_quiet (some 26) { dst := some 26, op := Op.move (Operand.tmp 1), type := _, pos := _, after := _, guard := none } _ rfl rfl (by rfl) (fun wE hE => by (go_simp; try with_reducible rfl)) ?_; simp only [Act.put, List.setIfInBounds_toArray, List.set_cons_zero, List.set_cons_succ]
    refine wpS_call (some 27) { dst := some 27, op := Op.call { callee := Callee.value (Operand.func 56), args := #[Operand.tmp 25, Operand.tmp 26], argTypes := #[68, 68] }, type := _, pos := _, after := _, guard := none } 56 _ rfl rfl (by rfl) (by go_simp; try first | with_reducible rfl | exact ⟨rfl, rfl⟩) ?_
    refine (isValid_any s 0 (s + 1) 0 a b 0 a' b' 0 _ ?_ ?_).mono ?_; (exact p1); (exact q1); rintro e w2 ⟨rfl, hb⟩; rw [hd]; refine ⟨_, rfl, hb, ?_⟩; simp only [Act.put, List.setIfInBounds_toArray, List.set_cons_zero, List.set_cons_succ]
    refine wpS_quiet (some 28) { dst := some 28, op := Op.move (Operand.tmp 27), type := _, pos := _, after := _, guard := none } _ rfl rfl (by rfl) (fun wE hE => by (go_simp; try with_reducible rfl)) ?_; simp only [Act.put, List.setIfInBounds_toArray, List.set_cons_zero, List.set_cons_succ]
    (first | refine wpS_quiet (some 29) { dst := some 29, op := Op.move (Operand.tmp 0), type := _, pos := _, after := _, guard := some (3, false) } _ rfl rfl (by rfl) (fun wE hE => by (go_simp; try with_reducible rfl)) ?_ | refine wpS_pass (some 29) _ rfl rfl (by rfl) ?_); simp only [Act.put, List.setIfInBounds_toArray, List.set_cons_zero, List.set_cons_succ]
    (first | refine wpS_quiet (some 30) { dst := some 30, op := Op.nilCheck (Operand.tmp 29), type := _, pos := _, after := _, guard := some (3, false) } _ rfl rfl (by rfl) (fun wE hE => by (go_simp; try with_reducible rfl)) ?_ | refine wpS_pass (some 30) _ rfl rfl (by rfl) ?_); simp only [Act.put, List.setIfInBounds_toArray, List.set_cons_zero, List.set_cons_succ]
    (first | refine wpS_quiet (some 31) { dst := some 31, op := Op.fieldAddr 60 (Operand.tmp 30) 0, type := _, pos := _, after := _, guard := some (3, false) } _ rfl rfl (by rfl) (fun wE hE => by (go_simp; try with_reducible rfl)) ?_ | refine wpS_pass (some 31) _ rfl rfl (by rfl) ?_); simp only [Act.put, List.setIfInBounds_toArray, List.set_cons_zero, List.set_cons_succ]
    (first | refine wpS_quiet (some 32) { dst := some 32, op := Op.load 2 (Operand.tmp 31), type := _, pos := _, after := _, guard := some (3, false) } _ rfl rfl (by rfl) (fun wE hE => by (go_simp; try with_reducible rfl)) ?_ | refine wpS_pass (some 32) _ rfl rfl (by rfl) ?_); simp only [Act.put, List.setIfInBounds_toArray, List.set_cons_zero, List.set_cons_succ]
    (first | refine wpS_quiet (some 33) { dst := some 33, op := Op.move (Operand.tmp 1), type := _, pos := _, after := _, guard := some (3, false) } _ rfl rfl (by rfl) (fun wE hE => by (go_simp; try with_reducible rfl)) ?_ | refine wpS_pass (some 33) _ rfl rfl (by rfl) ?_); simp only [Act.put, List.setIfInBounds_toArray, List.set_cons_zero, List.set_cons_succ]
    (first | refine wpS_quiet (some 34) { dst := some 34, op := Op.nilCheck (Operand.tmp 33), type := _, pos := _, after := _, guard := some (3, false) } _ rfl rfl (by rfl) (fun wE hE => by (go_simp; try with_reducible rfl)) ?_ | refine wpS_pass (some 34) _ rfl rfl (by rfl) ?_); simp only [Act.put, List.setIfInBounds_toArray, List.set_cons_zero, List.set_cons_succ]
    (first | refine wpS_quiet (some 35) { dst := some 35, op := Op.fieldAddr 60 (Operand.tmp 34) 0, type := _, pos := _, after := _, guard := some (3, false) } _ rfl rfl (by rfl) (fun wE hE => by (go_simp; try with_reducible rfl)) ?_ | refine wpS_pass (some 35) _ rfl rfl (by rfl) ?_); simp only [Act.put, List.setIfInBounds_toArray, List.set_cons_zero, List.set_cons_succ]
    (first | refine wpS_quiet (some 36) { dst := some 36, op := Op.load 2 (Operand.tmp 35), type := _, pos := _, after := _, guard := some (3, false) } _ rfl rfl (by rfl) (fun wE hE => by (go_simp; try with_reducible rfl)) ?_ | refine wpS_pass (some 36) _ rfl rfl (by rfl) ?_); simp only [Act.put, List.setIfInBounds_toArray, List.set_cons_zero, List.set_cons_succ]
    (first | refine wpS_quiet (some 37) { dst := some 37, op := Op.binOp BinOp.eql 2 (Operand.tmp 32) (Operand.tmp 36) 2, type := _, pos := _, after := _, guard := some (3, false) } _ rfl rfl (by rfl) (fun wE hE => by (go_simp; try with_reducible rfl)) ?_ | refine wpS_pass (some 37) _ rfl rfl (by rfl) ?_); simp only [Act.put, List.setIfInBounds_toArray, List.set_cons_zero, List.set_cons_succ]
    (first | refine wpS_quiet (some 38) { dst := some 38, op := Op.move (Operand.tmp 37), type := _, pos := _, after := _, guard := some (3, false) } _ rfl rfl (by rfl) (fun wE hE => by (go_simp; try with_reducible rfl)) ?_ | refine wpS_pass (some 38) _ rfl rfl (by rfl) ?_); simp only [Act.put, List.setIfInBounds_toArray, List.set_cons_zero, List.set_cons_succ]
    (first | refine wpS_quiet (some 39) { dst := some 39, op := Op.move (Operand.tmp 0), type := _, pos := _, after := _, guard := some (13, true) } _ rfl rfl (by rfl) (fun wE hE => by (go_simp; try with_reducible rfl)) ?_ | refine wpS_pass (some 39) _ rfl rfl (by rfl) ?_); simp only [Act.put, List.setIfInBounds_toArray, List.set_cons_zero, List.set_cons_succ]
    (first | refine wpS_quiet (some 40) { dst := some 40, op := Op.nilCheck (Operand.tmp 39), type := _, pos := _, after := _, guard := some (13, true) } _ rfl rfl (by rfl) (fun wE hE => by (go_simp; try with_reducible rfl)) ?_ | refine wpS_pass (some 40) _ rfl rfl (by rfl) ?_); simp only [Act.put, List.setIfInBounds_toArray, List.set_cons_zero, List.set_cons_succ]
    (first | refine wpS_quiet (some 41) { dst := some 41, op := Op.load 60 (Operand.tmp 40), type := _, pos := _, after := _, guard := some (13, true) } _ rfl rfl (by rfl) (fun wE hE => by (go_simp; try with_reducible rfl)) ?_ | refine wpS_pass (some 41) _ rfl rfl (by rfl) ?_); simp only [Act.put, List.setIfInBounds_toArray, List.set_cons_zero, List.set_cons_succ]
    (first | refine wpS_quiet (some 42) { dst := some 42, op := Op.move (Operand.tmp 1), type := _, pos := _, after := _, guard := some (13, true) } _ rfl rfl (by rfl) (fun wE hE => by (go_simp; try with_reducible rfl)) ?_ | refine wpS_pass (some 42) _ rfl rfl (by rfl) ?_); simp only [Act.put, List.setIfInBounds_toArray, List.set_cons_zero, List.set_cons_succ]
    (first | refine wpS_quiet (some 43) { dst := some 43, op := Op.nilCheck (Operand.tmp 42), type := _, pos := _, after := _, guard := some (13, true) } _ rfl rfl (by rfl) (fun wE hE => by (go_simp; try with_reducible rfl)) ?_ | refine wpS_pass (some 43) _ rfl rfl (by rfl) ?_); simp only [Act.put, List.setIfInBounds_toArray, List.set_cons_zero, List.set_cons_succ]
    (first | refine wpS_quiet (some 44) { dst := some 44, op := Op.load 60 (Operand.tmp 43), type := _, pos := _, after := _, guard := some (13, true) } _ rfl rfl (by rfl) (fun wE hE => by (go_simp; try with_reducible rfl)) ?_ | refine wpS_pass (some 44) _ rfl rfl (by rfl) ?_); simp only [Act.put, List.setIfInBounds_toArray, List.set_cons_zero, List.set_cons_succ]
    refine wpS_loud_pass (ext_refl _) (some 45) _ rfl rfl (by rfl) ?_; simp only [Act.put, List.setIfInBounds_toArray, List.set_cons_zero, List.set_cons_succ]
    (first | refine wpS_quiet (some 46) { dst := some 46, op := Op.pick (Operand.tmp 38) (Operand.tmp 45) (Operand.const (Value.bool false)), type := _, pos := _, after := _, guard := some (3, false) } _ rfl rfl (by rfl) (fun wE hE => by (go_simp; try with_reducible rfl)) ?_ | refine wpS_pass (some 46) _ rfl rfl (by rfl) ?_); simp only [Act.put, List.setIfInBounds_toArray, List.set_cons_zero, List.set_cons_succ]
    refine wpS_quiet (some 47) { dst := some 47, op := Op.pick (Operand.tmp 28) (Operand.const (Value.bool true)) (Operand.tmp 46), type := _, pos := _, after := _, guard := none } _ rfl rfl (by rfl) (fun wE hE => by (go_simp; try with_reducible rfl)) ?_; simp only [Act.put, List.setIfInBounds_toArray, List.set_cons_zero, List.set_cons_succ]
    change Exit.then _ _ _ _ _
    go_wp2
    go_ret
    exact ⟨by simp [vchange, hd], (e1.trans hb.undrew)⟩
  · have hd' : vdown a b a' b' 0 = false := by simpa using hd
    by_cases ha : a = a'
    · subst ha
      have hab : (a == a) = true := by simp
      refine wp_region_sched (ops := ops_58_3) Ext [] (.quiet 0 (.quiet 1 (.loud 2 (.quiet 3 (.quiet 4 (.quiet 5 (.quiet 6 (.quiet 7 (.quiet 8 (.quiet 9 (.quiet 10 (.quiet 11 (.quiet 12 (.quiet 13 (.quiet 14 (.quiet 15 (.quiet 16 (.quiet 17 (.quiet 18 (.quiet 19 (.loud 20 (.quiet 21 (.quiet 22 (.done))) (.stop))))))))))))))))))) (.stop)))) (by kernel_rfl) ext_refl ext_trans (by kernel_rfl) (fun _ _ d _ _ h => by cases d <;> exact h) ?_
      refine wpS_quiet (some 25) { dst := some 25, op := Op.move (Operand.tmp 0), type := _, pos := _, after := _, guard := none } _ rfl rfl (by rfl) (fun wE hE => by (go_simp; try with_reducible rfl)) ?_; simp only [Act.put, List.setIfInBounds_toArray, List.set_cons_zero, List.set_cons_succ]
      refine wpS_quiet (some 26) { dst := some 26, op := Op.move (Operand.tmp 1), type := _, pos := _, after := _, guard := none } _ rfl rfl (by rfl) (fun wE hE => by (go_simp; try with_reducible rfl)) ?_; simp only [Act.put, List.setIfInBounds_toArray, List.set_cons_zero, List.set_cons_succ]
      refine wpS_call (some 27) { dst := some 27, op := Op.call { callee := Callee.value (Operand.func 56), args := #[Operand.tmp 25, Operand.tmp 26], argTypes := #[68, 68] }, type := _, pos := _, after := _, guard := none } 56 _ rfl rfl (by rfl) (by go_simp; try first | with_reducible rfl | exact ⟨rfl, rfl⟩) ?_
      refine (isValid_any s 0 (s + 1) 0 a b 0 a b' 0 _ ?_ ?_).mono ?_; (exact p1); (exact q1); rintro e w2 ⟨rfl, hb⟩; rw [hd']; refine ⟨_, rfl, hb, ?_⟩; simp only [Act.put, List.setIfInBounds_toArray, List.set_cons_zero, List.set_cons_succ]
      have c0' := hb.cellS c0; have c1' := hb.cellS c1; have c2' := hb.cellS c2; have d0' := hb.cellS d0; have d1' := hb.cellS d1; have d2' := hb.cellS d2
      refine wpS_quiet (some 28) { dst := some 28, op := Op.move (Operand.tmp 27), type := _, pos := _, after := _, guard := none } _ rfl rfl (by rfl) (fun wE hE => by (go_simp; try with_reducible rfl)) ?_; simp only [Act.put, List.setIfInBounds_toArray, List.set_cons_zero, List.set_cons_succ]
      (first | refine wpS_quiet (some 29) { dst := some 29, op := Op.move (Operand.tmp 0), type := _, pos := _, after := _, guard := some (3, false) } _ rfl rfl (by rfl) (fun wE hE => by (go_simp; try with_reducible rfl)) ?_ | refine wpS_pass (some 29) _ rfl rfl (by rfl) ?_); simp only [Act.put, List.setIfInBounds_toArray, List.set_cons_zero, List.set_cons_succ]
      (first | refine wpS_quiet (some 30) { dst := some 30, op := Op.nilCheck (Operand.tmp 29), type := _, pos := _, after := _, guard := some (3, false) } _ rfl rfl (by rfl) (fun wE hE => by (go_simp; try with_reducible rfl)) ?_ | refine wpS_pass (some 30) _ rfl rfl (by rfl) ?_); simp only [Act.put, List.setIfInBounds_toArray, List.set_cons_zero, List.set_cons_succ]
      (first | refine wpS_quiet (some 31) { dst := some 31, op := Op.fieldAddr 60 (Operand.tmp 30) 0, type := _, pos := _, after := _, guard := some (3, false) } _ rfl rfl (by rfl) (fun wE hE => by (go_simp; try with_reducible rfl)) ?_ | refine wpS_pass (some 31) _ rfl rfl (by rfl) ?_); simp only [Act.put, List.setIfInBounds_toArray, List.set_cons_zero, List.set_cons_succ]
      (first | refine wpS_quiet (some 32) { dst := some 32, op := Op.load 2 (Operand.tmp 31), type := _, pos := _, after := _, guard := some (3, false) } _ rfl rfl (by rfl) (fun wE hE => by (have zk0 := hE.cellS c0'; have zk1 := hE.cellS c1'; have zk2 := hE.cellS c2'; have zk3 := hE.cellS d0'; have zk4 := hE.cellS d1'; have zk5 := hE.cellS d2'; go_simp; try with_reducible rfl)) ?_ | refine wpS_pass (some 32) _ rfl rfl (by rfl) ?_); simp only [Act.put, List.setIfInBounds_toArray, List.set_cons_zero, List.set_cons_succ]
      (first | refine wpS_quiet (some 33) { dst := some 33, op := Op.move (Operand.tmp 1), type := _, pos := _, after := _, guard := some (3, false) } _ rfl rfl (by rfl) (fun wE hE => by (go_simp; try with_reducible rfl)) ?_ | refine wpS_pass (some 33) _ rfl rfl (by rfl) ?_); simp only [Act.put, List.setIfInBounds_toArray, List.set_cons_zero, List.set_cons_succ]
      (first | refine wpS_quiet (some 34) { dst := some 34, op := Op.nilCheck (Operand.tmp 33), type := _, pos := _, after := _, guard := some (3, false) } _ rfl rfl (by rfl) (fun wE hE => by (go_simp; try with_reducible rfl)) ?_ | refine wpS_pass (some 34) _ rfl rfl (by rfl) ?_); simp only [Act.put, List.setIfInBounds_toArray, List.set_cons_zero, List.set_cons_succ]
      (first | refine wpS_quiet (some 35) { dst := some 35, op := Op.fieldAddr 60 (Operand.tmp 34) 0, type := _, pos := _, after := _, guard := some (3, false) } _ rfl rfl (by rfl) (fun wE hE => by (go_simp; try with_reducible rfl)) ?_ | refine wpS_pass (some 35) _ rfl rfl (by rfl) ?_); simp only [Act.put, List.setIfInBounds_toArray, List.set_cons_zero, List.set_cons_succ]
      (first | refine wpS_quiet (some 36) { dst := some 36, op := Op.load 2 (Operand.tmp 35), type := _, pos := _, after := _, guard := some (3, false) } _ rfl rfl (by rfl) (fun wE hE => by (have zk0 := hE.cellS c0'; have zk1 := hE.cellS c1'; have zk2 := hE.cellS c2'; have zk3 := hE.cellS d0'; have zk4 := hE.cellS d1'; have zk5 := hE.cellS d2'; go_simp; try with_reducible rfl)) ?_ | refine wpS_pass (some 36) _ rfl rfl (by rfl) ?_); simp only [Act.put, List.setIfInBounds_toArray, List.set_cons_zero, List.set_cons_succ]
      (first | refine wpS_quiet (some 37) { dst := some 37, op := Op.binOp BinOp.eql 2 (Operand.tmp 32) (Operand.tmp 36) 2, type := _, pos := _, after := _, guard := some (3, false) } _ rfl rfl (by rfl) (fun wE hE => by (go_simp; try with_reducible rfl)) ?_ | refine wpS_pass (some 37) _ rfl rfl (by rfl) ?_); simp only [Act.put, List.setIfInBounds_toArray, List.set_cons_zero, List.set_cons_succ]
      (first | refine wpS_quiet (some 38) { dst := some 38, op := Op.move (Operand.tmp 37), type := _, pos := _, after := _, guard := some (3, false) } _ rfl rfl (by rfl) (fun wE hE => by (go_simp; try with_reducible rfl)) ?_ | refine wpS_pass (some 38) _ rfl rfl (by rfl) ?_); simp only [Act.put, List.setIfInBounds_toArray, List.set_cons_zero, List.set_cons_succ]
      (first | refine wpS_quiet (some 39) { dst := some 39, op := Op.move (Operand.tmp 0), type := _, pos := _, after := _, guard := some (13, true) } _ rfl rfl (by rfl) (fun wE hE => by (go_simp; try with_reducible rfl)) ?_ | refine wpS_pass (some 39) _ rfl rfl (by rfl) ?_); simp only [Act.put, List.setIfInBounds_toArray, List.set_cons_zero, List.set_cons_succ]
      (first | refine wpS_quiet (some 40) { dst := some 40, op := Op.nilCheck (Operand.tmp 39), type := _, pos := _, after := _, guard := some (13, true) } _ rfl rfl (by rfl) (fun wE hE => by (go_simp; try with_reducible rfl)) ?_ | refine wpS_pass (some 40) _ rfl rfl (by rfl) ?_); simp only [Act.put, List.setIfInBounds_toArray, List.set_cons_zero, List.set_cons_succ]
      (first | refine wpS_quiet (some 41) { dst := some 41, op := Op.load 60 (Operand.tmp 40), type := _, pos := _, after := _, guard := some (13, true) } _ rfl rfl (by rfl) (fun wE hE => by (have zk0 := hE.cellS c0'; have zk1 := hE.cellS c1'; have zk2 := hE.cellS c2'; have zk3 := hE.cellS d0'; have zk4 := hE.cellS d1'; have zk5 := hE.cellS d2'; go_simp; try with_reducible rfl)) ?_ | refine wpS_pass (some 41) _ rfl rfl (by rfl) ?_); simp only [Act.put, List.setIfInBounds_toArray, List.set_cons_zero, List.set_cons_succ]
      (first | refine wpS_quiet (some 42) { dst := some 42, op := Op.move (Operand.tmp 1), type := _, pos := _, after := _, guard := some (13, true) } _ rfl rfl (by rfl) (fun wE hE => by (go_simp; try with_reducible rfl)) ?_ | refine wpS_pass (some 42) _ rfl rfl (by rfl) ?_); simp only [Act.put, List.setIfInBounds_toArray, List.set_cons_zero, List.set_cons_succ]
      (first | refine wpS_quiet (some 43) { dst := some 43, op := Op.nilCheck (Operand.tmp 42), type := _, pos := _, after := _, guard := some (13, true) } _ rfl rfl (by rfl) (fun wE hE => by (go_simp; try with_reducible rfl)) ?_ | refine wpS_pass (some 43) _ rfl rfl (by rfl) ?_); simp only [Act.put, List.setIfInBounds_toArray, List.set_cons_zero, List.set_cons_succ]
      (first | refine wpS_quiet (some 44) { dst := some 44, op := Op.load 60 (Operand.tmp 43), type := _, pos := _, after := _, guard := some (13, true) } _ rfl rfl (by rfl) (fun wE hE => by (have zk0 := hE.cellS c0'; have zk1 := hE.cellS c1'; have zk2 := hE.cellS c2'; have zk3 := hE.cellS d0'; have zk4 := hE.cellS d1'; have zk5 := hE.cellS d2'; go_simp; try with_reducible rfl)) ?_ | refine wpS_pass (some 44) _ rfl rfl (by rfl) ?_); simp only [Act.put, List.setIfInBounds_toArray, List.set_cons_zero, List.set_cons_succ]
      refine wpS_call (some 45) { dst := some 45, op := Op.call { callee := Callee.value (Operand.func 57), args := #[Operand.tmp 41, Operand.tmp 44], argTypes := #[68, 60] }, type := _, pos := _, after := _, guard := some (13, true) } 57 _ rfl rfl (by rfl) (by go_simp; try first | with_reducible rfl | exact ⟨rfl, rfl⟩) ?_
      refine (less_any a b 0 a b' 0 _).mono ?_; rintro e w3 ⟨rfl, hb3⟩; refine ⟨_, rfl, hb3, ?_⟩; simp only [Act.put, List.setIfInBounds_toArray, List.set_cons_zero, List.set_cons_succ]
      (first | refine wpS_quiet (some 46) { dst := some 46, op := Op.pick (Operand.tmp 38) (Operand.tmp 45) (Operand.const (Value.bool false)), type := _, pos := _, after := _, guard := some (3, false) } _ rfl rfl (by rfl) (fun wE hE => by (go_simp; try with_reducible rfl)) ?_ | refine wpS_pass (some 46) _ rfl rfl (by rfl) ?_); simp only [Act.put, List.setIfInBounds_toArray, List.set_cons_zero, List.set_cons_succ]
      refine wpS_quiet (some 47) { dst := some 47, op := Op.pick (Operand.tmp 28) (Operand.const (Value.bool true)) (Operand.tmp 46), type := _, pos := _, after := _, guard := none } _ rfl rfl (by rfl) (fun wE hE => by (go_simp; try with_reducible rfl)) ?_; simp only [Act.put, List.setIfInBounds_toArray, List.set_cons_zero, List.set_cons_succ]
      change Exit.then _ _ _ _ _
      go_wp2
      all_goals
        go_ret
        exact ⟨by simp [vchange, *], (e1.trans hb.undrew).trans hb3⟩
    · have hab : (a == a') = false := by simpa using ha
      refine wp_region_sched (ops := ops_58_3) Ext [] (.quiet 0 (.quiet 1 (.loud 2 (.quiet 3 (.quiet 4 (.quiet 5 (.quiet 6 (.quiet 7 (.quiet 8 (.quiet 9 (.quiet 10 (.quiet 11 (.quiet 12 (.quiet 13 (.quiet 14 (.quiet 15 (.quiet 16 (.quiet 17 (.quiet 18 (.quiet 19 (.loud 20 (.quiet 21 (.quiet 22 (.done))) (.stop))))))))))))))))))) (.stop)))) (by kernel_rfl) ext_refl ext_trans (by kernel_rfl) (fun _ _ d _ _ h => by cases d <;> exact h) ?_
      refine wpS_quiet (some 25) { dst := some 25, op := Op.move (Operand.tmp 0), type := _, pos := _, after := _, guard := none } _ rfl rfl (by rfl) (fun wE hE => by (go_simp; try with_reducible rfl)) ?_; simp only [Act.put, List.setIfInBounds_toArray, List.set_cons_zero, List.set_cons_succ]
      refine wpS_quiet (some 26) { dst := some 26, op := Op.move (Operand.tmp 1), type := _, pos := _, after := _, guard := none } _ rfl rfl (by rfl) (fun wE hE => by (go_simp; try with_reducible rfl)) ?_; simp only [Act.put, List.setIfInBounds_toArray, List.set_cons_zero, List.set_cons_succ]
      refine wpS_call (some 27) { dst := some 27, op := Op.call { callee := Callee.value (Operand.func 56), args := #[Operand.tmp 25, Operand.tmp 26], argTypes := #[68, 68] }, type := _, pos := _, after := _, guard := none } 56 _ rfl rfl (by rfl) (by go_simp; try first | with_reducible rfl | exact ⟨rfl, rfl⟩) ?_
      refine (isValid_any s 0 (s + 1) 0 a b 0 a' b' 0 _ ?_ ?_).mono ?_; (exact p1); (exact q1); rintro e w2 ⟨rfl, hb⟩; rw [hd']; refine ⟨_, rfl, hb, ?_⟩; simp only [Act.put, List.setIfInBounds_toArray, List.set_cons_zero, List.set_cons_succ]
      have c0' := hb.cellS c0; have c1' := hb.cellS c1; have c2' := hb.cellS c2; have d0' := hb.cellS d0; have d1' := hb.cellS d1; have d2' := hb.cellS d2
      refine wpS_quiet (some 28) { dst := some 28, op := Op.move (Operand.tmp 27), type := _, pos := _, after := _, guard := none } _ rfl rfl (by rfl) (fun wE hE => by (go_simp; try with_reducible rfl)) ?_; simp only [Act.put, List.setIfInBounds_toArray, List.set_cons_zero, List.set_cons_succ]
      (first | refine wpS_quiet (some 29) { dst := some 29, op := Op.move (Operand.tmp 0), type := _, pos := _, after := _, guard := some (3, false) } _ rfl rfl (by rfl) (fun wE hE => by (go_simp; try with_reducible rfl)) ?_ | refine wpS_pass (some 29) _ rfl rfl (by rfl) ?_); simp only [Act.put, List.setIfInBounds_toArray, List.set_cons_zero, List.set_cons_succ]
      (first | refine wpS_quiet (some 30) { dst := some 30, op := Op.nilCheck (Operand.tmp 29), type := _, pos := _, after := _, guard := some (3, false) } _ rfl rfl (by rfl) (fun wE hE => by (go_simp; try with_reducible rfl)) ?_ | refine wpS_pass (some 30) _ rfl rfl (by rfl) ?_); simp only [Act.put, List.setIfInBounds_toArray, List.set_cons_zero, List.set_cons_succ]
      (first | refine wpS_quiet (some 31) { dst := some 31, op := Op.fieldAddr 60 (Operand.tmp 30) 0, type := _, pos := _, after := _, guard := some (3, false) } _ rfl rfl (by rfl) (fun wE hE => by (go_simp; try with_reducible rfl)) ?_ | refine wpS_pass (some 31) _ rfl rfl (by rfl) ?_); simp only [Act.put, List.setIfInBounds_toArray, List.set_cons_zero, List.set_cons_succ]
      (first | refine wpS_quiet (some 32) { dst := some 32, op := Op.load 2 (Operand.tmp 31), type := _, pos := _, after := _, guard := some (3, false) } _ rfl rfl (by rfl) (fun wE hE => by (have zk0 := hE.cellS c0'; have zk1 := hE.cellS c1'; have zk2 := hE.cellS c2'; have zk3 := hE.cellS d0'; have zk4 := hE.cellS d1'; have zk5 := hE.cellS d2'; go_simp; try with_reducible rfl)) ?_ | refine wpS_pass (some 32) _ rfl rfl (by rfl) ?_); simp only [Act.put, List.setIfInBounds_toArray, List.set_cons_zero, List.set_cons_succ]
      (first | refine wpS_quiet (some 33) { dst := some 33, op := Op.move (Operand.tmp 1), type := _, pos := _, after := _, guard := some (3, false) } _ rfl rfl (by rfl) (fun wE hE => by (go_simp; try with_reducible rfl)) ?_ | refine wpS_pass (some 33) _ rfl rfl (by rfl) ?_); simp only [Act.put, List.setIfInBounds_toArray, List.set_cons_zero, List.set_cons_succ]
      (first | refine wpS_quiet (some 34) { dst := some 34, op := Op.nilCheck (Operand.tmp 33), type := _, pos := _, after := _, guard := some (3, false) } _ rfl rfl (by rfl) (fun wE hE => by (go_simp; try with_reducible rfl)) ?_ | refine wpS_pass (some 34) _ rfl rfl (by rfl) ?_); simp only [Act.put, List.setIfInBounds_toArray, List.set_cons_zero, List.set_cons_succ]
      (first | refine wpS_quiet (some 35) { dst := some 35, op := Op.fieldAddr 60 (Operand.tmp 34) 0, type := _, pos := _, after := _, guard := some (3, false) } _ rfl rfl (by rfl) (fun wE hE => by (go_simp; try with_reducible rfl)) ?_ | refine wpS_pass (some 35) _ rfl rfl (by rfl) ?_); simp only [Act.put, List.setIfInBounds_toArray, List.set_cons_zero, List.set_cons_succ]
      (first | refine wpS_quiet (some 36) { dst := some 36, op := Op.load 2 (Operand.tmp 35), type := _, pos := _, after := _, guard := some (3, false) } _ rfl rfl (by rfl) (fun wE hE => by (have zk0 := hE.cellS c0'; have zk1 := hE.cellS c1'; have zk2 := hE.cellS c2'; have zk3 := hE.cellS d0'; have zk4 := hE.cellS d1'; have zk5 := hE.cellS d2'; go_simp; try with_reducible rfl)) ?_ | refine wpS_pass (some 36) _ rfl rfl (by rfl) ?_); simp only [Act.put, List.setIfInBounds_toArray, List.set_cons_zero, List.set_cons_succ]
      (first | refine wpS_quiet (some 37) { dst := some 37, op := Op.binOp BinOp.eql 2 (Operand.tmp 32) (Operand.tmp 36) 2, type := _, pos := _, after := _, guard := some (3, false) } _ rfl rfl (by rfl) (fun wE hE => by (go_simp; try with_reducible rfl)) ?_ | refine wpS_pass (some 37) _ rfl rfl (by rfl) ?_); simp only [Act.put, List.setIfInBounds_toArray, List.set_cons_zero, List.set_cons_succ]
      (first | refine wpS_quiet (some 38) { dst := some 38, op := Op.move (Operand.tmp 37), type := _, pos := _, after := _, guard := some (3, false) } _ rfl rfl (by rfl) (fun wE hE => by (go_simp; try with_reducible rfl)) ?_ | refine wpS_pass (some 38) _ rfl rfl (by rfl) ?_); simp only [Act.put, List.setIfInBounds_toArray, List.set_cons_zero, List.set_cons_succ]
      (first | refine wpS_quiet (some 39) { dst := some 39, op := Op.move (Operand.tmp 0), type := _, pos := _, after := _, guard := some (13, true) } _ rfl rfl (by rfl) (fun wE hE => by (go_simp; try with_reducible rfl)) ?_ | refine wpS_pass (some 39) _ rfl rfl (by rfl) ?_); simp only [Act.put, List.setIfInBounds_toArray, List.set_cons_zero, List.set_cons_succ]
      (first | refine wpS_quiet (some 40) { dst := some 40, op := Op.nilCheck (Operand.tmp 39), type := _, pos := _, after := _, guard := some (13, true) } _ rfl rfl (by rfl) (fun wE hE => by (go_simp; try with_reducible rfl)) ?_ | refine wpS_pass (some 40) _ rfl rfl (by rfl) ?_); simp only [Act.put, List.setIfInBounds_toArray, List.set_cons_zero, List.set_cons_succ]
      (first | refine wpS_quiet (some 41) { dst := some 41, op := Op.load 60 (Operand.tmp 40), type := _, pos := _, after := _, guard := some (13, true) } _ rfl rfl (by rfl) (fun wE hE => by (have zk0 := hE.cellS c0'; have zk1 := hE.cellS c1'; have zk2 := hE.cellS c2'; have zk3 := hE.cellS d0'; have zk4 := hE.cellS d1'; have zk5 := hE.cellS d2'; go_simp; try with_reducible rfl)) ?_ | refine wpS_pass (some 41) _ rfl rfl (by rfl) ?_); simp only [Act.put, List.setIfInBounds_toArray, List.set_cons_zero, List.set_cons_succ]
      (first | refine wpS_quiet (some 42) { dst := some 42, op := Op.move (Operand.tmp 1), type := _, pos := _, after := _, guard := some (13, true) } _ rfl rfl (by rfl) (fun wE hE => by (go_simp; try with_reducible rfl)) ?_ | refine wpS_pass (some 42) _ rfl rfl (by rfl) ?_); simp only [Act.put, List.setIfInBounds_toArray, List.set_cons_zero, List.set_cons_succ]
      (first | refine wpS_quiet (some 43) { dst := some 43, op := Op.nilCheck (Operand.tmp 42), type := _, pos := _, after := _, guard := some (13, true) } _ rfl rfl (by rfl) (fun wE hE => by (go_simp; try with_reducible rfl)) ?_ | refine wpS_pass (some 43) _ rfl rfl (by rfl) ?_); simp only [Act.put, List.setIfInBounds_toArray, List.set_cons_zero, List.set_cons_succ]
      (first | refine wpS_quiet (some 44) { dst := some 44, op := Op.load 60 (Operand.tmp 43), type := _, pos := _, after := _, guard := some (13, true) } _ rfl rfl (by rfl) (fun wE hE => by (have zk0 := hE.cellS c0'; have zk1 := hE.cellS c1'; have zk2 := hE.cellS c2'; have zk3 := hE.cellS d0'; have zk4 := hE.cellS d1'; have zk5 := hE.cellS d2'; go_simp; try with_reducible rfl)) ?_ | refine wpS_pass (some 44) _ rfl rfl (by rfl) ?_); simp only [Act.put, List.setIfInBounds_toArray, List.set_cons_zero, List.set_cons_succ]
      refine wpS_loud_pass (ext_refl _) (some 45) _ rfl rfl (by rfl) ?_; simp only [Act.put, List.setIfInBounds_toArray, List.set_cons_zero, List.set_cons_succ]
      (first | refine wpS_quiet (some 46) { dst := some 46, op := Op.pick (Operand.tmp 38) (Operand.tmp 45) (Operand.const (Value.bool false)), type := _, pos := _, after := _, guard := some (3, false) } _ rfl rfl (by rfl) (fun wE hE => by (go_simp; try with_reducible rfl)) ?_ | refine wpS_pass (some 46) _ rfl rfl (by rfl) ?_); simp only [Act.put, List.setIfInBounds_toArray, List.set_cons_zero, List.set_cons_succ]
      refine wpS_quiet (some 47) { dst := some 47, op := Op.pick (Operand.tmp 28) (Operand.const (Value.bool true)) (Operand.tmp 46), type := _, pos := _, after := _, guard := none } _ rfl rfl (by rfl) (fun wE hE => by (go_simp; try with_reducible rfl)) ?_; simp only [Act.put, List.setIfInBounds_toArray, List.set_cons_zero, List.set_cons_succ]
      change Exit.then _ _ _ _ _
      go_wp2
      go_ret
      exact ⟨by simp [vchange, hd', hab], (e1.trans hb.undrew)⟩

theorem specBase_any (a b c : Int) (w : World) :
    Calls Tryz.prog 34 #[vv a b c] w fun e w' => e = .returned (vv a b 0) ∧ Ext w w' := by
  go_enter Tryz.func34, Tryz.ntmps34
  go_wp2
  refine bodyPost_ret (v := vv a b 0) (by simp [results, Tryz.results34, go_sem]) rfl ⟨rfl, ?_⟩
  exact ((Ext.refl _).alloc _).alloc _

theorem specDown_any (a b c a' b' c' : Int) (w : World) :
    Calls Tryz.prog 35 #[vv a b c, vv a' b' c'] w fun e w' => e = .returned (.bool (vdown a b a' b' c')) ∧ Ext w w' := by
  go_enter Tryz.func35, Tryz.ntmps35
  go_wp2
  all_goals
    go_ret
    refine ⟨by simp [vdown, veq, *], ?_⟩
    exact ((Ext.refl _).alloc _).alloc _

theorem specLess_any (a b c a' b' c' : Int) (w : World) :
    Calls Tryz.prog 36 #[vv a b c, vv a' b' c'] w fun e w' => e = .returned (.bool (vless a b c a' b' c')) ∧ Ext w w' := by
  by_cases h1 : a = a' <;> by_cases h2 : b = b'
  all_goals
    go_enter Tryz.func36, Tryz.ntmps36
    go_wp2
    go_ret
    refine ⟨by simp [vless, *], ?_⟩
    exact ((Ext.refl _).alloc _).alloc _

/-- the numbers of a version are of use -/
def vnum (a b c : Int) : Bool := (decide (0 ≤ a) && decide (a ≤ 9999)) && (decide (0 ≤ b) && decide (b ≤ 9999)) && (decide (0 ≤ c) && decide (c ≤ 9999))

theorem verNumbers_yes (a b c : Int) (w : World) (h : vnum a b c = true) :
    Calls Tryz.prog 8 #[vv a b c] w fun e w' => e = .returned (.bool true) ∧ Ext w w' := by
  simp only [vnum, Bool.and_eq_true, decide_eq_true_eq] at h
  obtain ⟨⟨⟨h1, h2⟩, h3, h4⟩, h5, h6⟩ := h
  go_enter Tryz.func8, Tryz.ntmps8
  go_wp2
  go_ret
  exact ⟨by simp [*], (Ext.refl _).alloc _⟩
theorem verNumbers_no (a b c : Int) (w : World) (h : vnum a b c = false) :
    Calls Tryz.prog 8 #[vv a b c] w fun e w' => e = .returned (.bool false) ∧ Ext w w' := by
  go_enter Tryz.func8, Tryz.ntmps8
  go_wp2
  all_goals
    go_ret
    refine ⟨?_, (Ext.refl _).alloc _⟩
    simp_all [vnum]

end Go.Proofs.YtdokcengcekfgaaGreatDoor
