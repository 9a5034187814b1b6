/-
  impl.ValidChange: its two versions are made, and asked of.
-/
import Derived.Test.YtogojpckjamkjaaVer
namespace Go.Proofs.Ytogojpckjamkjaa
open Go.RowKit
set_option linter.unusedSimpArgs false

theorem ext_via {w w1 w2 w3 : World} {s B : Nat} (hs : w.heap.size = s) (e : Ext w w1) (h : ExtB B w1 w2) (h' : ExtB B w2 w3) (hB : s ≤ B) : Ext w w3 := by
  subst hs
  exact ((e.toB (Nat.le_refl _)).trans ((h.trans h').mono hB)).ext
noncomputable def ops_6_1 : Array Oper := opsAt Try.f6 1
set_option maxHeartbeats 1000000 in
theorem implChange_any (a b c a' b' c' : Int) (w : World) :
    Calls Try.prog 6 #[vv a b c, vv a' b' c'] w fun e w' => e = .returned (.bool (vchange a b a' b')) ∧ Ext w w' := by
  go_enter Try.func6, Try.ntmps6
  go_wp2
  obtain ⟨w1, hw1⟩ : ∃ u : World, u = ((w.alloc (Obj.cells #[Value.int IntKind.i64 a, Value.int IntKind.i64 b, Value.int IntKind.i64 c] 23)).alloc
      (Obj.cells #[Value.int IntKind.i64 a', Value.int IntKind.i64 b', Value.int IntKind.i64 c'] 23)) := ⟨_, rfl⟩
  have e1 : Ext w w1 := by rw [hw1]; exact (((Ext.refl _).alloc _).alloc _)
  have p1 : V3 w1 w.heap.size 0 a b c := by rw [hw1]; exact ⟨by simp [go_sem], by simp [go_sem], by simp [go_sem]⟩
  have q1 : V3 w1 (w.heap.size + 1) 0 a' b' c' := by rw [hw1]; exact ⟨by simp [go_sem], by simp [go_sem], by simp [go_sem]⟩
  have hs : w.heap.size + 2 ≤ w1.heap.size := by rw [hw1]; simp
  rw [← hw1]
  clear hw1
  have hs0 : w.heap.size ≤ w.heap.size := Nat.le_refl _
  generalize hsz : w.heap.size = s at *
  obtain ⟨c0, c1, c2⟩ := id p1
  obtain ⟨d0, d1, d2⟩ := id q1
  refine wp_region_sched (ops := ops_6_1) (ExtB (s+2)) (.quiet 0 (.quiet 2 (.loud 1 (.loud 3 (.loud 4 (.loud 5 (.loud 6 (.loud 7 (.done) (.stop)) (.stop)) (.stop)) (.loud 5 (.loud 4 (.loud 6 (.loud 7 (.done) (.stop)) (.stop)) (.stop)) (.stop))) (.loud 4 (.loud 3 (.loud 5 (.loud 6 (.loud 7 (.done) (.stop)) (.stop)) (.stop)) (.loud 5 (.loud 3 (.loud 6 (.loud 7 (.done) (.stop)) (.stop)) (.stop)) (.stop))) (.loud 5 (.loud 3 (.loud 4 (.loud 6 (.loud 7 (.done) (.stop)) (.stop)) (.stop)) (.loud 4 (.loud 3 (.loud 6 (.loud 7 (.done) (.stop)) (.stop)) (.stop)) (.stop))) (.stop)))) (.loud 4 (.loud 1 (.loud 3 (.loud 5 (.loud 6 (.loud 7 (.done) (.stop)) (.stop)) (.stop)) (.loud 5 (.loud 3 (.loud 6 (.loud 7 (.done) (.stop)) (.stop)) (.stop)) (.stop))) (.loud 5 (.loud 1 (.loud 3 (.loud 6 (.loud 7 (.done) (.stop)) (.stop)) (.stop)) (.stop)) (.stop))) (.loud 5 (.loud 1 (.loud 3 (.loud 4 (.loud 6 (.loud 7 (.done) (.stop)) (.stop)) (.stop)) (.loud 4 (.loud 3 (.loud 6 (.loud 7 (.done) (.stop)) (.stop)) (.stop)) (.stop))) (.loud 4 (.loud 1 (.loud 3 (.loud 6 (.loud 7 (.done) (.stop)) (.stop)) (.stop)) (.stop)) (.stop))) (.stop)))))) (by kernel_rfl) (extB_refl (s+2)) (extB_trans (s+2)) (by kernel_rfl) (fun _ _ d _ _ h => by cases d <;> exact h) ?_
  have E : ExtB (s + 2) w1 w1.drew := ExtB.refl _ _
  have hs : s + 2 ≤ w1.drew.heap.size := hs
  refine wpS_quiet (some 7) { dst := some 7, op := Op.load 23 (Operand.tmp 2), type := _, pos := _, after := _, guard := none } _ rfl rfl (by rfl) (fun wE hE => by (have k0 := hE.cellS (by show s < s + 2; omega) c0; have k1 := hE.cellS (by show s < s + 2; omega) c1; have k2 := hE.cellS (by show s < s + 2; omega) c2; go_simp; try with_reducible rfl)) ?_
  simp only [Act.put, List.setIfInBounds_toArray, List.set_cons_zero, List.set_cons_succ]
  refine wpS_quiet (some 9) { dst := some 9, op := Op.load 23 (Operand.tmp 3), type := _, pos := _, after := _, guard := none } _ rfl rfl (by rfl) (fun wE hE => by (have k0 := hE.cellS (by show s + 1 < s + 2; omega) d0; have k1 := hE.cellS (by show s + 1 < s + 2; omega) d1; have k2 := hE.cellS (by show s + 1 < s + 2; omega) d2; go_simp; try with_reducible rfl)) ?_
  simp only [Act.put, List.setIfInBounds_toArray, List.set_cons_zero, List.set_cons_succ]
  refine wpS_callm (some 8) { dst := some 8, op := Op.call { callee := Callee.value (Operand.func 11), args := #[Operand.tmp 7], argTypes := #[23] }, type := _, pos := _, after := _, guard := none } 11 _ rfl rfl (by rfl) (by go_simp; try with_reducible rfl) ?_ ?_
  rotate_right
  · skip
    refine wpS_alloc (some 5) { dst := some 5, op := Op.alloc 34, type := _, pos := _, after := _, guard := none } _ _ rfl rfl (by rfl) (by go_simp; try with_reducible rfl) ?_ ?_ ?_
    rotate_right
    · skip
      refine wpS_alloc (some 6) { dst := some 6, op := Op.alloc 34, type := _, pos := _, after := _, guard := none } _ _ rfl rfl (by rfl) (by go_simp; try with_reducible rfl) ?_ ?_ trivial
      exact fun w' h => h.toB hs
      intro b6 w6 hb6 h6 K6
      have g6 : s + 2 ≤ b6 := by omega
      (try have n56 : b5 ≠ b6 := by (have := K5.lt; omega))
      have E := E.trans (h6.toB hs)
      have hs := Nat.le_trans hs h6.size
      (try replace K5 := K5.ext h6)
      clear hb6
      simp only [Act.put, List.setIfInBounds_toArray, List.set_cons_zero, List.set_cons_succ]
      refine wpS_callm (some 8) { dst := some 8, op := Op.call { callee := Callee.value (Operand.func 11), args := #[Operand.tmp 7], argTypes := #[23] }, type := _, pos := _, after := _, guard := none } 11 _ rfl rfl (by rfl) (by go_simp; try with_reducible rfl) ?_ ?_
      rotate_right
      · skip
        refine wpS_alloc (some 5) { dst := some 5, op := Op.alloc 34, type := _, pos := _, after := _, guard := none } _ _ rfl rfl (by rfl) (by go_simp; try with_reducible rfl) ?_ ?_ trivial
        exact fun w' h => h.toB hs
        intro b5 w5 hb5 h5 K5
        have g5 : s + 2 ≤ b5 := by omega
        (try have n56 : b5 ≠ b6 := by (have := K6.lt; omega))
        have E := E.trans (h5.toB hs)
        have hs := Nat.le_trans hs h5.size
        (try replace K6 := K6.ext h5)
        clear hb5
        simp only [Act.put, List.setIfInBounds_toArray, List.set_cons_zero, List.set_cons_succ]
        refine wpS_callm (some 8) { dst := some 8, op := Op.call { callee := Callee.value (Operand.func 11), args := #[Operand.tmp 7], argTypes := #[23] }, type := _, pos := _, after := _, guard := none } 11 _ rfl rfl (by rfl) (by go_simp; try with_reducible rfl) ?_ trivial
        refine (verIn_any _ _ _ _).mono ?_
        rintro e w8 ⟨rfl, h8⟩
        refine ⟨_, rfl, h8.toB hs, ?_⟩
        have E := E.trans (h8.toB hs)
        have hs := Nat.le_trans hs h8.size
        (try replace K5 := K5.ext h8)
        (try replace K6 := K6.ext h8)
        simp only [Act.put, List.setIfInBounds_toArray, List.set_cons_zero, List.set_cons_succ]
        refine wpS_callm (some 10) { dst := some 10, op := Op.call { callee := Callee.value (Operand.func 11), args := #[Operand.tmp 9], argTypes := #[23] }, type := _, pos := _, after := _, guard := none } 11 _ rfl rfl (by rfl) (by go_simp; try with_reducible rfl) ?_ trivial
        refine (verIn_any _ _ _ _).mono ?_
        rintro e w10 ⟨rfl, h10⟩
        refine ⟨_, rfl, h10.toB hs, ?_⟩
        have E := E.trans (h10.toB hs)
        have hs := Nat.le_trans hs h10.size
        (try replace K5 := K5.ext h10)
        (try replace K6 := K6.ext h10)
        simp only [Act.put, List.setIfInBounds_toArray, List.set_cons_zero, List.set_cons_succ]
        refine wpS_val none { dst := none, op := Op.store 34 (Operand.tmp 5) (Operand.tmp 8), type := _, pos := _, after := _, guard := none } (undef) (set3 w10 b5 (.int .i64 a) (.int .i64 b) (.int .i64 c)) rfl rfl (by rfl) ?_ ?_ ?_ trivial
        (have c0 := K5.cell (o := 0) rfl; have c1 := K5.cell (o := 1) rfl; have c2 := K5.cell (o := 2) rfl; have f0 := K5.frozen 0; have f1 := K5.frozen 1; have f2 := K5.frozen 2; refine .inr ⟨rfl, ?_⟩; go_simp; try rfl)
        exact (ExtB.refl _ _).set3 g5 _ _ _
        have E := E.set3 g5 (.int .i64 a) (.int .i64 b) (.int .i64 c)
        replace K5 := K5.set3 (.int .i64 a) (.int .i64 b) (.int .i64 c)
        (try replace K6 := K6.set3_ne n56 (.int .i64 a) (.int .i64 b) (.int .i64 c))
        have hs := Nat.le_trans hs (Nat.le_of_eq (size_set3 w10 b5 (.int .i64 a) (.int .i64 b) (.int .i64 c)).symm)
        generalize set3 w10 b5 (.int .i64 a) (.int .i64 b) (.int .i64 c) = w7 at *
        simp only [Act.put, List.setIfInBounds_toArray, List.set_cons_zero, List.set_cons_succ]
        refine wpS_val none { dst := none, op := Op.store 34 (Operand.tmp 6) (Operand.tmp 10), type := _, pos := _, after := _, guard := none } (undef) (set3 w7 b6 (.int .i64 a') (.int .i64 b') (.int .i64 c')) rfl rfl (by rfl) ?_ ?_ ?_ trivial
        (have c0 := K6.cell (o := 0) rfl; have c1 := K6.cell (o := 1) rfl; have c2 := K6.cell (o := 2) rfl; have f0 := K6.frozen 0; have f1 := K6.frozen 1; have f2 := K6.frozen 2; refine .inr ⟨rfl, ?_⟩; go_simp; try rfl)
        exact (ExtB.refl _ _).set3 g6 _ _ _
        have E := E.set3 g6 (.int .i64 a') (.int .i64 b') (.int .i64 c')
        replace K6 := K6.set3 (.int .i64 a') (.int .i64 b') (.int .i64 c')
        replace K5 := K5.set3_ne n56.symm (.int .i64 a') (.int .i64 b') (.int .i64 c')
        have hs := Nat.le_trans hs (Nat.le_of_eq (size_set3 w7 b6 (.int .i64 a') (.int .i64 b') (.int .i64 c')).symm)
        generalize set3 w7 b6 (.int .i64 a') (.int .i64 b') (.int .i64 c') = w9 at *
        simp only [Act.put, List.setIfInBounds_toArray, List.set_cons_zero, List.set_cons_succ]
        change Exit.then _ _ _ _ _
        go_wp2_with (go_at_call 12; refine (change_any b5 0 b6 0 a b c a' b' c' _ ⟨K5.cell rfl, K5.cell rfl, K5.cell rfl⟩ ⟨K6.cell rfl, K6.cell rfl, K6.cell rfl⟩).mono ?_; rintro e wz ⟨rfl, hz⟩)
        go_ret
        exact ⟨rfl, ext_via hsz e1 E (hz.toB hs) (by omega)⟩
      refine (verIn_any _ _ _ _).mono ?_
      rintro e w8 ⟨rfl, h8⟩
      refine ⟨_, rfl, h8.toB hs, ?_⟩
      have E := E.trans (h8.toB hs)
      have hs := Nat.le_trans hs h8.size
      (try replace K5 := K5.ext h8)
      (try replace K6 := K6.ext h8)
      simp only [Act.put, List.setIfInBounds_toArray, List.set_cons_zero, List.set_cons_succ]
      refine wpS_callm (some 10) { dst := some 10, op := Op.call { callee := Callee.value (Operand.func 11), args := #[Operand.tmp 9], argTypes := #[23] }, type := _, pos := _, after := _, guard := none } 11 _ rfl rfl (by rfl) (by go_simp; try with_reducible rfl) ?_ ?_
      rotate_right
      · skip
        refine wpS_alloc (some 5) { dst := some 5, op := Op.alloc 34, type := _, pos := _, after := _, guard := none } _ _ rfl rfl (by rfl) (by go_simp; try with_reducible rfl) ?_ ?_ trivial
        exact fun w' h => h.toB hs
        intro b5 w5 hb5 h5 K5
        have g5 : s + 2 ≤ b5 := by omega
        (try have n56 : b5 ≠ b6 := by (have := K6.lt; omega))
        have E := E.trans (h5.toB hs)
        have hs := Nat.le_trans hs h5.size
        (try replace K6 := K6.ext h5)
        clear hb5
        simp only [Act.put, List.setIfInBounds_toArray, List.set_cons_zero, List.set_cons_succ]
        refine wpS_callm (some 10) { dst := some 10, op := Op.call { callee := Callee.value (Operand.func 11), args := #[Operand.tmp 9], argTypes := #[23] }, type := _, pos := _, after := _, guard := none } 11 _ rfl rfl (by rfl) (by go_simp; try with_reducible rfl) ?_ trivial
        refine (verIn_any _ _ _ _).mono ?_
        rintro e w10 ⟨rfl, h10⟩
        refine ⟨_, rfl, h10.toB hs, ?_⟩
        have E := E.trans (h10.toB hs)
        have hs := Nat.le_trans hs h10.size
        (try replace K5 := K5.ext h10)
        (try replace K6 := K6.ext h10)
        simp only [Act.put, List.setIfInBounds_toArray, List.set_cons_zero, List.set_cons_succ]
        refine wpS_val none { dst := none, op := Op.store 34 (Operand.tmp 5) (Operand.tmp 8), type := _, pos := _, after := _, guard := none } (undef) (set3 w10 b5 (.int .i64 a) (.int .i64 b) (.int .i64 c)) rfl rfl (by rfl) ?_ ?_ ?_ trivial
        (have c0 := K5.cell (o := 0) rfl; have c1 := K5.cell (o := 1) rfl; have c2 := K5.cell (o := 2) rfl; have f0 := K5.frozen 0; have f1 := K5.frozen 1; have f2 := K5.frozen 2; refine .inr ⟨rfl, ?_⟩; go_simp; try rfl)
        exact (ExtB.refl _ _).set3 g5 _ _ _
        have E := E.set3 g5 (.int .i64 a) (.int .i64 b) (.int .i64 c)
        replace K5 := K5.set3 (.int .i64 a) (.int .i64 b) (.int .i64 c)
        (try replace K6 := K6.set3_ne n56 (.int .i64 a) (.int .i64 b) (.int .i64 c))
        have hs := Nat.le_trans hs (Nat.le_of_eq (size_set3 w10 b5 (.int .i64 a) (.int .i64 b) (.int .i64 c)).symm)
        generalize set3 w10 b5 (.int .i64 a) (.int .i64 b) (.int .i64 c) = w7 at *
        simp only [Act.put, List.setIfInBounds_toArray, List.set_cons_zero, List.set_cons_succ]
        refine wpS_val none { dst := none, op := Op.store 34 (Operand.tmp 6) (Operand.tmp 10), type := _, pos := _, after := _, guard := none } (undef) (set3 w7 b6 (.int .i64 a') (.int .i64 b') (.int .i64 c')) rfl rfl (by rfl) ?_ ?_ ?_ trivial
        (have c0 := K6.cell (o := 0) rfl; have c1 := K6.cell (o := 1) rfl; have c2 := K6.cell (o := 2) rfl; have f0 := K6.frozen 0; have f1 := K6.frozen 1; have f2 := K6.frozen 2; refine .inr ⟨rfl, ?_⟩; go_simp; try rfl)
        exact (ExtB.refl _ _).set3 g6 _ _ _
        have E := E.set3 g6 (.int .i64 a') (.int .i64 b') (.int .i64 c')
        replace K6 := K6.set3 (.int .i64 a') (.int .i64 b') (.int .i64 c')
        replace K5 := K5.set3_ne n56.symm (.int .i64 a') (.int .i64 b') (.int .i64 c')
        have hs := Nat.le_trans hs (Nat.le_of_eq (size_set3 w7 b6 (.int .i64 a') (.int .i64 b') (.int .i64 c')).symm)
        generalize set3 w7 b6 (.int .i64 a') (.int .i64 b') (.int .i64 c') = w9 at *
        simp only [Act.put, List.setIfInBounds_toArray, List.set_cons_zero, List.set_cons_succ]
        change Exit.then _ _ _ _ _
        go_wp2_with (go_at_call 12; refine (change_any b5 0 b6 0 a b c a' b' c' _ ⟨K5.cell rfl, K5.cell rfl, K5.cell rfl⟩ ⟨K6.cell rfl, K6.cell rfl, K6.cell rfl⟩).mono ?_; rintro e wz ⟨rfl, hz⟩)
        go_ret
        exact ⟨rfl, ext_via hsz e1 E (hz.toB hs) (by omega)⟩
      refine (verIn_any _ _ _ _).mono ?_
      rintro e w10 ⟨rfl, h10⟩
      refine ⟨_, rfl, h10.toB hs, ?_⟩
      have E := E.trans (h10.toB hs)
      have hs := Nat.le_trans hs h10.size
      (try replace K5 := K5.ext h10)
      (try replace K6 := K6.ext h10)
      simp only [Act.put, List.setIfInBounds_toArray, List.set_cons_zero, List.set_cons_succ]
      refine wpS_alloc (some 5) { dst := some 5, op := Op.alloc 34, type := _, pos := _, after := _, guard := none } _ _ rfl rfl (by rfl) (by go_simp; try with_reducible rfl) ?_ ?_ trivial
      exact fun w' h => h.toB hs
      intro b5 w5 hb5 h5 K5
      have g5 : s + 2 ≤ b5 := by omega
      (try have n56 : b5 ≠ b6 := by (have := K6.lt; omega))
      have E := E.trans (h5.toB hs)
      have hs := Nat.le_trans hs h5.size
      (try replace K6 := K6.ext h5)
      clear hb5
      simp only [Act.put, List.setIfInBounds_toArray, List.set_cons_zero, List.set_cons_succ]
      refine wpS_val none { dst := none, op := Op.store 34 (Operand.tmp 5) (Operand.tmp 8), type := _, pos := _, after := _, guard := none } (undef) (set3 w5 b5 (.int .i64 a) (.int .i64 b) (.int .i64 c)) rfl rfl (by rfl) ?_ ?_ ?_ trivial
      (have c0 := K5.cell (o := 0) rfl; have c1 := K5.cell (o := 1) rfl; have c2 := K5.cell (o := 2) rfl; have f0 := K5.frozen 0; have f1 := K5.frozen 1; have f2 := K5.frozen 2; refine .inr ⟨rfl, ?_⟩; go_simp; try rfl)
      exact (ExtB.refl _ _).set3 g5 _ _ _
      have E := E.set3 g5 (.int .i64 a) (.int .i64 b) (.int .i64 c)
      replace K5 := K5.set3 (.int .i64 a) (.int .i64 b) (.int .i64 c)
      (try replace K6 := K6.set3_ne n56 (.int .i64 a) (.int .i64 b) (.int .i64 c))
      have hs := Nat.le_trans hs (Nat.le_of_eq (size_set3 w5 b5 (.int .i64 a) (.int .i64 b) (.int .i64 c)).symm)
      generalize set3 w5 b5 (.int .i64 a) (.int .i64 b) (.int .i64 c) = w7 at *
      simp only [Act.put, List.setIfInBounds_toArray, List.set_cons_zero, List.set_cons_succ]
      refine wpS_val none { dst := none, op := Op.store 34 (Operand.tmp 6) (Operand.tmp 10), type := _, pos := _, after := _, guard := none } (undef) (set3 w7 b6 (.int .i64 a') (.int .i64 b') (.int .i64 c')) rfl rfl (by rfl) ?_ ?_ ?_ trivial
      (have c0 := K6.cell (o := 0) rfl; have c1 := K6.cell (o := 1) rfl; have c2 := K6.cell (o := 2) rfl; have f0 := K6.frozen 0; have f1 := K6.frozen 1; have f2 := K6.frozen 2; refine .inr ⟨rfl, ?_⟩; go_simp; try rfl)
      exact (ExtB.refl _ _).set3 g6 _ _ _
      have E := E.set3 g6 (.int .i64 a') (.int .i64 b') (.int .i64 c')
      replace K6 := K6.set3 (.int .i64 a') (.int .i64 b') (.int .i64 c')
      replace K5 := K5.set3_ne n56.symm (.int .i64 a') (.int .i64 b') (.int .i64 c')
      have hs := Nat.le_trans hs (Nat.le_of_eq (size_set3 w7 b6 (.int .i64 a') (.int .i64 b') (.int .i64 c')).symm)
      generalize set3 w7 b6 (.int .i64 a') (.int .i64 b') (.int .i64 c') = w9 at *
      simp only [Act.put, List.setIfInBounds_toArray, List.set_cons_zero, List.set_cons_succ]
      change Exit.then _ _ _ _ _
      go_wp2_with (go_at_call 12; refine (change_any b5 0 b6 0 a b c a' b' c' _ ⟨K5.cell rfl, K5.cell rfl, K5.cell rfl⟩ ⟨K6.cell rfl, K6.cell rfl, K6.cell rfl⟩).mono ?_; rintro e wz ⟨rfl, hz⟩)
      go_ret
      exact ⟨rfl, ext_via hsz e1 E (hz.toB hs) (by omega)⟩
    exact fun w' h => h.toB hs
    intro b5 w5 hb5 h5 K5
    have g5 : s + 2 ≤ b5 := by omega
    (try have n56 : b5 ≠ b6 := by (have := K6.lt; omega))
    have E := E.trans (h5.toB hs)
    have hs := Nat.le_trans hs h5.size
    (try replace K6 := K6.ext h5)
    clear hb5
    simp only [Act.put, List.setIfInBounds_toArray, List.set_cons_zero, List.set_cons_succ]
    refine wpS_callm (some 8) { dst := some 8, op := Op.call { callee := Callee.value (Operand.func 11), args := #[Operand.tmp 7], argTypes := #[23] }, type := _, pos := _, after := _, guard := none } 11 _ rfl rfl (by rfl) (by go_simp; try with_reducible rfl) ?_ ?_
    rotate_right
    · skip
      refine wpS_alloc (some 6) { dst := some 6, op := Op.alloc 34, type := _, pos := _, after := _, guard := none } _ _ rfl rfl (by rfl) (by go_simp; try with_reducible rfl) ?_ ?_ trivial
      exact fun w' h => h.toB hs
      intro b6 w6 hb6 h6 K6
      have g6 : s + 2 ≤ b6 := by omega
      (try have n56 : b5 ≠ b6 := by (have := K5.lt; omega))
      have E := E.trans (h6.toB hs)
      have hs := Nat.le_trans hs h6.size
      (try replace K5 := K5.ext h6)
      clear hb6
      simp only [Act.put, List.setIfInBounds_toArray, List.set_cons_zero, List.set_cons_succ]
      refine wpS_callm (some 8) { dst := some 8, op := Op.call { callee := Callee.value (Operand.func 11), args := #[Operand.tmp 7], argTypes := #[23] }, type := _, pos := _, after := _, guard := none } 11 _ rfl rfl (by rfl) (by go_simp; try with_reducible rfl) ?_ trivial
      refine (verIn_any _ _ _ _).mono ?_
      rintro e w8 ⟨rfl, h8⟩
      refine ⟨_, rfl, h8.toB hs, ?_⟩
      have E := E.trans (h8.toB hs)
      have hs := Nat.le_trans hs h8.size
      (try replace K5 := K5.ext h8)
      (try replace K6 := K6.ext h8)
      simp only [Act.put, List.setIfInBounds_toArray, List.set_cons_zero, List.set_cons_succ]
      refine wpS_callm (some 10) { dst := some 10, op := Op.call { callee := Callee.value (Operand.func 11), args := #[Operand.tmp 9], argTypes := #[23] }, type := _, pos := _, after := _, guard := none } 11 _ rfl rfl (by rfl) (by go_simp; try with_reducible rfl) ?_ trivial
      refine (verIn_any _ _ _ _).mono ?_
      rintro e w10 ⟨rfl, h10⟩
      refine ⟨_, rfl, h10.toB hs, ?_⟩
      have E := E.trans (h10.toB hs)
      have hs := Nat.le_trans hs h10.size
      (try replace K5 := K5.ext h10)
      (try replace K6 := K6.ext h10)
      simp only [Act.put, List.setIfInBounds_toArray, List.set_cons_zero, List.set_cons_succ]
      refine wpS_val none { dst := none, op := Op.store 34 (Operand.tmp 5) (Operand.tmp 8), type := _, pos := _, after := _, guard := none } (undef) (set3 w10 b5 (.int .i64 a) (.int .i64 b) (.int .i64 c)) rfl rfl (by rfl) ?_ ?_ ?_ trivial
      (have c0 := K5.cell (o := 0) rfl; have c1 := K5.cell (o := 1) rfl; have c2 := K5.cell (o := 2) rfl; have f0 := K5.frozen 0; have f1 := K5.frozen 1; have f2 := K5.frozen 2; refine .inr ⟨rfl, ?_⟩; go_simp; try rfl)
      exact (ExtB.refl _ _).set3 g5 _ _ _
      have E := E.set3 g5 (.int .i64 a) (.int .i64 b) (.int .i64 c)
      replace K5 := K5.set3 (.int .i64 a) (.int .i64 b) (.int .i64 c)
      (try replace K6 := K6.set3_ne n56 (.int .i64 a) (.int .i64 b) (.int .i64 c))
      have hs := Nat.le_trans hs (Nat.le_of_eq (size_set3 w10 b5 (.int .i64 a) (.int .i64 b) (.int .i64 c)).symm)
      generalize set3 w10 b5 (.int .i64 a) (.int .i64 b) (.int .i64 c) = w7 at *
      simp only [Act.put, List.setIfInBounds_toArray, List.set_cons_zero, List.set_cons_succ]
      refine wpS_val none { dst := none, op := Op.store 34 (Operand.tmp 6) (Operand.tmp 10), type := _, pos := _, after := _, guard := none } (undef) (set3 w7 b6 (.int .i64 a') (.int .i64 b') (.int .i64 c')) rfl rfl (by rfl) ?_ ?_ ?_ trivial
      (have c0 := K6.cell (o := 0) rfl; have c1 := K6.cell (o := 1) rfl; have c2 := K6.cell (o := 2) rfl; have f0 := K6.frozen 0; have f1 := K6.frozen 1; have f2 := K6.frozen 2; refine .inr ⟨rfl, ?_⟩; go_simp; try rfl)
      exact (ExtB.refl _ _).set3 g6 _ _ _
      have E := E.set3 g6 (.int .i64 a') (.int .i64 b') (.int .i64 c')
      replace K6 := K6.set3 (.int .i64 a') (.int .i64 b') (.int .i64 c')
      replace K5 := K5.set3_ne n56.symm (.int .i64 a') (.int .i64 b') (.int .i64 c')
      have hs := Nat.le_trans hs (Nat.le_of_eq (size_set3 w7 b6 (.int .i64 a') (.int .i64 b') (.int .i64 c')).symm)
      generalize set3 w7 b6 (.int .i64 a') (.int .i64 b') (.int .i64 c') = w9 at *
      simp only [Act.put, List.setIfInBounds_toArray, List.set_cons_zero, List.set_cons_succ]
      change Exit.then _ _ _ _ _
      go_wp2_with (go_at_call 12; refine (change_any b5 0 b6 0 a b c a' b' c' _ ⟨K5.cell rfl, K5.cell rfl, K5.cell rfl⟩ ⟨K6.cell rfl, K6.cell rfl, K6.cell rfl⟩).mono ?_; rintro e wz ⟨rfl, hz⟩)
      go_ret
      exact ⟨rfl, ext_via hsz e1 E (hz.toB hs) (by omega)⟩
    refine (verIn_any _ _ _ _).mono ?_
    rintro e w8 ⟨rfl, h8⟩
    refine ⟨_, rfl, h8.toB hs, ?_⟩
    have E := E.trans (h8.toB hs)
    have hs := Nat.le_trans hs h8.size
    (try replace K5 := K5.ext h8)
    (try replace K6 := K6.ext h8)
    simp only [Act.put, List.setIfInBounds_toArray, List.set_cons_zero, List.set_cons_succ]
    refine wpS_callm (some 10) { dst := some 10, op := Op.call { callee := Callee.value (Operand.func 11), args := #[Operand.tmp 9], argTypes := #[23] }, type := _, pos := _, after := _, guard := none } 11 _ rfl rfl (by rfl) (by go_simp; try with_reducible rfl) ?_ ?_
    rotate_right
    · skip
      refine wpS_alloc (some 6) { dst := some 6, op := Op.alloc 34, type := _, pos := _, after := _, guard := none } _ _ rfl rfl (by rfl) (by go_simp; try with_reducible rfl) ?_ ?_ trivial
      exact fun w' h => h.toB hs
      intro b6 w6 hb6 h6 K6
      have g6 : s + 2 ≤ b6 := by omega
      (try have n56 : b5 ≠ b6 := by (have := K5.lt; omega))
      have E := E.trans (h6.toB hs)
      have hs := Nat.le_trans hs h6.size
      (try replace K5 := K5.ext h6)
      clear hb6
      simp only [Act.put, List.setIfInBounds_toArray, List.set_cons_zero, List.set_cons_succ]
      refine wpS_callm (some 10) { dst := some 10, op := Op.call { callee := Callee.value (Operand.func 11), args := #[Operand.tmp 9], argTypes := #[23] }, type := _, pos := _, after := _, guard := none } 11 _ rfl rfl (by rfl) (by go_simp; try with_reducible rfl) ?_ trivial
      refine (verIn_any _ _ _ _).mono ?_
      rintro e w10 ⟨rfl, h10⟩
      refine ⟨_, rfl, h10.toB hs, ?_⟩
      have E := E.trans (h10.toB hs)
      have hs := Nat.le_trans hs h10.size
      (try replace K5 := K5.ext h10)
      (try replace K6 := K6.ext h10)
      simp only [Act.put, List.setIfInBounds_toArray, List.set_cons_zero, List.set_cons_succ]
      refine wpS_val none { dst := none, op := Op.store 34 (Operand.tmp 5) (Operand.tmp 8), type := _, pos := _, after := _, guard := none } (undef) (set3 w10 b5 (.int .i64 a) (.int .i64 b) (.int .i64 c)) rfl rfl (by rfl) ?_ ?_ ?_ trivial
      (have c0 := K5.cell (o := 0) rfl; have c1 := K5.cell (o := 1) rfl; have c2 := K5.cell (o := 2) rfl; have f0 := K5.frozen 0; have f1 := K5.frozen 1; have f2 := K5.frozen 2; refine .inr ⟨rfl, ?_⟩; go_simp; try rfl)
      exact (ExtB.refl _ _).set3 g5 _ _ _
      have E := E.set3 g5 (.int .i64 a) (.int .i64 b) (.int .i64 c)
      replace K5 := K5.set3 (.int .i64 a) (.int .i64 b) (.int .i64 c)
      (try replace K6 := K6.set3_ne n56 (.int .i64 a) (.int .i64 b) (.int .i64 c))
      have hs := Nat.le_trans hs (Nat.le_of_eq (size_set3 w10 b5 (.int .i64 a) (.int .i64 b) (.int .i64 c)).symm)
      generalize set3 w10 b5 (.int .i64 a) (.int .i64 b) (.int .i64 c) = w7 at *
      simp only [Act.put, List.setIfInBounds_toArray, List.set_cons_zero, List.set_cons_succ]
      refine wpS_val none { dst := none, op := Op.store 34 (Operand.tmp 6) (Operand.tmp 10), type := _, pos := _, after := _, guard := none } (undef) (set3 w7 b6 (.int .i64 a') (.int .i64 b') (.int .i64 c')) rfl rfl (by rfl) ?_ ?_ ?_ trivial
      (have c0 := K6.cell (o := 0) rfl; have c1 := K6.cell (o := 1) rfl; have c2 := K6.cell (o := 2) rfl; have f0 := K6.frozen 0; have f1 := K6.frozen 1; have f2 := K6.frozen 2; refine .inr ⟨rfl, ?_⟩; go_simp; try rfl)
      exact (ExtB.refl _ _).set3 g6 _ _ _
      have E := E.set3 g6 (.int .i64 a') (.int .i64 b') (.int .i64 c')
      replace K6 := K6.set3 (.int .i64 a') (.int .i64 b') (.int .i64 c')
      replace K5 := K5.set3_ne n56.symm (.int .i64 a') (.int .i64 b') (.int .i64 c')
      have hs := Nat.le_trans hs (Nat.le_of_eq (size_set3 w7 b6 (.int .i64 a') (.int .i64 b') (.int .i64 c')).symm)
      generalize set3 w7 b6 (.int .i64 a') (.int .i64 b') (.int .i64 c') = w9 at *
      simp only [Act.put, List.setIfInBounds_toArray, List.set_cons_zero, List.set_cons_succ]
      change Exit.then _ _ _ _ _
      go_wp2_with (go_at_call 12; refine (change_any b5 0 b6 0 a b c a' b' c' _ ⟨K5.cell rfl, K5.cell rfl, K5.cell rfl⟩ ⟨K6.cell rfl, K6.cell rfl, K6.cell rfl⟩).mono ?_; rintro e wz ⟨rfl, hz⟩)
      go_ret
      exact ⟨rfl, ext_via hsz e1 E (hz.toB hs) (by omega)⟩
    refine (verIn_any _ _ _ _).mono ?_
    rintro e w10 ⟨rfl, h10⟩
    refine ⟨_, rfl, h10.toB hs, ?_⟩
    have E := E.trans (h10.toB hs)
    have hs := Nat.le_trans hs h10.size
    (try replace K5 := K5.ext h10)
    (try replace K6 := K6.ext h10)
    simp only [Act.put, List.setIfInBounds_toArray, List.set_cons_zero, List.set_cons_succ]
    refine wpS_alloc (some 6) { dst := some 6, op := Op.alloc 34, type := _, pos := _, after := _, guard := none } _ _ rfl rfl (by rfl) (by go_simp; try with_reducible rfl) ?_ ?_ trivial
    exact fun w' h => h.toB hs
    intro b6 w6 hb6 h6 K6
    have g6 : s + 2 ≤ b6 := by omega
    (try have n56 : b5 ≠ b6 := by (have := K5.lt; omega))
    have E := E.trans (h6.toB hs)
    have hs := Nat.le_trans hs h6.size
    (try replace K5 := K5.ext h6)
    clear hb6
    simp only [Act.put, List.setIfInBounds_toArray, List.set_cons_zero, List.set_cons_succ]
    refine wpS_val none { dst := none, op := Op.store 34 (Operand.tmp 5) (Operand.tmp 8), type := _, pos := _, after := _, guard := none } (undef) (set3 w6 b5 (.int .i64 a) (.int .i64 b) (.int .i64 c)) rfl rfl (by rfl) ?_ ?_ ?_ trivial
    (have c0 := K5.cell (o := 0) rfl; have c1 := K5.cell (o := 1) rfl; have c2 := K5.cell (o := 2) rfl; have f0 := K5.frozen 0; have f1 := K5.frozen 1; have f2 := K5.frozen 2; refine .inr ⟨rfl, ?_⟩; go_simp; try rfl)
    exact (ExtB.refl _ _).set3 g5 _ _ _
    have E := E.set3 g5 (.int .i64 a) (.int .i64 b) (.int .i64 c)
    replace K5 := K5.set3 (.int .i64 a) (.int .i64 b) (.int .i64 c)
    (try replace K6 := K6.set3_ne n56 (.int .i64 a) (.int .i64 b) (.int .i64 c))
    have hs := Nat.le_trans hs (Nat.le_of_eq (size_set3 w6 b5 (.int .i64 a) (.int .i64 b) (.int .i64 c)).symm)
    generalize set3 w6 b5 (.int .i64 a) (.int .i64 b) (.int .i64 c) = w7 at *
    simp only [Act.put, List.setIfInBounds_toArray, List.set_cons_zero, List.set_cons_succ]
    refine wpS_val none { dst := none, op := Op.store 34 (Operand.tmp 6) (Operand.tmp 10), type := _, pos := _, after := _, guard := none } (undef) (set3 w7 b6 (.int .i64 a') (.int .i64 b') (.int .i64 c')) rfl rfl (by rfl) ?_ ?_ ?_ trivial
    (have c0 := K6.cell (o := 0) rfl; have c1 := K6.cell (o := 1) rfl; have c2 := K6.cell (o := 2) rfl; have f0 := K6.frozen 0; have f1 := K6.frozen 1; have f2 := K6.frozen 2; refine .inr ⟨rfl, ?_⟩; go_simp; try rfl)
    exact (ExtB.refl _ _).set3 g6 _ _ _
    have E := E.set3 g6 (.int .i64 a') (.int .i64 b') (.int .i64 c')
    replace K6 := K6.set3 (.int .i64 a') (.int .i64 b') (.int .i64 c')
    replace K5 := K5.set3_ne n56.symm (.int .i64 a') (.int .i64 b') (.int .i64 c')
    have hs := Nat.le_trans hs (Nat.le_of_eq (size_set3 w7 b6 (.int .i64 a') (.int .i64 b') (.int .i64 c')).symm)
    generalize set3 w7 b6 (.int .i64 a') (.int .i64 b') (.int .i64 c') = w9 at *
    simp only [Act.put, List.setIfInBounds_toArray, List.set_cons_zero, List.set_cons_succ]
    change Exit.then _ _ _ _ _
    go_wp2_with (go_at_call 12; refine (change_any b5 0 b6 0 a b c a' b' c' _ ⟨K5.cell rfl, K5.cell rfl, K5.cell rfl⟩ ⟨K6.cell rfl, K6.cell rfl, K6.cell rfl⟩).mono ?_; rintro e wz ⟨rfl, hz⟩)
    go_ret
    exact ⟨rfl, ext_via hsz e1 E (hz.toB hs) (by omega)⟩
  refine (verIn_any _ _ _ _).mono ?_
  rintro e w8 ⟨rfl, h8⟩
  refine ⟨_, rfl, h8.toB hs, ?_⟩
  have E := E.trans (h8.toB hs)
  have hs := Nat.le_trans hs h8.size
  (try replace K5 := K5.ext h8)
  (try replace K6 := K6.ext h8)
  simp only [Act.put, List.setIfInBounds_toArray, List.set_cons_zero, List.set_cons_succ]
  refine wpS_callm (some 10) { dst := some 10, op := Op.call { callee := Callee.value (Operand.func 11), args := #[Operand.tmp 9], argTypes := #[23] }, type := _, pos := _, after := _, guard := none } 11 _ rfl rfl (by rfl) (by go_simp; try with_reducible rfl) ?_ ?_
  rotate_right
  · skip
    refine wpS_alloc (some 5) { dst := some 5, op := Op.alloc 34, type := _, pos := _, after := _, guard := none } _ _ rfl rfl (by rfl) (by go_simp; try with_reducible rfl) ?_ ?_ ?_
    rotate_right
    · skip
      refine wpS_alloc (some 6) { dst := some 6, op := Op.alloc 34, type := _, pos := _, after := _, guard := none } _ _ rfl rfl (by rfl) (by go_simp; try with_reducible rfl) ?_ ?_ trivial
      exact fun w' h => h.toB hs
      intro b6 w6 hb6 h6 K6
      have g6 : s + 2 ≤ b6 := by omega
      (try have n56 : b5 ≠ b6 := by (have := K5.lt; omega))
      have E := E.trans (h6.toB hs)
      have hs := Nat.le_trans hs h6.size
      (try replace K5 := K5.ext h6)
      clear hb6
      simp only [Act.put, List.setIfInBounds_toArray, List.set_cons_zero, List.set_cons_succ]
      refine wpS_callm (some 10) { dst := some 10, op := Op.call { callee := Callee.value (Operand.func 11), args := #[Operand.tmp 9], argTypes := #[23] }, type := _, pos := _, after := _, guard := none } 11 _ rfl rfl (by rfl) (by go_simp; try with_reducible rfl) ?_ ?_
      rotate_right
      · skip
        refine wpS_alloc (some 5) { dst := some 5, op := Op.alloc 34, type := _, pos := _, after := _, guard := none } _ _ rfl rfl (by rfl) (by go_simp; try with_reducible rfl) ?_ ?_ trivial
        exact fun w' h => h.toB hs
        intro b5 w5 hb5 h5 K5
        have g5 : s + 2 ≤ b5 := by omega
        (try have n56 : b5 ≠ b6 := by (have := K6.lt; omega))
        have E := E.trans (h5.toB hs)
        have hs := Nat.le_trans hs h5.size
        (try replace K6 := K6.ext h5)
        clear hb5
        simp only [Act.put, List.setIfInBounds_toArray, List.set_cons_zero, List.set_cons_succ]
        refine wpS_callm (some 10) { dst := some 10, op := Op.call { callee := Callee.value (Operand.func 11), args := #[Operand.tmp 9], argTypes := #[23] }, type := _, pos := _, after := _, guard := none } 11 _ rfl rfl (by rfl) (by go_simp; try with_reducible rfl) ?_ trivial
        refine (verIn_any _ _ _ _).mono ?_
        rintro e w10 ⟨rfl, h10⟩
        refine ⟨_, rfl, h10.toB hs, ?_⟩
        have E := E.trans (h10.toB hs)
        have hs := Nat.le_trans hs h10.size
        (try replace K5 := K5.ext h10)
        (try replace K6 := K6.ext h10)
        simp only [Act.put, List.setIfInBounds_toArray, List.set_cons_zero, List.set_cons_succ]
        refine wpS_val none { dst := none, op := Op.store 34 (Operand.tmp 5) (Operand.tmp 8), type := _, pos := _, after := _, guard := none } (undef) (set3 w10 b5 (.int .i64 a) (.int .i64 b) (.int .i64 c)) rfl rfl (by rfl) ?_ ?_ ?_ trivial
        (have c0 := K5.cell (o := 0) rfl; have c1 := K5.cell (o := 1) rfl; have c2 := K5.cell (o := 2) rfl; have f0 := K5.frozen 0; have f1 := K5.frozen 1; have f2 := K5.frozen 2; refine .inr ⟨rfl, ?_⟩; go_simp; try rfl)
        exact (ExtB.refl _ _).set3 g5 _ _ _
        have E := E.set3 g5 (.int .i64 a) (.int .i64 b) (.int .i64 c)
        replace K5 := K5.set3 (.int .i64 a) (.int .i64 b) (.int .i64 c)
        (try replace K6 := K6.set3_ne n56 (.int .i64 a) (.int .i64 b) (.int .i64 c))
        have hs := Nat.le_trans hs (Nat.le_of_eq (size_set3 w10 b5 (.int .i64 a) (.int .i64 b) (.int .i64 c)).symm)
        generalize set3 w10 b5 (.int .i64 a) (.int .i64 b) (.int .i64 c) = w7 at *
        simp only [Act.put, List.setIfInBounds_toArray, List.set_cons_zero, List.set_cons_succ]
        refine wpS_val none { dst := none, op := Op.store 34 (Operand.tmp 6) (Operand.tmp 10), type := _, pos := _, after := _, guard := none } (undef) (set3 w7 b6 (.int .i64 a') (.int .i64 b') (.int .i64 c')) rfl rfl (by rfl) ?_ ?_ ?_ trivial
        (have c0 := K6.cell (o := 0) rfl; have c1 := K6.cell (o := 1) rfl; have c2 := K6.cell (o := 2) rfl; have f0 := K6.frozen 0; have f1 := K6.frozen 1; have f2 := K6.frozen 2; refine .inr ⟨rfl, ?_⟩; go_simp; try rfl)
        exact (ExtB.refl _ _).set3 g6 _ _ _
        have E := E.set3 g6 (.int .i64 a') (.int .i64 b') (.int .i64 c')
        replace K6 := K6.set3 (.int .i64 a') (.int .i64 b') (.int .i64 c')
        replace K5 := K5.set3_ne n56.symm (.int .i64 a') (.int .i64 b') (.int .i64 c')
        have hs := Nat.le_trans hs (Nat.le_of_eq (size_set3 w7 b6 (.int .i64 a') (.int .i64 b') (.int .i64 c')).symm)
        generalize set3 w7 b6 (.int .i64 a') (.int .i64 b') (.int .i64 c') = w9 at *
        simp only [Act.put, List.setIfInBounds_toArray, List.set_cons_zero, List.set_cons_succ]
        change Exit.then _ _ _ _ _
        go_wp2_with (go_at_call 12; refine (change_any b5 0 b6 0 a b c a' b' c' _ ⟨K5.cell rfl, K5.cell rfl, K5.cell rfl⟩ ⟨K6.cell rfl, K6.cell rfl, K6.cell rfl⟩).mono ?_; rintro e wz ⟨rfl, hz⟩)
        go_ret
        exact ⟨rfl, ext_via hsz e1 E (hz.toB hs) (by omega)⟩
      refine (verIn_any _ _ _ _).mono ?_
      rintro e w10 ⟨rfl, h10⟩
      refine ⟨_, rfl, h10.toB hs, ?_⟩
      have E := E.trans (h10.toB hs)
      have hs := Nat.le_trans hs h10.size
      (try replace K5 := K5.ext h10)
      (try replace K6 := K6.ext h10)
      simp only [Act.put, List.setIfInBounds_toArray, List.set_cons_zero, List.set_cons_succ]
      refine wpS_alloc (some 5) { dst := some 5, op := Op.alloc 34, type := _, pos := _, after := _, guard := none } _ _ rfl rfl (by rfl) (by go_simp; try with_reducible rfl) ?_ ?_ trivial
      exact fun w' h => h.toB hs
      intro b5 w5 hb5 h5 K5
      have g5 : s + 2 ≤ b5 := by omega
      (try have n56 : b5 ≠ b6 := by (have := K6.lt; omega))
      have E := E.trans (h5.toB hs)
      have hs := Nat.le_trans hs h5.size
      (try replace K6 := K6.ext h5)
      clear hb5
      simp only [Act.put, List.setIfInBounds_toArray, List.set_cons_zero, List.set_cons_succ]
      refine wpS_val none { dst := none, op := Op.store 34 (Operand.tmp 5) (Operand.tmp 8), type := _, pos := _, after := _, guard := none } (undef) (set3 w5 b5 (.int .i64 a) (.int .i64 b) (.int .i64 c)) rfl rfl (by rfl) ?_ ?_ ?_ trivial
      (have c0 := K5.cell (o := 0) rfl; have c1 := K5.cell (o := 1) rfl; have c2 := K5.cell (o := 2) rfl; have f0 := K5.frozen 0; have f1 := K5.frozen 1; have f2 := K5.frozen 2; refine .inr ⟨rfl, ?_⟩; go_simp; try rfl)
      exact (ExtB.refl _ _).set3 g5 _ _ _
      have E := E.set3 g5 (.int .i64 a) (.int .i64 b) (.int .i64 c)
      replace K5 := K5.set3 (.int .i64 a) (.int .i64 b) (.int .i64 c)
      (try replace K6 := K6.set3_ne n56 (.int .i64 a) (.int .i64 b) (.int .i64 c))
      have hs := Nat.le_trans hs (Nat.le_of_eq (size_set3 w5 b5 (.int .i64 a) (.int .i64 b) (.int .i64 c)).symm)
      generalize set3 w5 b5 (.int .i64 a) (.int .i64 b) (.int .i64 c) = w7 at *
      simp only [Act.put, List.setIfInBounds_toArray, List.set_cons_zero, List.set_cons_succ]
      refine wpS_val none { dst := none, op := Op.store 34 (Operand.tmp 6) (Operand.tmp 10), type := _, pos := _, after := _, guard := none } (undef) (set3 w7 b6 (.int .i64 a') (.int .i64 b') (.int .i64 c')) rfl rfl (by rfl) ?_ ?_ ?_ trivial
      (have c0 := K6.cell (o := 0) rfl; have c1 := K6.cell (o := 1) rfl; have c2 := K6.cell (o := 2) rfl; have f0 := K6.frozen 0; have f1 := K6.frozen 1; have f2 := K6.frozen 2; refine .inr ⟨rfl, ?_⟩; go_simp; try rfl)
      exact (ExtB.refl _ _).set3 g6 _ _ _
      have E := E.set3 g6 (.int .i64 a') (.int .i64 b') (.int .i64 c')
      replace K6 := K6.set3 (.int .i64 a') (.int .i64 b') (.int .i64 c')
      replace K5 := K5.set3_ne n56.symm (.int .i64 a') (.int .i64 b') (.int .i64 c')
      have hs := Nat.le_trans hs (Nat.le_of_eq (size_set3 w7 b6 (.int .i64 a') (.int .i64 b') (.int .i64 c')).symm)
      generalize set3 w7 b6 (.int .i64 a') (.int .i64 b') (.int .i64 c') = w9 at *
      simp only [Act.put, List.setIfInBounds_toArray, List.set_cons_zero, List.set_cons_succ]
      change Exit.then _ _ _ _ _
      go_wp2_with (go_at_call 12; refine (change_any b5 0 b6 0 a b c a' b' c' _ ⟨K5.cell rfl, K5.cell rfl, K5.cell rfl⟩ ⟨K6.cell rfl, K6.cell rfl, K6.cell rfl⟩).mono ?_; rintro e wz ⟨rfl, hz⟩)
      go_ret
      exact ⟨rfl, ext_via hsz e1 E (hz.toB hs) (by omega)⟩
    exact fun w' h => h.toB hs
    intro b5 w5 hb5 h5 K5
    have g5 : s + 2 ≤ b5 := by omega
    (try have n56 : b5 ≠ b6 := by (have := K6.lt; omega))
    have E := E.trans (h5.toB hs)
    have hs := Nat.le_trans hs h5.size
    (try replace K6 := K6.ext h5)
    clear hb5
    simp only [Act.put, List.setIfInBounds_toArray, List.set_cons_zero, List.set_cons_succ]
    refine wpS_callm (some 10) { dst := some 10, op := Op.call { callee := Callee.value (Operand.func 11), args := #[Operand.tmp 9], argTypes := #[23] }, type := _, pos := _, after := _, guard := none } 11 _ rfl rfl (by rfl) (by go_simp; try with_reducible rfl) ?_ ?_
    rotate_right
    · skip
      refine wpS_alloc (some 6) { dst := some 6, op := Op.alloc 34, type := _, pos := _, after := _, guard := none } _ _ rfl rfl (by rfl) (by go_simp; try with_reducible rfl) ?_ ?_ trivial
      exact fun w' h => h.toB hs
      intro b6 w6 hb6 h6 K6
      have g6 : s + 2 ≤ b6 := by omega
      (try have n56 : b5 ≠ b6 := by (have := K5.lt; omega))
      have E := E.trans (h6.toB hs)
      have hs := Nat.le_trans hs h6.size
      (try replace K5 := K5.ext h6)
      clear hb6
      simp only [Act.put, List.setIfInBounds_toArray, List.set_cons_zero, List.set_cons_succ]
      refine wpS_callm (some 10) { dst := some 10, op := Op.call { callee := Callee.value (Operand.func 11), args := #[Operand.tmp 9], argTypes := #[23] }, type := _, pos := _, after := _, guard := none } 11 _ rfl rfl (by rfl) (by go_simp; try with_reducible rfl) ?_ trivial
      refine (verIn_any _ _ _ _).mono ?_
      rintro e w10 ⟨rfl, h10⟩
      refine ⟨_, rfl, h10.toB hs, ?_⟩
      have E := E.trans (h10.toB hs)
      have hs := Nat.le_trans hs h10.size
      (try replace K5 := K5.ext h10)
      (try replace K6 := K6.ext h10)
      simp only [Act.put, List.setIfInBounds_toArray, List.set_cons_zero, List.set_cons_succ]
      refine wpS_val none { dst := none, op := Op.store 34 (Operand.tmp 5) (Operand.tmp 8), type := _, pos := _, after := _, guard := none } (undef) (set3 w10 b5 (.int .i64 a) (.int .i64 b) (.int .i64 c)) rfl rfl (by rfl) ?_ ?_ ?_ trivial
      (have c0 := K5.cell (o := 0) rfl; have c1 := K5.cell (o := 1) rfl; have c2 := K5.cell (o := 2) rfl; have f0 := K5.frozen 0; have f1 := K5.frozen 1; have f2 := K5.frozen 2; refine .inr ⟨rfl, ?_⟩; go_simp; try rfl)
      exact (ExtB.refl _ _).set3 g5 _ _ _
      have E := E.set3 g5 (.int .i64 a) (.int .i64 b) (.int .i64 c)
      replace K5 := K5.set3 (.int .i64 a) (.int .i64 b) (.int .i64 c)
      (try replace K6 := K6.set3_ne n56 (.int .i64 a) (.int .i64 b) (.int .i64 c))
      have hs := Nat.le_trans hs (Nat.le_of_eq (size_set3 w10 b5 (.int .i64 a) (.int .i64 b) (.int .i64 c)).symm)
      generalize set3 w10 b5 (.int .i64 a) (.int .i64 b) (.int .i64 c) = w7 at *
      simp only [Act.put, List.setIfInBounds_toArray, List.set_cons_zero, List.set_cons_succ]
      refine wpS_val none { dst := none, op := Op.store 34 (Operand.tmp 6) (Operand.tmp 10), type := _, pos := _, after := _, guard := none } (undef) (set3 w7 b6 (.int .i64 a') (.int .i64 b') (.int .i64 c')) rfl rfl (by rfl) ?_ ?_ ?_ trivial
      (have c0 := K6.cell (o := 0) rfl; have c1 := K6.cell (o := 1) rfl; have c2 := K6.cell (o := 2) rfl; have f0 := K6.frozen 0; have f1 := K6.frozen 1; have f2 := K6.frozen 2; refine .inr ⟨rfl, ?_⟩; go_simp; try rfl)
      exact (ExtB.refl _ _).set3 g6 _ _ _
      have E := E.set3 g6 (.int .i64 a') (.int .i64 b') (.int .i64 c')
      replace K6 := K6.set3 (.int .i64 a') (.int .i64 b') (.int .i64 c')
      replace K5 := K5.set3_ne n56.symm (.int .i64 a') (.int .i64 b') (.int .i64 c')
      have hs := Nat.le_trans hs (Nat.le_of_eq (size_set3 w7 b6 (.int .i64 a') (.int .i64 b') (.int .i64 c')).symm)
      generalize set3 w7 b6 (.int .i64 a') (.int .i64 b') (.int .i64 c') = w9 at *
      simp only [Act.put, List.setIfInBounds_toArray, List.set_cons_zero, List.set_cons_succ]
      change Exit.then _ _ _ _ _
      go_wp2_with (go_at_call 12; refine (change_any b5 0 b6 0 a b c a' b' c' _ ⟨K5.cell rfl, K5.cell rfl, K5.cell rfl⟩ ⟨K6.cell rfl, K6.cell rfl, K6.cell rfl⟩).mono ?_; rintro e wz ⟨rfl, hz⟩)
      go_ret
      exact ⟨rfl, ext_via hsz e1 E (hz.toB hs) (by omega)⟩
    refine (verIn_any _ _ _ _).mono ?_
    rintro e w10 ⟨rfl, h10⟩
    refine ⟨_, rfl, h10.toB hs, ?_⟩
    have E := E.trans (h10.toB hs)
    have hs := Nat.le_trans hs h10.size
    (try replace K5 := K5.ext h10)
    (try replace K6 := K6.ext h10)
    simp only [Act.put, List.setIfInBounds_toArray, List.set_cons_zero, List.set_cons_succ]
    refine wpS_alloc (some 6) { dst := some 6, op := Op.alloc 34, type := _, pos := _, after := _, guard := none } _ _ rfl rfl (by rfl) (by go_simp; try with_reducible rfl) ?_ ?_ trivial
    exact fun w' h => h.toB hs
    intro b6 w6 hb6 h6 K6
    have g6 : s + 2 ≤ b6 := by omega
    (try have n56 : b5 ≠ b6 := by (have := K5.lt; omega))
    have E := E.trans (h6.toB hs)
    have hs := Nat.le_trans hs h6.size
    (try replace K5 := K5.ext h6)
    clear hb6
    simp only [Act.put, List.setIfInBounds_toArray, List.set_cons_zero, List.set_cons_succ]
    refine wpS_val none { dst := none, op := Op.store 34 (Operand.tmp 5) (Operand.tmp 8), type := _, pos := _, after := _, guard := none } (undef) (set3 w6 b5 (.int .i64 a) (.int .i64 b) (.int .i64 c)) rfl rfl (by rfl) ?_ ?_ ?_ trivial
    (have c0 := K5.cell (o := 0) rfl; have c1 := K5.cell (o := 1) rfl; have c2 := K5.cell (o := 2) rfl; have f0 := K5.frozen 0; have f1 := K5.frozen 1; have f2 := K5.frozen 2; refine .inr ⟨rfl, ?_⟩; go_simp; try rfl)
    exact (ExtB.refl _ _).set3 g5 _ _ _
    have E := E.set3 g5 (.int .i64 a) (.int .i64 b) (.int .i64 c)
    replace K5 := K5.set3 (.int .i64 a) (.int .i64 b) (.int .i64 c)
    (try replace K6 := K6.set3_ne n56 (.int .i64 a) (.int .i64 b) (.int .i64 c))
    have hs := Nat.le_trans hs (Nat.le_of_eq (size_set3 w6 b5 (.int .i64 a) (.int .i64 b) (.int .i64 c)).symm)
    generalize set3 w6 b5 (.int .i64 a) (.int .i64 b) (.int .i64 c) = w7 at *
    simp only [Act.put, List.setIfInBounds_toArray, List.set_cons_zero, List.set_cons_succ]
    refine wpS_val none { dst := none, op := Op.store 34 (Operand.tmp 6) (Operand.tmp 10), type := _, pos := _, after := _, guard := none } (undef) (set3 w7 b6 (.int .i64 a') (.int .i64 b') (.int .i64 c')) rfl rfl (by rfl) ?_ ?_ ?_ trivial
    (have c0 := K6.cell (o := 0) rfl; have c1 := K6.cell (o := 1) rfl; have c2 := K6.cell (o := 2) rfl; have f0 := K6.frozen 0; have f1 := K6.frozen 1; have f2 := K6.frozen 2; refine .inr ⟨rfl, ?_⟩; go_simp; try rfl)
    exact (ExtB.refl _ _).set3 g6 _ _ _
    have E := E.set3 g6 (.int .i64 a') (.int .i64 b') (.int .i64 c')
    replace K6 := K6.set3 (.int .i64 a') (.int .i64 b') (.int .i64 c')
    replace K5 := K5.set3_ne n56.symm (.int .i64 a') (.int .i64 b') (.int .i64 c')
    have hs := Nat.le_trans hs (Nat.le_of_eq (size_set3 w7 b6 (.int .i64 a') (.int .i64 b') (.int .i64 c')).symm)
    generalize set3 w7 b6 (.int .i64 a') (.int .i64 b') (.int .i64 c') = w9 at *
    simp only [Act.put, List.setIfInBounds_toArray, List.set_cons_zero, List.set_cons_succ]
    change Exit.then _ _ _ _ _
    go_wp2_with (go_at_call 12; refine (change_any b5 0 b6 0 a b c a' b' c' _ ⟨K5.cell rfl, K5.cell rfl, K5.cell rfl⟩ ⟨K6.cell rfl, K6.cell rfl, K6.cell rfl⟩).mono ?_; rintro e wz ⟨rfl, hz⟩)
    go_ret
    exact ⟨rfl, ext_via hsz e1 E (hz.toB hs) (by omega)⟩
  refine (verIn_any _ _ _ _).mono ?_
  rintro e w10 ⟨rfl, h10⟩
  refine ⟨_, rfl, h10.toB hs, ?_⟩
  have E := E.trans (h10.toB hs)
  have hs := Nat.le_trans hs h10.size
  (try replace K5 := K5.ext h10)
  (try replace K6 := K6.ext h10)
  simp only [Act.put, List.setIfInBounds_toArray, List.set_cons_zero, List.set_cons_succ]
  refine wpS_alloc (some 5) { dst := some 5, op := Op.alloc 34, type := _, pos := _, after := _, guard := none } _ _ rfl rfl (by rfl) (by go_simp; try with_reducible rfl) ?_ ?_ ?_
  rotate_right
  · skip
    refine wpS_alloc (some 6) { dst := some 6, op := Op.alloc 34, type := _, pos := _, after := _, guard := none } _ _ rfl rfl (by rfl) (by go_simp; try with_reducible rfl) ?_ ?_ trivial
    exact fun w' h => h.toB hs
    intro b6 w6 hb6 h6 K6
    have g6 : s + 2 ≤ b6 := by omega
    (try have n56 : b5 ≠ b6 := by (have := K5.lt; omega))
    have E := E.trans (h6.toB hs)
    have hs := Nat.le_trans hs h6.size
    (try replace K5 := K5.ext h6)
    clear hb6
    simp only [Act.put, List.setIfInBounds_toArray, List.set_cons_zero, List.set_cons_succ]
    refine wpS_alloc (some 5) { dst := some 5, op := Op.alloc 34, type := _, pos := _, after := _, guard := none } _ _ rfl rfl (by rfl) (by go_simp; try with_reducible rfl) ?_ ?_ trivial
    exact fun w' h => h.toB hs
    intro b5 w5 hb5 h5 K5
    have g5 : s + 2 ≤ b5 := by omega
    (try have n56 : b5 ≠ b6 := by (have := K6.lt; omega))
    have E := E.trans (h5.toB hs)
    have hs := Nat.le_trans hs h5.size
    (try replace K6 := K6.ext h5)
    clear hb5
    simp only [Act.put, List.setIfInBounds_toArray, List.set_cons_zero, List.set_cons_succ]
    refine wpS_val none { dst := none, op := Op.store 34 (Operand.tmp 5) (Operand.tmp 8), type := _, pos := _, after := _, guard := none } (undef) (set3 w5 b5 (.int .i64 a) (.int .i64 b) (.int .i64 c)) rfl rfl (by rfl) ?_ ?_ ?_ trivial
    (have c0 := K5.cell (o := 0) rfl; have c1 := K5.cell (o := 1) rfl; have c2 := K5.cell (o := 2) rfl; have f0 := K5.frozen 0; have f1 := K5.frozen 1; have f2 := K5.frozen 2; refine .inr ⟨rfl, ?_⟩; go_simp; try rfl)
    exact (ExtB.refl _ _).set3 g5 _ _ _
    have E := E.set3 g5 (.int .i64 a) (.int .i64 b) (.int .i64 c)
    replace K5 := K5.set3 (.int .i64 a) (.int .i64 b) (.int .i64 c)
    (try replace K6 := K6.set3_ne n56 (.int .i64 a) (.int .i64 b) (.int .i64 c))
    have hs := Nat.le_trans hs (Nat.le_of_eq (size_set3 w5 b5 (.int .i64 a) (.int .i64 b) (.int .i64 c)).symm)
    generalize set3 w5 b5 (.int .i64 a) (.int .i64 b) (.int .i64 c) = w7 at *
    simp only [Act.put, List.setIfInBounds_toArray, List.set_cons_zero, List.set_cons_succ]
    refine wpS_val none { dst := none, op := Op.store 34 (Operand.tmp 6) (Operand.tmp 10), type := _, pos := _, after := _, guard := none } (undef) (set3 w7 b6 (.int .i64 a') (.int .i64 b') (.int .i64 c')) rfl rfl (by rfl) ?_ ?_ ?_ trivial
    (have c0 := K6.cell (o := 0) rfl; have c1 := K6.cell (o := 1) rfl; have c2 := K6.cell (o := 2) rfl; have f0 := K6.frozen 0; have f1 := K6.frozen 1; have f2 := K6.frozen 2; refine .inr ⟨rfl, ?_⟩; go_simp; try rfl)
    exact (ExtB.refl _ _).set3 g6 _ _ _
    have E := E.set3 g6 (.int .i64 a') (.int .i64 b') (.int .i64 c')
    replace K6 := K6.set3 (.int .i64 a') (.int .i64 b') (.int .i64 c')
    replace K5 := K5.set3_ne n56.symm (.int .i64 a') (.int .i64 b') (.int .i64 c')
    have hs := Nat.le_trans hs (Nat.le_of_eq (size_set3 w7 b6 (.int .i64 a') (.int .i64 b') (.int .i64 c')).symm)
    generalize set3 w7 b6 (.int .i64 a') (.int .i64 b') (.int .i64 c') = w9 at *
    simp only [Act.put, List.setIfInBounds_toArray, List.set_cons_zero, List.set_cons_succ]
    change Exit.then _ _ _ _ _
    go_wp2_with (go_at_call 12; refine (change_any b5 0 b6 0 a b c a' b' c' _ ⟨K5.cell rfl, K5.cell rfl, K5.cell rfl⟩ ⟨K6.cell rfl, K6.cell rfl, K6.cell rfl⟩).mono ?_; rintro e wz ⟨rfl, hz⟩)
    go_ret
    exact ⟨rfl, ext_via hsz e1 E (hz.toB hs) (by omega)⟩
  exact fun w' h => h.toB hs
  intro b5 w5 hb5 h5 K5
  have g5 : s + 2 ≤ b5 := by omega
  (try have n56 : b5 ≠ b6 := by (have := K6.lt; omega))
  have E := E.trans (h5.toB hs)
  have hs := Nat.le_trans hs h5.size
  (try replace K6 := K6.ext h5)
  clear hb5
  simp only [Act.put, List.setIfInBounds_toArray, List.set_cons_zero, List.set_cons_succ]
  refine wpS_alloc (some 6) { dst := some 6, op := Op.alloc 34, type := _, pos := _, after := _, guard := none } _ _ rfl rfl (by rfl) (by go_simp; try with_reducible rfl) ?_ ?_ trivial
  exact fun w' h => h.toB hs
  intro b6 w6 hb6 h6 K6
  have g6 : s + 2 ≤ b6 := by omega
  (try have n56 : b5 ≠ b6 := by (have := K5.lt; omega))
  have E := E.trans (h6.toB hs)
  have hs := Nat.le_trans hs h6.size
  (try replace K5 := K5.ext h6)
  clear hb6
  simp only [Act.put, List.setIfInBounds_toArray, List.set_cons_zero, List.set_cons_succ]
  refine wpS_val none { dst := none, op := Op.store 34 (Operand.tmp 5) (Operand.tmp 8), type := _, pos := _, after := _, guard := none } (undef) (set3 w6 b5 (.int .i64 a) (.int .i64 b) (.int .i64 c)) rfl rfl (by rfl) ?_ ?_ ?_ trivial
  (have c0 := K5.cell (o := 0) rfl; have c1 := K5.cell (o := 1) rfl; have c2 := K5.cell (o := 2) rfl; have f0 := K5.frozen 0; have f1 := K5.frozen 1; have f2 := K5.frozen 2; refine .inr ⟨rfl, ?_⟩; go_simp; try rfl)
  exact (ExtB.refl _ _).set3 g5 _ _ _
  have E := E.set3 g5 (.int .i64 a) (.int .i64 b) (.int .i64 c)
  replace K5 := K5.set3 (.int .i64 a) (.int .i64 b) (.int .i64 c)
  (try replace K6 := K6.set3_ne n56 (.int .i64 a) (.int .i64 b) (.int .i64 c))
  have hs := Nat.le_trans hs (Nat.le_of_eq (size_set3 w6 b5 (.int .i64 a) (.int .i64 b) (.int .i64 c)).symm)
  generalize set3 w6 b5 (.int .i64 a) (.int .i64 b) (.int .i64 c) = w7 at *
  simp only [Act.put, List.setIfInBounds_toArray, List.set_cons_zero, List.set_cons_succ]
  refine wpS_val none { dst := none, op := Op.store 34 (Operand.tmp 6) (Operand.tmp 10), type := _, pos := _, after := _, guard := none } (undef) (set3 w7 b6 (.int .i64 a') (.int .i64 b') (.int .i64 c')) rfl rfl (by rfl) ?_ ?_ ?_ trivial
  (have c0 := K6.cell (o := 0) rfl; have c1 := K6.cell (o := 1) rfl; have c2 := K6.cell (o := 2) rfl; have f0 := K6.frozen 0; have f1 := K6.frozen 1; have f2 := K6.frozen 2; refine .inr ⟨rfl, ?_⟩; go_simp; try rfl)
  exact (ExtB.refl _ _).set3 g6 _ _ _
  have E := E.set3 g6 (.int .i64 a') (.int .i64 b') (.int .i64 c')
  replace K6 := K6.set3 (.int .i64 a') (.int .i64 b') (.int .i64 c')
  replace K5 := K5.set3_ne n56.symm (.int .i64 a') (.int .i64 b') (.int .i64 c')
  have hs := Nat.le_trans hs (Nat.le_of_eq (size_set3 w7 b6 (.int .i64 a') (.int .i64 b') (.int .i64 c')).symm)
  generalize set3 w7 b6 (.int .i64 a') (.int .i64 b') (.int .i64 c') = w9 at *
  simp only [Act.put, List.setIfInBounds_toArray, List.set_cons_zero, List.set_cons_succ]
  change Exit.then _ _ _ _ _
  go_wp2_with (go_at_call 12; refine (change_any b5 0 b6 0 a b c a' b' c' _ ⟨K5.cell rfl, K5.cell rfl, K5.cell rfl⟩ ⟨K6.cell rfl, K6.cell rfl, K6.cell rfl⟩).mono ?_; rintro e wz ⟨rfl, hz⟩)
  go_ret
  exact ⟨rfl, ext_via hsz e1 E (hz.toB hs) (by omega)⟩

noncomputable def ops_7_1 : Array Oper := opsAt Try.f7 1
set_option maxHeartbeats 1000000 in
theorem specChange_any (a b c a' b' c' : Int) (w : World) :
    Calls Try.prog 7 #[vv a b c, vv a' b' c'] w fun e w' => e = .returned (.bool (vchange a b a' b')) ∧ Ext w w' := by
  go_enter Try.func7, Try.ntmps7
  go_wp2
  obtain ⟨w1, hw1⟩ : ∃ u : World, u = ((w.alloc (Obj.cells #[Value.int IntKind.i64 a, Value.int IntKind.i64 b, Value.int IntKind.i64 c] 23)).alloc
      (Obj.cells #[Value.int IntKind.i64 a', Value.int IntKind.i64 b', Value.int IntKind.i64 c'] 23)) := ⟨_, rfl⟩
  have e1 : Ext w w1 := by rw [hw1]; exact (((Ext.refl _).alloc _).alloc _)
  have KA : Blk w1 w.heap.size 23 [.int .i64 a, .int .i64 b, .int .i64 c] := by rw [hw1]; exact (Blk.new w _ _).ext ((Ext.refl _).alloc _)
  have KB : Blk w1 (w.heap.size + 1) 23 [.int .i64 a', .int .i64 b', .int .i64 c'] := by
    have h := Blk.new (w.alloc (Obj.cells #[Value.int IntKind.i64 a, Value.int IntKind.i64 b, Value.int IntKind.i64 c] 23)) 23 [.int .i64 a', .int .i64 b', .int .i64 c']
    rw [hw1]; simpa using h
  have hs : w.heap.size ≤ w1.heap.size := e1.size
  rw [← hw1]
  clear hw1
  have hs0 : w.heap.size ≤ w.heap.size := Nat.le_refl _
  generalize hsz : w.heap.size = s at *
  have g5 : s ≤ s := Nat.le_refl _
  have g6 : s ≤ s + 1 := Nat.le_succ _
  refine wp_region_sched (ops := ops_7_1) (ExtB s) (.loud 0 (.loud 1 (.loud 2 (.loud 3 (.loud 4 (.loud 5 (.done) (.stop)) (.stop)) (.stop)) (.stop)) (.loud 2 (.loud 1 (.loud 3 (.loud 4 (.loud 5 (.done) (.stop)) (.stop)) (.stop)) (.stop)) (.stop))) (.loud 2 (.loud 0 (.loud 1 (.loud 3 (.loud 4 (.loud 5 (.done) (.stop)) (.stop)) (.stop)) (.stop)) (.stop)) (.stop))) (by kernel_rfl) (extB_refl s) (extB_trans s) (by kernel_rfl) (fun _ _ d _ _ h => by cases d <;> exact h) ?_
  have E : ExtB s w1 w1.drew := ExtB.refl _ _
  replace hs : s ≤ w1.drew.heap.size := hs
  replace KA := KA.drew
  replace KB := KB.drew
  refine wpS_val (some 5) { dst := some 5, op := Op.load 23 (Operand.tmp 2), type := _, pos := _, after := _, guard := none } (vv a b c) (w1.drew) rfl rfl (by rfl) ?_ ?_ ?_ ?_
  rotate_right
  · skip
    refine wpS_val (some 7) { dst := some 7, op := Op.load 23 (Operand.tmp 3), type := _, pos := _, after := _, guard := none } (vv a' b' c') (w1.drew) rfl rfl (by rfl) ?_ ?_ ?_ trivial
    (have c0 := KB.cell (o := 0) rfl; have c1 := KB.cell (o := 1) rfl; have c2 := KB.cell (o := 2) rfl; refine .inl ?_; go_simp; try rfl)
    exact ExtB.refl _ _
    simp only [Act.put, List.setIfInBounds_toArray, List.set_cons_zero, List.set_cons_succ]
    refine wpS_val (some 5) { dst := some 5, op := Op.load 23 (Operand.tmp 2), type := _, pos := _, after := _, guard := none } (vv a b c) (w1.drew) rfl rfl (by rfl) ?_ ?_ ?_ trivial
    (have c0 := KA.cell (o := 0) rfl; have c1 := KA.cell (o := 1) rfl; have c2 := KA.cell (o := 2) rfl; refine .inl ?_; go_simp; try rfl)
    exact ExtB.refl _ _
    simp only [Act.put, List.setIfInBounds_toArray, List.set_cons_zero, List.set_cons_succ]
    refine wpS_callm (some 6) { dst := some 6, op := Op.call { callee := Callee.value (Operand.func 13), args := #[Operand.tmp 5], argTypes := #[23] }, type := _, pos := _, after := _, guard := none } 13 _ rfl rfl (by rfl) (by go_simp; try with_reducible rfl) ?_ trivial
    refine (specBase_any _ _ _ _).mono ?_
    rintro e w8 ⟨rfl, h8⟩
    refine ⟨_, rfl, h8.toB hs, ?_⟩
    have E := E.trans (h8.toB hs)
    have hs := Nat.le_trans hs h8.size
    replace KA := KA.ext h8
    replace KB := KB.ext h8
    simp only [Act.put, List.setIfInBounds_toArray, List.set_cons_zero, List.set_cons_succ]
    refine wpS_callm (some 8) { dst := some 8, op := Op.call { callee := Callee.value (Operand.func 13), args := #[Operand.tmp 7], argTypes := #[23] }, type := _, pos := _, after := _, guard := none } 13 _ rfl rfl (by rfl) (by go_simp; try with_reducible rfl) ?_ trivial
    refine (specBase_any _ _ _ _).mono ?_
    rintro e w10 ⟨rfl, h10⟩
    refine ⟨_, rfl, h10.toB hs, ?_⟩
    have E := E.trans (h10.toB hs)
    have hs := Nat.le_trans hs h10.size
    replace KA := KA.ext h10
    replace KB := KB.ext h10
    simp only [Act.put, List.setIfInBounds_toArray, List.set_cons_zero, List.set_cons_succ]
    refine wpS_val none { dst := none, op := Op.store 23 (Operand.tmp 2) (Operand.tmp 6), type := _, pos := _, after := _, guard := none } (undef) (set3 w10 s (.int .i64 a) (.int .i64 b) (.int .i64 0)) rfl rfl (by rfl) ?_ ?_ ?_ trivial
    (have c0 := KA.cell (o := 0) rfl; have c1 := KA.cell (o := 1) rfl; have c2 := KA.cell (o := 2) rfl; have f0 := KA.frozen 0; have f1 := KA.frozen 1; have f2 := KA.frozen 2; refine .inr ⟨rfl, ?_⟩; go_simp; try rfl)
    exact (ExtB.refl _ _).set3 g5 _ _ _
    have E := E.set3 g5 (.int .i64 a) (.int .i64 b) (.int .i64 0)
    replace KA := KA.set3 (.int .i64 a) (.int .i64 b) (.int .i64 0)
    replace KB := KB.set3_ne (by omega : s ≠ s + 1) (.int .i64 a) (.int .i64 b) (.int .i64 0)
    have hs := Nat.le_trans hs (Nat.le_of_eq (size_set3 w10 s (.int .i64 a) (.int .i64 b) (.int .i64 0)).symm)
    generalize set3 w10 s (.int .i64 a) (.int .i64 b) (.int .i64 0) = w7 at *
    simp only [Act.put, List.setIfInBounds_toArray, List.set_cons_zero, List.set_cons_succ]
    refine wpS_val none { dst := none, op := Op.store 23 (Operand.tmp 3) (Operand.tmp 8), type := _, pos := _, after := _, guard := none } (undef) (set3 w7 (s + 1) (.int .i64 a') (.int .i64 b') (.int .i64 0)) rfl rfl (by rfl) ?_ ?_ ?_ trivial
    (have c0 := KB.cell (o := 0) rfl; have c1 := KB.cell (o := 1) rfl; have c2 := KB.cell (o := 2) rfl; have f0 := KB.frozen 0; have f1 := KB.frozen 1; have f2 := KB.frozen 2; refine .inr ⟨rfl, ?_⟩; go_simp; try rfl)
    exact (ExtB.refl _ _).set3 g6 _ _ _
    have E := E.set3 g6 (.int .i64 a') (.int .i64 b') (.int .i64 0)
    replace KB := KB.set3 (.int .i64 a') (.int .i64 b') (.int .i64 0)
    replace KA := KA.set3_ne (by omega : s + 1 ≠ s) (.int .i64 a') (.int .i64 b') (.int .i64 0)
    have hs := Nat.le_trans hs (Nat.le_of_eq (size_set3 w7 (s + 1) (.int .i64 a') (.int .i64 b') (.int .i64 0)).symm)
    generalize set3 w7 (s + 1) (.int .i64 a') (.int .i64 b') (.int .i64 0) = w9 at *
    simp only [Act.put, List.setIfInBounds_toArray, List.set_cons_zero, List.set_cons_succ]
    change Exit.then _ _ _ _ _
    have c0 := KA.cell (o := 0) rfl; have c1 := KA.cell (o := 1) rfl; have c2 := KA.cell (o := 2) rfl; have d0 := KB.cell (o := 0) rfl; have d1 := KB.cell (o := 1) rfl; have d2 := KB.cell (o := 2) rfl
    by_cases hd : vdown a b a' b' 0 = true
    · (go_wp2_with (go_at_call 14; refine (specDown_any _ _ _ _ _ _ _).mono ?_; rintro e wz ⟨rfl, hz⟩; rw [hd]); go_ret; exact ⟨by simp [vchange, hd], ext_via hsz e1 E (hz.toB hs) (Nat.le_refl _)⟩)
    · (have hd' : vdown a b a' b' 0 = false := by simpa using hd)
      by_cases ha : a = a'
      · (subst ha; have hab : (a == a) = true := by simp)
        go_wp2_with (first | (go_at_call 14; refine (specDown_any _ _ _ _ _ _ _).mono ?_; rintro e wz ⟨rfl, hz⟩; rw [hd']; have c0 := (KA.ext hz).cell (o := 0) rfl; have c1 := (KA.ext hz).cell (o := 1) rfl; have c2 := (KA.ext hz).cell (o := 2) rfl; have d0 := (KB.ext hz).cell (o := 0) rfl; have d1 := (KB.ext hz).cell (o := 1) rfl; have d2 := (KB.ext hz).cell (o := 2) rfl) | (go_at_call 15; refine (specLess_any _ _ _ _ _ _ _).mono ?_; rintro e wy ⟨rfl, hy⟩))
        go_ret
        exact ⟨by simp [vchange, hd'], ext_via hsz e1 E ((hz.trans hy).toB hs) (Nat.le_refl _)⟩
      · (have hab : (a == a') = false := by simpa using ha)
        go_wp2_with (go_at_call 14; refine (specDown_any _ _ _ _ _ _ _).mono ?_; rintro e wz ⟨rfl, hz⟩; rw [hd']; have c0 := (KA.ext hz).cell (o := 0) rfl; have c1 := (KA.ext hz).cell (o := 1) rfl; have c2 := (KA.ext hz).cell (o := 2) rfl; have d0 := (KB.ext hz).cell (o := 0) rfl; have d1 := (KB.ext hz).cell (o := 1) rfl; have d2 := (KB.ext hz).cell (o := 2) rfl)
        go_ret
        exact ⟨by simp [vchange, hd', hab], ext_via hsz e1 E (hz.toB hs) (Nat.le_refl _)⟩
  (have c0 := KA.cell (o := 0) rfl; have c1 := KA.cell (o := 1) rfl; have c2 := KA.cell (o := 2) rfl; refine .inl ?_; go_simp; try rfl)
  exact ExtB.refl _ _
  simp only [Act.put, List.setIfInBounds_toArray, List.set_cons_zero, List.set_cons_succ]
  refine wpS_callm (some 6) { dst := some 6, op := Op.call { callee := Callee.value (Operand.func 13), args := #[Operand.tmp 5], argTypes := #[23] }, type := _, pos := _, after := _, guard := none } 13 _ rfl rfl (by rfl) (by go_simp; try with_reducible rfl) ?_ ?_
  rotate_right
  · skip
    refine wpS_val (some 7) { dst := some 7, op := Op.load 23 (Operand.tmp 3), type := _, pos := _, after := _, guard := none } (vv a' b' c') (w1.drew) rfl rfl (by rfl) ?_ ?_ ?_ trivial
    (have c0 := KB.cell (o := 0) rfl; have c1 := KB.cell (o := 1) rfl; have c2 := KB.cell (o := 2) rfl; refine .inl ?_; go_simp; try rfl)
    exact ExtB.refl _ _
    simp only [Act.put, List.setIfInBounds_toArray, List.set_cons_zero, List.set_cons_succ]
    refine wpS_callm (some 6) { dst := some 6, op := Op.call { callee := Callee.value (Operand.func 13), args := #[Operand.tmp 5], argTypes := #[23] }, type := _, pos := _, after := _, guard := none } 13 _ rfl rfl (by rfl) (by go_simp; try with_reducible rfl) ?_ trivial
    refine (specBase_any _ _ _ _).mono ?_
    rintro e w8 ⟨rfl, h8⟩
    refine ⟨_, rfl, h8.toB hs, ?_⟩
    have E := E.trans (h8.toB hs)
    have hs := Nat.le_trans hs h8.size
    replace KA := KA.ext h8
    replace KB := KB.ext h8
    simp only [Act.put, List.setIfInBounds_toArray, List.set_cons_zero, List.set_cons_succ]
    refine wpS_callm (some 8) { dst := some 8, op := Op.call { callee := Callee.value (Operand.func 13), args := #[Operand.tmp 7], argTypes := #[23] }, type := _, pos := _, after := _, guard := none } 13 _ rfl rfl (by rfl) (by go_simp; try with_reducible rfl) ?_ trivial
    refine (specBase_any _ _ _ _).mono ?_
    rintro e w10 ⟨rfl, h10⟩
    refine ⟨_, rfl, h10.toB hs, ?_⟩
    have E := E.trans (h10.toB hs)
    have hs := Nat.le_trans hs h10.size
    replace KA := KA.ext h10
    replace KB := KB.ext h10
    simp only [Act.put, List.setIfInBounds_toArray, List.set_cons_zero, List.set_cons_succ]
    refine wpS_val none { dst := none, op := Op.store 23 (Operand.tmp 2) (Operand.tmp 6), type := _, pos := _, after := _, guard := none } (undef) (set3 w10 s (.int .i64 a) (.int .i64 b) (.int .i64 0)) rfl rfl (by rfl) ?_ ?_ ?_ trivial
    (have c0 := KA.cell (o := 0) rfl; have c1 := KA.cell (o := 1) rfl; have c2 := KA.cell (o := 2) rfl; have f0 := KA.frozen 0; have f1 := KA.frozen 1; have f2 := KA.frozen 2; refine .inr ⟨rfl, ?_⟩; go_simp; try rfl)
    exact (ExtB.refl _ _).set3 g5 _ _ _
    have E := E.set3 g5 (.int .i64 a) (.int .i64 b) (.int .i64 0)
    replace KA := KA.set3 (.int .i64 a) (.int .i64 b) (.int .i64 0)
    replace KB := KB.set3_ne (by omega : s ≠ s + 1) (.int .i64 a) (.int .i64 b) (.int .i64 0)
    have hs := Nat.le_trans hs (Nat.le_of_eq (size_set3 w10 s (.int .i64 a) (.int .i64 b) (.int .i64 0)).symm)
    generalize set3 w10 s (.int .i64 a) (.int .i64 b) (.int .i64 0) = w7 at *
    simp only [Act.put, List.setIfInBounds_toArray, List.set_cons_zero, List.set_cons_succ]
    refine wpS_val none { dst := none, op := Op.store 23 (Operand.tmp 3) (Operand.tmp 8), type := _, pos := _, after := _, guard := none } (undef) (set3 w7 (s + 1) (.int .i64 a') (.int .i64 b') (.int .i64 0)) rfl rfl (by rfl) ?_ ?_ ?_ trivial
    (have c0 := KB.cell (o := 0) rfl; have c1 := KB.cell (o := 1) rfl; have c2 := KB.cell (o := 2) rfl; have f0 := KB.frozen 0; have f1 := KB.frozen 1; have f2 := KB.frozen 2; refine .inr ⟨rfl, ?_⟩; go_simp; try rfl)
    exact (ExtB.refl _ _).set3 g6 _ _ _
    have E := E.set3 g6 (.int .i64 a') (.int .i64 b') (.int .i64 0)
    replace KB := KB.set3 (.int .i64 a') (.int .i64 b') (.int .i64 0)
    replace KA := KA.set3_ne (by omega : s + 1 ≠ s) (.int .i64 a') (.int .i64 b') (.int .i64 0)
    have hs := Nat.le_trans hs (Nat.le_of_eq (size_set3 w7 (s + 1) (.int .i64 a') (.int .i64 b') (.int .i64 0)).symm)
    generalize set3 w7 (s + 1) (.int .i64 a') (.int .i64 b') (.int .i64 0) = w9 at *
    simp only [Act.put, List.setIfInBounds_toArray, List.set_cons_zero, List.set_cons_succ]
    change Exit.then _ _ _ _ _
    have c0 := KA.cell (o := 0) rfl; have c1 := KA.cell (o := 1) rfl; have c2 := KA.cell (o := 2) rfl; have d0 := KB.cell (o := 0) rfl; have d1 := KB.cell (o := 1) rfl; have d2 := KB.cell (o := 2) rfl
    by_cases hd : vdown a b a' b' 0 = true
    · (go_wp2_with (go_at_call 14; refine (specDown_any _ _ _ _ _ _ _).mono ?_; rintro e wz ⟨rfl, hz⟩; rw [hd]); go_ret; exact ⟨by simp [vchange, hd], ext_via hsz e1 E (hz.toB hs) (Nat.le_refl _)⟩)
    · (have hd' : vdown a b a' b' 0 = false := by simpa using hd)
      by_cases ha : a = a'
      · (subst ha; have hab : (a == a) = true := by simp)
        go_wp2_with (first | (go_at_call 14; refine (specDown_any _ _ _ _ _ _ _).mono ?_; rintro e wz ⟨rfl, hz⟩; rw [hd']; have c0 := (KA.ext hz).cell (o := 0) rfl; have c1 := (KA.ext hz).cell (o := 1) rfl; have c2 := (KA.ext hz).cell (o := 2) rfl; have d0 := (KB.ext hz).cell (o := 0) rfl; have d1 := (KB.ext hz).cell (o := 1) rfl; have d2 := (KB.ext hz).cell (o := 2) rfl) | (go_at_call 15; refine (specLess_any _ _ _ _ _ _ _).mono ?_; rintro e wy ⟨rfl, hy⟩))
        go_ret
        exact ⟨by simp [vchange, hd'], ext_via hsz e1 E ((hz.trans hy).toB hs) (Nat.le_refl _)⟩
      · (have hab : (a == a') = false := by simpa using ha)
        go_wp2_with (go_at_call 14; refine (specDown_any _ _ _ _ _ _ _).mono ?_; rintro e wz ⟨rfl, hz⟩; rw [hd']; have c0 := (KA.ext hz).cell (o := 0) rfl; have c1 := (KA.ext hz).cell (o := 1) rfl; have c2 := (KA.ext hz).cell (o := 2) rfl; have d0 := (KB.ext hz).cell (o := 0) rfl; have d1 := (KB.ext hz).cell (o := 1) rfl; have d2 := (KB.ext hz).cell (o := 2) rfl)
        go_ret
        exact ⟨by simp [vchange, hd', hab], ext_via hsz e1 E (hz.toB hs) (Nat.le_refl _)⟩
  refine (specBase_any _ _ _ _).mono ?_
  rintro e w8 ⟨rfl, h8⟩
  refine ⟨_, rfl, h8.toB hs, ?_⟩
  have E := E.trans (h8.toB hs)
  have hs := Nat.le_trans hs h8.size
  replace KA := KA.ext h8
  replace KB := KB.ext h8
  simp only [Act.put, List.setIfInBounds_toArray, List.set_cons_zero, List.set_cons_succ]
  refine wpS_val (some 7) { dst := some 7, op := Op.load 23 (Operand.tmp 3), type := _, pos := _, after := _, guard := none } (vv a' b' c') (w8) rfl rfl (by rfl) ?_ ?_ ?_ trivial
  (have c0 := KB.cell (o := 0) rfl; have c1 := KB.cell (o := 1) rfl; have c2 := KB.cell (o := 2) rfl; refine .inl ?_; go_simp; try rfl)
  exact ExtB.refl _ _
  simp only [Act.put, List.setIfInBounds_toArray, List.set_cons_zero, List.set_cons_succ]
  refine wpS_callm (some 8) { dst := some 8, op := Op.call { callee := Callee.value (Operand.func 13), args := #[Operand.tmp 7], argTypes := #[23] }, type := _, pos := _, after := _, guard := none } 13 _ rfl rfl (by rfl) (by go_simp; try with_reducible rfl) ?_ trivial
  refine (specBase_any _ _ _ _).mono ?_
  rintro e w10 ⟨rfl, h10⟩
  refine ⟨_, rfl, h10.toB hs, ?_⟩
  have E := E.trans (h10.toB hs)
  have hs := Nat.le_trans hs h10.size
  replace KA := KA.ext h10
  replace KB := KB.ext h10
  simp only [Act.put, List.setIfInBounds_toArray, List.set_cons_zero, List.set_cons_succ]
  refine wpS_val none { dst := none, op := Op.store 23 (Operand.tmp 2) (Operand.tmp 6), type := _, pos := _, after := _, guard := none } (undef) (set3 w10 s (.int .i64 a) (.int .i64 b) (.int .i64 0)) rfl rfl (by rfl) ?_ ?_ ?_ trivial
  (have c0 := KA.cell (o := 0) rfl; have c1 := KA.cell (o := 1) rfl; have c2 := KA.cell (o := 2) rfl; have f0 := KA.frozen 0; have f1 := KA.frozen 1; have f2 := KA.frozen 2; refine .inr ⟨rfl, ?_⟩; go_simp; try rfl)
  exact (ExtB.refl _ _).set3 g5 _ _ _
  have E := E.set3 g5 (.int .i64 a) (.int .i64 b) (.int .i64 0)
  replace KA := KA.set3 (.int .i64 a) (.int .i64 b) (.int .i64 0)
  replace KB := KB.set3_ne (by omega : s ≠ s + 1) (.int .i64 a) (.int .i64 b) (.int .i64 0)
  have hs := Nat.le_trans hs (Nat.le_of_eq (size_set3 w10 s (.int .i64 a) (.int .i64 b) (.int .i64 0)).symm)
  generalize set3 w10 s (.int .i64 a) (.int .i64 b) (.int .i64 0) = w7 at *
  simp only [Act.put, List.setIfInBounds_toArray, List.set_cons_zero, List.set_cons_succ]
  refine wpS_val none { dst := none, op := Op.store 23 (Operand.tmp 3) (Operand.tmp 8), type := _, pos := _, after := _, guard := none } (undef) (set3 w7 (s + 1) (.int .i64 a') (.int .i64 b') (.int .i64 0)) rfl rfl (by rfl) ?_ ?_ ?_ trivial
  (have c0 := KB.cell (o := 0) rfl; have c1 := KB.cell (o := 1) rfl; have c2 := KB.cell (o := 2) rfl; have f0 := KB.frozen 0; have f1 := KB.frozen 1; have f2 := KB.frozen 2; refine .inr ⟨rfl, ?_⟩; go_simp; try rfl)
  exact (ExtB.refl _ _).set3 g6 _ _ _
  have E := E.set3 g6 (.int .i64 a') (.int .i64 b') (.int .i64 0)
  replace KB := KB.set3 (.int .i64 a') (.int .i64 b') (.int .i64 0)
  replace KA := KA.set3_ne (by omega : s + 1 ≠ s) (.int .i64 a') (.int .i64 b') (.int .i64 0)
  have hs := Nat.le_trans hs (Nat.le_of_eq (size_set3 w7 (s + 1) (.int .i64 a') (.int .i64 b') (.int .i64 0)).symm)
  generalize set3 w7 (s + 1) (.int .i64 a') (.int .i64 b') (.int .i64 0) = w9 at *
  simp only [Act.put, List.setIfInBounds_toArray, List.set_cons_zero, List.set_cons_succ]
  change Exit.then _ _ _ _ _
  have c0 := KA.cell (o := 0) rfl; have c1 := KA.cell (o := 1) rfl; have c2 := KA.cell (o := 2) rfl; have d0 := KB.cell (o := 0) rfl; have d1 := KB.cell (o := 1) rfl; have d2 := KB.cell (o := 2) rfl
  by_cases hd : vdown a b a' b' 0 = true
  · (go_wp2_with (go_at_call 14; refine (specDown_any _ _ _ _ _ _ _).mono ?_; rintro e wz ⟨rfl, hz⟩; rw [hd]); go_ret; exact ⟨by simp [vchange, hd], ext_via hsz e1 E (hz.toB hs) (Nat.le_refl _)⟩)
  · (have hd' : vdown a b a' b' 0 = false := by simpa using hd)
    by_cases ha : a = a'
    · (subst ha; have hab : (a == a) = true := by simp)
      go_wp2_with (first | (go_at_call 14; refine (specDown_any _ _ _ _ _ _ _).mono ?_; rintro e wz ⟨rfl, hz⟩; rw [hd']; have c0 := (KA.ext hz).cell (o := 0) rfl; have c1 := (KA.ext hz).cell (o := 1) rfl; have c2 := (KA.ext hz).cell (o := 2) rfl; have d0 := (KB.ext hz).cell (o := 0) rfl; have d1 := (KB.ext hz).cell (o := 1) rfl; have d2 := (KB.ext hz).cell (o := 2) rfl) | (go_at_call 15; refine (specLess_any _ _ _ _ _ _ _).mono ?_; rintro e wy ⟨rfl, hy⟩))
      go_ret
      exact ⟨by simp [vchange, hd'], ext_via hsz e1 E ((hz.trans hy).toB hs) (Nat.le_refl _)⟩
    · (have hab : (a == a') = false := by simpa using ha)
      go_wp2_with (go_at_call 14; refine (specDown_any _ _ _ _ _ _ _).mono ?_; rintro e wz ⟨rfl, hz⟩; rw [hd']; have c0 := (KA.ext hz).cell (o := 0) rfl; have c1 := (KA.ext hz).cell (o := 1) rfl; have c2 := (KA.ext hz).cell (o := 2) rfl; have d0 := (KB.ext hz).cell (o := 0) rfl; have d1 := (KB.ext hz).cell (o := 1) rfl; have d2 := (KB.ext hz).cell (o := 2) rfl)
      go_ret
      exact ⟨by simp [vchange, hd', hab], ext_via hsz e1 E (hz.toB hs) (Nat.le_refl _)⟩
end Go.Proofs.Ytogojpckjamkjaa
