/-
  WriteOne at a full ring: it grows, and holds what it held, and the new one.
-/
import Derived.Test.YtgebafnbkglmaaaRing
import Derived.Deep.OwnRows
namespace Go.Proofs.Ytgebafnbkglmaaa
open Go.RowKit
set_option linter.unusedSimpArgs false
set_option linter.unusedVariables false

noncomputable def ops_38_7 : Array Oper := opsAt Try.f38 7
noncomputable def ops_38_8 : Array Oper := opsAt Try.f38 8
noncomputable def ops_38_9 : Array Oper := opsAt Try.f38 9
theorem ints_one (l : List Int) : ∀ v ∈ l.map (Value.int .i64), v.oneCell' = true := by
  intro v hv
  obtain ⟨x, _, rfl⟩ := List.mem_map.1 hv
  rfl
theorem blk_src {w : World} {b : Nat} {T : TypeId} {cells cs : List Value} (h : Blk w b T cells) (o : Nat) (hcs : ∀ j v, cs[j]? = some v → cells[o + j]? = some v) : ∀ j v, cs[j]? = some v → w.cell? ((⟨b, o, none⟩ : Addr).add j) = some v := by
  intro j v hv
  have : (⟨b, o, none⟩ : Addr).add j = ⟨b, o + j, none⟩ := by unfold Addr.add; split <;> simp_all
  rw [this]
  exact h.cell (hcs j v hv)
/-- so many zeros -/
def zeros (n : Nat) : Array Value := (List.replicate n (Value.int .i64 0)).toArray
theorem zeros_made (n : Nat) : madeCells #[Value.int .i64 0] n = zeros n := by
  apply Array.ext'
  rw [toList_madeCells_one]
  rfl
theorem repl0 (m : Nat) (h : 0 < m) : (List.replicate m (0 : Int))[0]? = some 0 := by cases m with | zero => omega | succ n => rfl
theorem infoInt : (Try.prog.info? 3).map (fun i => (i.zero, i.size, i.bytes)) = some (some (.int .i64 0), 1, 8) := by kernel_rfl



set_option maxHeartbeats 2000000 in
theorem writeOne_zero (b : Nat) (T : TypeId) (ex : List Value) (db : Nat) (x : Int) (q : List Int) (hq : q = []) (w : World) (h : RingI w b T ex db [] 0 q) :
    Calls Try.prog 38 #[.pointer (some ⟨b, 0, none⟩), .int .i64 x] w (WritePost w b T ex db (q ++ [x])) := by
  obtain ⟨K1, K2, hne, hh, hle⟩ := h
  have hmk : ∀ w : World, (Instr.makeSlice 22 (.int .i64 16) (.int .i64 16)).run Try.prog w = .ok (.slice (some ⟨w.heap.size, 0, none⟩) 16 16) (w.alloc (.cells (zeros 16) 3)) := fun _ => by kernel_rfl
  have hql : (q.length : Int) = 0 := by simp [hq]
  have c0 : w.cell? ⟨b, 0, none⟩ = some (.slice (some ⟨db, 0, none⟩) 0 0) := K1.cell rfl
  have c1 : w.cell? ⟨b, 1, none⟩ = some (.int .i64 0) := K1.cell rfl
  have c2 : w.cell? ⟨b, 2, none⟩ = some (.int .i64 0) := K1.cell rfl
  have c3 : w.cell? ⟨b, 3, none⟩ = some (.int .i64 0) := K1.cell (by simp [hql])
  have HQ := Lib.hid hq
  have HQL := Lib.hid hql
  clear hq hql
  go_enter Try.func38, Try.ntmps38
  go_wp2
  go_quiet (fail)
  go_wp2
  clear hmk
  have KA := (K1.extX (M := fun _ => False) (w' := (w.drewN nq).alloc (.cells (zeros 16) 3)) ((ExtX.refl _ w).alloc _) (fun h => h))
  have KN : Blk ((w.drewN nq).alloc (.cells (zeros 16) 3)) w.heap.size 3 (List.replicate 16 (Value.int .i64 0)) := Blk.new (w.drewN nq) 3 _
  have E3 : ExtX (fun k => k = b ∨ k = db) w ((w.drewN nq).alloc (.cells (zeros 16) 3)) := (ExtX.refl _ w).alloc _
  have hnb : w.heap.size ≠ b := by have := K1.lt; omega
  have hbn : b ≠ w.heap.size := Ne.symm hnb
  have hnd : w.heap.size ≠ db := by have := K2.lt; omega
  clear c0 c1 c2 c3
  generalize ((w.drewN nq).alloc (.cells (zeros 16) 3)) = w2 at *
  generalize hnbe : w.heap.size = nb at KN hnb hbn hnd ⊢
  have hnw : w.heap.size ≤ nb := Nat.le_of_eq hnbe
  clear hnbe
  have c0 : w2.cell? ⟨b, 0, none⟩ = some _ := KA.cell rfl
  have c1 : w2.cell? ⟨b, 1, none⟩ = some _ := KA.cell rfl
  have c2 : w2.cell? ⟨b, 2, none⟩ = some _ := KA.cell rfl
  have c3 : w2.cell? ⟨b, 3, none⟩ = some _ := KA.cell rfl
  rw [HQL.out] at c3
  go_quiet (fail)
  go_wp2
  replace KA := KA.drewN nq
  replace KN := KN.drewN nq
  replace E3 := E3.drewN nq
  clear c0 c1 c2 c3
  generalize w2.drewN nq = w2' at *
  have c0 : w2'.cell? ⟨b, 0, none⟩ = some _ := KA.cell rfl
  have c1 : w2'.cell? ⟨b, 1, none⟩ = some _ := KA.cell rfl
  have c2 : w2'.cell? ⟨b, 2, none⟩ = some _ := KA.cell rfl
  have c3 : w2'.cell? ⟨b, 3, none⟩ = some _ := KA.cell rfl
  rw [HQL.out] at c3
  refine wp_region_sched (ops := ops_38_7) (ExtX (fun k => k = nb)) [] (.quiet 0 (.quiet 1 (.quiet 2 (.quiet 3 (.quiet 4 (.quiet 5 (.quiet 6 (.quiet 7 (.quiet 8 (.quiet 9 (.quiet 10 (.loud 11 (.done) (.stop))))))))))))) (by kernel_rfl) (ExtX.refl (fun k => k = nb)) (fun _ _ _ => ExtX.trans) (by kernel_rfl) (fun _ _ d _ _ h => by cases d <;> exact h) ?_
  refine wpS_quiet (some 41) { dst := some 41, op := Op.move (Operand.tmp 5), type := _, pos := _, after := _, guard := none } _ rfl rfl (by rfl) (fun wE hE => by (go_simp; try with_reducible rfl)) ?_; simp only [Act.put, List.setIfInBounds_toArray, List.set_cons_zero, List.set_cons_succ]
  refine wpS_quiet (some 42) { dst := some 42, op := Op.move (Operand.tmp 0), type := _, pos := _, after := _, guard := none } _ rfl rfl (by rfl) (fun wE hE => by (go_simp; try with_reducible rfl)) ?_; simp only [Act.put, List.setIfInBounds_toArray, List.set_cons_zero, List.set_cons_succ]
  refine wpS_quiet (some 43) { dst := some 43, op := Op.nilCheck (Operand.tmp 42), type := _, pos := _, after := _, guard := none } _ rfl rfl (by rfl) (fun wE hE => by (go_simp; try with_reducible rfl)) ?_; simp only [Act.put, List.setIfInBounds_toArray, List.set_cons_zero, List.set_cons_succ]
  refine wpS_quiet (some 44) { dst := some 44, op := Op.fieldAddr 61 (Operand.tmp 43) 0, type := _, pos := _, after := _, guard := none } _ rfl rfl (by rfl) (fun wE hE => by (go_simp; try with_reducible rfl)) ?_; simp only [Act.put, List.setIfInBounds_toArray, List.set_cons_zero, List.set_cons_succ]
  refine wpS_quiet (some 45) { dst := some 45, op := Op.load 22 (Operand.tmp 44), type := _, pos := _, after := _, guard := none } _ rfl rfl (by rfl) (fun wE hE => by (have k0 := hE.cellS hbn c0; have k1 := hE.cellS hbn c1; have k2 := hE.cellS hbn c2; have k3 := hE.cellS hbn c3; go_simp; try with_reducible rfl)) ?_; simp only [Act.put, List.setIfInBounds_toArray, List.set_cons_zero, List.set_cons_succ]
  refine wpS_quiet (some 46) { dst := some 46, op := Op.move (Operand.tmp 0), type := _, pos := _, after := _, guard := none } _ rfl rfl (by rfl) (fun wE hE => by (go_simp; try with_reducible rfl)) ?_; simp only [Act.put, List.setIfInBounds_toArray, List.set_cons_zero, List.set_cons_succ]
  refine wpS_quiet (some 47) { dst := some 47, op := Op.nilCheck (Operand.tmp 46), type := _, pos := _, after := _, guard := none } _ rfl rfl (by rfl) (fun wE hE => by (go_simp; try with_reducible rfl)) ?_; simp only [Act.put, List.setIfInBounds_toArray, List.set_cons_zero, List.set_cons_succ]
  refine wpS_quiet (some 48) { dst := some 48, op := Op.fieldAddr 61 (Operand.tmp 47) 2, type := _, pos := _, after := _, guard := none } _ rfl rfl (by rfl) (fun wE hE => by (go_simp; try with_reducible rfl)) ?_; simp only [Act.put, List.setIfInBounds_toArray, List.set_cons_zero, List.set_cons_succ]
  refine wpS_quiet (some 49) { dst := some 49, op := Op.load 3 (Operand.tmp 48), type := _, pos := _, after := _, guard := none } _ rfl rfl (by rfl) (fun wE hE => by (have k0 := hE.cellS hbn c0; have k1 := hE.cellS hbn c1; have k2 := hE.cellS hbn c2; have k3 := hE.cellS hbn c3; go_simp; try with_reducible rfl)) ?_; simp only [Act.put, List.setIfInBounds_toArray, List.set_cons_zero, List.set_cons_succ]
  refine wpS_quiet (some 50) { dst := some 50, op := Op.move (Operand.tmp 6), type := _, pos := _, after := _, guard := none } _ rfl rfl (by rfl) (fun wE hE => by (go_simp; try with_reducible rfl)) ?_; simp only [Act.put, List.setIfInBounds_toArray, List.set_cons_zero, List.set_cons_succ]
  refine wpS_quiet (some 51) { dst := some 51, op := Op.slice 22 (Operand.tmp 45) (some (Operand.tmp 49)) (some (Operand.tmp 50)) none, type := _, pos := _, after := _, guard := none } _ rfl rfl (by rfl) (fun wE hE => by (go_simp; try with_reducible rfl)) ?_; simp only [Act.put, List.setIfInBounds_toArray, List.set_cons_zero, List.set_cons_succ]
  refine wpS_copy (some 52) { dst := some 52, op := Op.call { callee := Callee.builtin Builtin.copy, args := #[Operand.tmp 41, Operand.tmp 51], argTypes := #[22, 22] }, type := _, pos := _, after := _, guard := none } rfl rfl (by rfl) (.tmp 41) (.tmp 51) 22 22 rfl 3 Try.underlying22 (by kernel_rfl) nb 0 16 16 ⟨db, 0, none⟩ 0 0 rfl rfl KN.drew [] (by decide) (by simp) (by simp) (by simp) (fun _ h => h) ?_
  intro w3 KN3 E3'
  simp only [Act.put, List.setIfInBounds_toArray, List.set_cons_zero, List.set_cons_succ]
  change Exit.then _ _ _ _ _
  have KA : Blk w3 b T ([.slice (some ⟨db, 0, none⟩) 0 0, .int .i64 0, .int .i64 0, .int .i64 q.length] ++ ex) := KA.drew.extX E3' hbn
  have KN : Blk w3 nb 3 ((q ++ List.replicate 16 0).map (Value.int .i64)) := by
    rw [HQ.out]; simpa using KN3
  have E3 : ExtX (fun k => k = b ∨ k = db) w w3 := E3.trans' E3'.undrew (fun k hk h => by omega)
  obtain ⟨m, hm⟩ : ∃ m : Nat, m = 16 := ⟨_, rfl⟩
  rw [← hm] at KN
  have hm0 : 0 < m := by omega
  have hn1 : q.length + m ≤ 16 := by have := HQL.out; omega
  have hn2 : 16 ≤ q.length + m := by omega
  clear c0 c1 c2 c3 KN3 E3' hm
  have f0 := KA.frozen 0
  have f1 := KA.frozen 1
  have f2 := KA.frozen 2
  have c0 : w3.cell? ⟨b, 0, none⟩ = some _ := KA.cell rfl
  have c1 : w3.cell? ⟨b, 1, none⟩ = some _ := KA.cell rfl
  have c2 : w3.cell? ⟨b, 2, none⟩ = some _ := KA.cell rfl
  have c3 : w3.cell? ⟨b, 3, none⟩ = some _ := KA.cell rfl
  go_wp2
  have KA4 : Blk _ b T ([.slice (some ⟨nb, 0, none⟩) 16 16, .int .i64 16, .int .i64 0, .int .i64 q.length] ++ ex) := ((KA.setCell 2 (.int .i64 0)).setCell 0 (.slice (some ⟨nb, 0, none⟩) 16 16)).setCell 1 (.int .i64 16)
  have KN4 := ((KN.setCell_ne (p := ⟨b, 2, none⟩) (Ne.symm hnb) (.int .i64 0)).setCell_ne (p := ⟨b, 0, none⟩) (Ne.symm hnb) (.slice (some ⟨nb, 0, none⟩) 16 16)).setCell_ne (p := ⟨b, 1, none⟩) (Ne.symm hnb) (.int .i64 16)
  have E4 := ((E3.setCell (p := ⟨b, 2, none⟩) (.inl rfl) (.int .i64 0)).setCell (p := ⟨b, 0, none⟩) (.inl rfl) (.slice (some ⟨nb, 0, none⟩) 16 16)).setCell (p := ⟨b, 1, none⟩) (.inl rfl) (.int .i64 16)
  clear c0 c1 c2 c3 f0 f1 f2
  generalize (((w3.setCell ⟨b, 2, none⟩ (.int .i64 0)).setCell ⟨b, 0, none⟩ (.slice (some ⟨nb, 0, none⟩) 16 16)).setCell ⟨b, 1, none⟩ (.int .i64 16)) = w4 at *
  have c0 : w4.cell? ⟨b, 0, none⟩ = some _ := KA4.cell rfl
  have c1 : w4.cell? ⟨b, 1, none⟩ = some _ := KA4.cell rfl
  have c2 : w4.cell? ⟨b, 2, none⟩ = some _ := KA4.cell rfl
  have c3 : w4.cell? ⟨b, 3, none⟩ = some _ := KA4.cell rfl
  have hlt2 : q.length < 16 := by omega
  have hlti : (q.length : Int) < 16 := by omega
  have hwr : IntKind.i64.wrap (q.length : Int) = (q.length : Int) := IntWalk.i64_in _ (by omega)
  have htm : (q.length : Int).tmod 16 = (q.length : Int) := by rw [Int.tmod_eq_emod_of_nonneg (by omega)]; exact Int.emod_eq_of_lt (by omega) (by omega)
  skip
  refine wp_region_sched (ops := ops_38_13) Ext [20] (.quiet 0 (.quiet 1 (.quiet 2 (.quiet 3 (.quiet 4 (.quiet 5 (.quiet 6 (.quiet 7 (.quiet 8 (.quiet 9 (.quiet 10 (.quiet 11 (.quiet 12 (.quiet 13 (.quiet 14 (.quiet 15 (.quiet 16 (.quiet 17 (.quiet 18 (.quiet 19 (.last 20 (.done)))))))))))))))))))))) (by kernel_rfl) ext_refl ext_trans (by kernel_rfl) (fun _ _ d _ _ h => by cases d <;> exact h) ?_
  refine wpS_quiet (some 90) { dst := some 90, op := Op.move (Operand.tmp 0), type := _, pos := _, after := _, guard := none } _ rfl rfl (by rfl) (fun wE hE => by (go_simp; try with_reducible rfl)) ?_; simp only [Act.put, List.setIfInBounds_toArray, List.set_cons_zero, List.set_cons_succ]
  refine wpS_quiet (some 91) { dst := some 91, op := Op.nilCheck (Operand.tmp 90), type := _, pos := _, after := _, guard := none } _ rfl rfl (by rfl) (fun wE hE => by (go_simp; try with_reducible rfl)) ?_; simp only [Act.put, List.setIfInBounds_toArray, List.set_cons_zero, List.set_cons_succ]
  refine wpS_quiet (some 92) { dst := some 92, op := Op.fieldAddr 61 (Operand.tmp 91) 0, type := _, pos := _, after := _, guard := none } _ rfl rfl (by rfl) (fun wE hE => by (go_simp; try with_reducible rfl)) ?_; simp only [Act.put, List.setIfInBounds_toArray, List.set_cons_zero, List.set_cons_succ]
  refine wpS_quiet (some 93) { dst := some 93, op := Op.load 22 (Operand.tmp 92), type := _, pos := _, after := _, guard := none } _ rfl rfl (by rfl) (fun wE hE => by (have k0 := hE.cellS c0; have k1 := hE.cellS c1; have k2 := hE.cellS c2; have k3 := hE.cellS c3; go_simp; try with_reducible rfl)) ?_; simp only [Act.put, List.setIfInBounds_toArray, List.set_cons_zero, List.set_cons_succ]
  refine wpS_quiet (some 94) { dst := some 94, op := Op.move (Operand.tmp 0), type := _, pos := _, after := _, guard := none } _ rfl rfl (by rfl) (fun wE hE => by (go_simp; try with_reducible rfl)) ?_; simp only [Act.put, List.setIfInBounds_toArray, List.set_cons_zero, List.set_cons_succ]
  refine wpS_quiet (some 95) { dst := some 95, op := Op.nilCheck (Operand.tmp 94), type := _, pos := _, after := _, guard := none } _ rfl rfl (by rfl) (fun wE hE => by (go_simp; try with_reducible rfl)) ?_; simp only [Act.put, List.setIfInBounds_toArray, List.set_cons_zero, List.set_cons_succ]
  refine wpS_quiet (some 96) { dst := some 96, op := Op.fieldAddr 61 (Operand.tmp 95) 3, type := _, pos := _, after := _, guard := none } _ rfl rfl (by rfl) (fun wE hE => by (go_simp; try with_reducible rfl)) ?_; simp only [Act.put, List.setIfInBounds_toArray, List.set_cons_zero, List.set_cons_succ]
  refine wpS_quiet (some 97) { dst := some 97, op := Op.load 3 (Operand.tmp 96), type := _, pos := _, after := _, guard := none } _ rfl rfl (by rfl) (fun wE hE => by (have k0 := hE.cellS c0; have k1 := hE.cellS c1; have k2 := hE.cellS c2; have k3 := hE.cellS c3; go_simp; try with_reducible rfl)) ?_; simp only [Act.put, List.setIfInBounds_toArray, List.set_cons_zero, List.set_cons_succ]
  refine wpS_quiet (some 98) { dst := some 98, op := Op.move (Operand.tmp 0), type := _, pos := _, after := _, guard := none } _ rfl rfl (by rfl) (fun wE hE => by (go_simp; try with_reducible rfl)) ?_; simp only [Act.put, List.setIfInBounds_toArray, List.set_cons_zero, List.set_cons_succ]
  refine wpS_quiet (some 99) { dst := some 99, op := Op.nilCheck (Operand.tmp 98), type := _, pos := _, after := _, guard := none } _ rfl rfl (by rfl) (fun wE hE => by (go_simp; try with_reducible rfl)) ?_; simp only [Act.put, List.setIfInBounds_toArray, List.set_cons_zero, List.set_cons_succ]
  refine wpS_quiet (some 100) { dst := some 100, op := Op.fieldAddr 61 (Operand.tmp 99) 2, type := _, pos := _, after := _, guard := none } _ rfl rfl (by rfl) (fun wE hE => by (go_simp; try with_reducible rfl)) ?_; simp only [Act.put, List.setIfInBounds_toArray, List.set_cons_zero, List.set_cons_succ]
  refine wpS_quiet (some 101) { dst := some 101, op := Op.load 3 (Operand.tmp 100), type := _, pos := _, after := _, guard := none } _ rfl rfl (by rfl) (fun wE hE => by (have k0 := hE.cellS c0; have k1 := hE.cellS c1; have k2 := hE.cellS c2; have k3 := hE.cellS c3; go_simp; try with_reducible rfl)) ?_; simp only [Act.put, List.setIfInBounds_toArray, List.set_cons_zero, List.set_cons_succ]
  refine wpS_quiet (some 102) { dst := some 102, op := Op.binOp BinOp.add 3 (Operand.tmp 97) (Operand.tmp 101) 3, type := _, pos := _, after := _, guard := none } _ rfl rfl (by rfl) (fun wE hE => by (go_simp; try with_reducible rfl)) ?_; simp only [Act.put, List.setIfInBounds_toArray, List.set_cons_zero, List.set_cons_succ]
  refine wpS_quiet (some 103) { dst := some 103, op := Op.move (Operand.tmp 0), type := _, pos := _, after := _, guard := none } _ rfl rfl (by rfl) (fun wE hE => by (go_simp; try with_reducible rfl)) ?_; simp only [Act.put, List.setIfInBounds_toArray, List.set_cons_zero, List.set_cons_succ]
  refine wpS_quiet (some 104) { dst := some 104, op := Op.nilCheck (Operand.tmp 103), type := _, pos := _, after := _, guard := none } _ rfl rfl (by rfl) (fun wE hE => by (go_simp; try with_reducible rfl)) ?_; simp only [Act.put, List.setIfInBounds_toArray, List.set_cons_zero, List.set_cons_succ]
  refine wpS_quiet (some 105) { dst := some 105, op := Op.fieldAddr 61 (Operand.tmp 104) 1, type := _, pos := _, after := _, guard := none } _ rfl rfl (by rfl) (fun wE hE => by (go_simp; try with_reducible rfl)) ?_; simp only [Act.put, List.setIfInBounds_toArray, List.set_cons_zero, List.set_cons_succ]
  refine wpS_quiet (some 106) { dst := some 106, op := Op.load 3 (Operand.tmp 105), type := _, pos := _, after := _, guard := none } _ rfl rfl (by rfl) (fun wE hE => by (have k0 := hE.cellS c0; have k1 := hE.cellS c1; have k2 := hE.cellS c2; have k3 := hE.cellS c3; go_simp; try with_reducible rfl)) ?_; simp only [Act.put, List.setIfInBounds_toArray, List.set_cons_zero, List.set_cons_succ]
  refine wpS_quiet (some 107) { dst := some 107, op := Op.binOp BinOp.rem 3 (Operand.tmp 102) (Operand.tmp 106) 3, type := _, pos := _, after := _, guard := none } _ rfl rfl (by rfl) (fun wE hE => by (go_simp; try with_reducible rfl)) ?_; simp only [Act.put, List.setIfInBounds_toArray, List.set_cons_zero, List.set_cons_succ]
  refine wpS_quiet (some 108) { dst := some 108, op := Op.move (Operand.tmp 1), type := _, pos := _, after := _, guard := none } _ rfl rfl (by rfl) (fun wE hE => by (go_simp; try with_reducible rfl)) ?_; simp only [Act.put, List.setIfInBounds_toArray, List.set_cons_zero, List.set_cons_succ]
  refine wpS_quiet (some 109) { dst := some 109, op := Op.indexAddr 22 (Operand.tmp 93) (Operand.tmp 107), type := _, pos := _, after := _, guard := none } _ rfl rfl (by rfl) (fun wE hE => by (go_simp; try with_reducible rfl)) ?_; simp only [Act.put, List.setIfInBounds_toArray, List.set_cons_zero, List.set_cons_succ]
  have d0 : w4.cell? ⟨nb, q.length, none⟩ = some (.int .i64 0) := KN4.cell (by rw [List.getElem?_map, List.getElem?_append_right (Nat.le_refl _), Nat.sub_self, repl0 m hm0]; rfl)
  have f4 := KN4.frozen q.length
  refine wpS_last none { dst := none, op := Op.store 3 (Operand.tmp 109) (Operand.tmp 108), type := _, pos := _, after := _, guard := none } undef (World.setCell w4.drew ⟨nb, q.length, none⟩ (.int .i64 x)) rfl rfl (by rfl) (.inr ⟨rfl, by (go_simp; try rfl)⟩) ?_
  simp only [Act.put]
  change Exit.then _ _ _ _ _
  have KA5 := KA4.drew.setCell_ne (p := ⟨nb, q.length, none⟩) hnb (.int .i64 x)
  have KN5 : Blk (World.setCell w4.drew ⟨nb, q.length, none⟩ (.int .i64 x)) nb 3 (((q ++ List.replicate m 0).set q.length x).map (Value.int .i64)) := by rw [List.map_set]; exact KN4.drew.setCell q.length (.int .i64 x)
  have E5 : ExtX (fun k => k = b ∨ k = db ∨ k = nb) w (World.setCell w4.drew ⟨nb, q.length, none⟩ (.int .i64 x)) := (E4.drew.mono (fun k _ h => h.elim .inl (fun h => .inr (.inl h)))).setCell (p := ⟨nb, q.length, none⟩) (.inr (.inr rfl)) (.int .i64 x)
  clear c0 c1 c2 c3 d0 f4 hwr htm
  generalize World.setCell w4.drew ⟨nb, q.length, none⟩ (.int .i64 x) = w5 at *
  have c3 : w5.cell? ⟨b, 3, none⟩ = some (.int .i64 q.length) := KA5.cell rfl
  have f3 := KA5.frozen 3
  go_wp2
  go_end0
  have hlen : ((q ++ List.replicate m 0).set q.length x).length = 16 := by simp; omega
  refine ⟨rfl, nb, (q ++ List.replicate m 0).set q.length x, 0, ⟨?_, ?_, hnb, Holds.fresh q m (by omega) x, by rw [hlen]; omega⟩, .inr hnw, ?_⟩
  · have := KA5.setCell 3 (.int .i64 ((q ++ [x]).length : Nat))
    rw [hlen]
    simpa using this
  · exact KN5.setCell_ne (p := ⟨b, 3, none⟩) (Ne.symm hnb) _
  · exact (E5.setCell (p := ⟨b, 3, none⟩) (.inl rfl) _).mono (fun k hk h => by rcases h with h | h | h; exact .inl h; exact .inr h; omega)



set_option maxHeartbeats 2000000 in
theorem writeOne_begin (b : Nat) (T : TypeId) (ex : List Value) (db : Nat) (ds : List Int) (x : Int) (q : List Int) (hf : q.length = ds.length) (hd : 0 < ds.length) (hb : ds.length ≤ 1000000) (w : World) (h : RingI w b T ex db ds 0 q) :
    Calls Try.prog 38 #[.pointer (some ⟨b, 0, none⟩), .int .i64 x] w (WritePost w b T ex db (q ++ [x])) := by
  have hqd : q = ds := by
    have := h.2.2.2.1.full hf
    simpa using this
  have HQD := Lib.hid hqd
  clear hqd
  obtain ⟨K1, K2, hne, hh, hle⟩ := h
  obtain ⟨N, hN⟩ : ∃ N : Nat, N = 2 * ds.length := ⟨_, rfl⟩
  have hN2 : (ds.length : Int) * 2 = (N : Int) := by omega
  have hN0 : 0 < N := by omega
  have hNb : N ≤ 2000000 := by omega
  have hNi : (N : Int) ≠ 0 := by omega
  have hmk : ∀ w : World, (Instr.makeSlice 22 (.int .i64 (N : Int)) (.int .i64 (N : Int))).run Try.prog w = .ok (.slice (some ⟨w.heap.size, 0, none⟩) N N) (w.alloc (.cells (zeros N) 3)) := fun w => by
    have := run_make_row' (P := Try.prog) 22 3 (.int .i64 0) 8 Try.underlying22 infoInt rfl .i64 .i64 N (by omega) (by omega) w
    rwa [zeros_made] at this
  have hqi : (q.length : Int) = ds.length := by omega
  have hdN : ds.length ≤ N := by omega
  have HFQ := Lib.hid hf
  clear hf
  have HF := Lib.hid hh
  have HQL := Lib.hid hqi
  have HN := Lib.hid hN
  clear hh hqi hN
  have c0 : w.cell? ⟨b, 0, none⟩ = some (.slice (some ⟨db, 0, none⟩) ds.length ds.length) := K1.cell rfl
  have c1 : w.cell? ⟨b, 1, none⟩ = some (.int .i64 ds.length) := K1.cell rfl
  have c3 : w.cell? ⟨b, 3, none⟩ = some (.int .i64 ds.length) := by rw [← HQL.out]; exact K1.cell rfl
  go_enter Try.func38, Try.ntmps38
  go_wp2
  go_quiet (fail)
  go_wp2
  clear hmk
  have KA := (K1.extX (M := fun _ => False) (w' := (w.drewN nq).alloc (.cells (zeros N) 3)) ((ExtX.refl _ w).alloc _) (fun h => h))
  have KD := (K2.extX (M := fun _ => False) (w' := (w.drewN nq).alloc (.cells (zeros N) 3)) ((ExtX.refl _ w).alloc _) (fun h => h))
  have KN : Blk ((w.drewN nq).alloc (.cells (zeros N) 3)) w.heap.size 3 (List.replicate N (Value.int .i64 0)) := Blk.new (w.drewN nq) 3 _
  have E3 : ExtX (fun k => k = b ∨ k = db) w ((w.drewN nq).alloc (.cells (zeros N) 3)) := (ExtX.refl _ w).alloc _
  have hnb : w.heap.size ≠ b := by have := K1.lt; omega
  have hbn : b ≠ w.heap.size := Ne.symm hnb
  have hnd : w.heap.size ≠ db := by have := K2.lt; omega
  clear c0 c1 c3
  generalize ((w.drewN nq).alloc (.cells (zeros N) 3)) = w2 at *
  generalize hnbe : w.heap.size = nb at KN hnb hbn hnd ⊢
  have hnw : w.heap.size ≤ nb := Nat.le_of_eq hnbe
  clear hnbe
  have c0 : w2.cell? ⟨b, 0, none⟩ = some _ := KA.cell rfl
  have c1 : w2.cell? ⟨b, 1, none⟩ = some _ := KA.cell rfl
  have c2 : w2.cell? ⟨b, 2, none⟩ = some _ := KA.cell rfl
  have c3 : w2.cell? ⟨b, 3, none⟩ = some _ := KA.cell rfl
  rw [HQL.out] at c3
  have hw0 : IntKind.i64.wrap (ds.length : Int) = ds.length := IntWalk.i64_in _ (by omega)
  go_quiet (fail)
  go_wp2
  replace KA := KA.drewN nq
  replace KD := KD.drewN nq
  replace KN := KN.drewN nq
  replace E3 := E3.drewN nq
  clear c0 c1 c2 c3
  generalize w2.drewN nq = w2' at *
  have c0 : w2'.cell? ⟨b, 0, none⟩ = some _ := KA.cell rfl
  have c1 : w2'.cell? ⟨b, 1, none⟩ = some _ := KA.cell rfl
  have c2 : w2'.cell? ⟨b, 2, none⟩ = some _ := KA.cell rfl
  have c3 : w2'.cell? ⟨b, 3, none⟩ = some _ := KA.cell rfl
  rw [HQL.out] at c3
  have hmin : (ds.map (Value.int .i64)).length = Nat.min ds.length N := by rw [List.length_map]; exact (Nat.min_eq_left hdN).symm
  refine wp_region_sched (ops := ops_38_7) (ExtX (fun k => k = nb)) [] (.quiet 0 (.quiet 1 (.quiet 2 (.quiet 3 (.quiet 4 (.quiet 5 (.quiet 6 (.quiet 7 (.quiet 8 (.quiet 9 (.quiet 10 (.loud 11 (.done) (.stop))))))))))))) (by kernel_rfl) (ExtX.refl (fun k => k = nb)) (fun _ _ _ => ExtX.trans) (by kernel_rfl) (fun _ _ d _ _ h => by cases d <;> exact h) ?_
  refine wpS_quiet (some 41) { dst := some 41, op := Op.move (Operand.tmp 5), type := _, pos := _, after := _, guard := none } _ rfl rfl (by rfl) (fun wE hE => by (go_simp; try with_reducible rfl)) ?_; simp only [Act.put, List.setIfInBounds_toArray, List.set_cons_zero, List.set_cons_succ]
  refine wpS_quiet (some 42) { dst := some 42, op := Op.move (Operand.tmp 0), type := _, pos := _, after := _, guard := none } _ rfl rfl (by rfl) (fun wE hE => by (go_simp; try with_reducible rfl)) ?_; simp only [Act.put, List.setIfInBounds_toArray, List.set_cons_zero, List.set_cons_succ]
  refine wpS_quiet (some 43) { dst := some 43, op := Op.nilCheck (Operand.tmp 42), type := _, pos := _, after := _, guard := none } _ rfl rfl (by rfl) (fun wE hE => by (go_simp; try with_reducible rfl)) ?_; simp only [Act.put, List.setIfInBounds_toArray, List.set_cons_zero, List.set_cons_succ]
  refine wpS_quiet (some 44) { dst := some 44, op := Op.fieldAddr 61 (Operand.tmp 43) 0, type := _, pos := _, after := _, guard := none } _ rfl rfl (by rfl) (fun wE hE => by (go_simp; try with_reducible rfl)) ?_; simp only [Act.put, List.setIfInBounds_toArray, List.set_cons_zero, List.set_cons_succ]
  refine wpS_quiet (some 45) { dst := some 45, op := Op.load 22 (Operand.tmp 44), type := _, pos := _, after := _, guard := none } _ rfl rfl (by rfl) (fun wE hE => by (have k0 := hE.cellS hbn c0; have k1 := hE.cellS hbn c1; have k2 := hE.cellS hbn c2; have k3 := hE.cellS hbn c3; go_simp; try with_reducible rfl)) ?_; simp only [Act.put, List.setIfInBounds_toArray, List.set_cons_zero, List.set_cons_succ]
  refine wpS_quiet (some 46) { dst := some 46, op := Op.move (Operand.tmp 0), type := _, pos := _, after := _, guard := none } _ rfl rfl (by rfl) (fun wE hE => by (go_simp; try with_reducible rfl)) ?_; simp only [Act.put, List.setIfInBounds_toArray, List.set_cons_zero, List.set_cons_succ]
  refine wpS_quiet (some 47) { dst := some 47, op := Op.nilCheck (Operand.tmp 46), type := _, pos := _, after := _, guard := none } _ rfl rfl (by rfl) (fun wE hE => by (go_simp; try with_reducible rfl)) ?_; simp only [Act.put, List.setIfInBounds_toArray, List.set_cons_zero, List.set_cons_succ]
  refine wpS_quiet (some 48) { dst := some 48, op := Op.fieldAddr 61 (Operand.tmp 47) 2, type := _, pos := _, after := _, guard := none } _ rfl rfl (by rfl) (fun wE hE => by (go_simp; try with_reducible rfl)) ?_; simp only [Act.put, List.setIfInBounds_toArray, List.set_cons_zero, List.set_cons_succ]
  refine wpS_quiet (some 49) { dst := some 49, op := Op.load 3 (Operand.tmp 48), type := _, pos := _, after := _, guard := none } _ rfl rfl (by rfl) (fun wE hE => by (have k0 := hE.cellS hbn c0; have k1 := hE.cellS hbn c1; have k2 := hE.cellS hbn c2; have k3 := hE.cellS hbn c3; go_simp; try with_reducible rfl)) ?_; simp only [Act.put, List.setIfInBounds_toArray, List.set_cons_zero, List.set_cons_succ]
  refine wpS_quiet (some 50) { dst := some 50, op := Op.move (Operand.tmp 6), type := _, pos := _, after := _, guard := none } _ rfl rfl (by rfl) (fun wE hE => by (go_simp; try with_reducible rfl)) ?_; simp only [Act.put, List.setIfInBounds_toArray, List.set_cons_zero, List.set_cons_succ]
  refine wpS_quiet (some 51) { dst := some 51, op := Op.slice 22 (Operand.tmp 45) (some (Operand.tmp 49)) (some (Operand.tmp 50)) none, type := _, pos := _, after := _, guard := none } _ rfl rfl (by rfl) (fun wE hE => by (go_simp; try with_reducible rfl)) ?_; simp only [Act.put, List.setIfInBounds_toArray, List.set_cons_zero, List.set_cons_succ]
  refine wpS_copy (some 52) { dst := some 52, op := Op.call { callee := Callee.builtin Builtin.copy, args := #[Operand.tmp 41, Operand.tmp 51], argTypes := #[22, 22] }, type := _, pos := _, after := _, guard := none } rfl rfl (by rfl) (.tmp 41) (.tmp 51) 22 22 rfl 3 Try.underlying22 (by kernel_rfl) nb 0 N N ⟨db, 0, none⟩ ds.length ds.length rfl rfl KN.drew (ds.map (Value.int .i64)) hmin (blk_src KD.drew 0 (by intro j v h; rwa [Nat.zero_add])) (by simp; omega) (ints_one ds) (fun _ h => h) ?_
  intro w3 KN3 E3'
  simp only [Act.put, List.setIfInBounds_toArray, List.set_cons_zero, List.set_cons_succ]
  change Exit.then _ _ _ _ _
  have KA : Blk w3 b T ([.slice (some ⟨db, 0, none⟩) ds.length ds.length, .int .i64 ds.length, .int .i64 0, .int .i64 q.length] ++ ex) := KA.drew.extX E3' hbn
  have KN : Blk w3 nb 3 ((q ++ List.replicate ds.length 0).map (Value.int .i64)) := by
    have e : (List.replicate N (Value.int .i64 0)).take 0 ++ ds.map (Value.int .i64) ++ (List.replicate N (Value.int .i64 0)).drop (0 + (ds.map (Value.int .i64)).length) = (q ++ List.replicate ds.length 0).map (Value.int .i64) := by
      rw [HQD.out, List.map_append, List.map_replicate, List.drop_replicate, HN.out]
      simp
      omega
    rw [← e]; exact KN3
  have E3 : ExtX (fun k => k = b ∨ k = db) w w3 := E3.trans' E3'.undrew (fun k hk h => by omega)
  obtain ⟨m, hm⟩ : ∃ m : Nat, m = ds.length := ⟨_, rfl⟩
  rw [← hm] at KN
  have hm0 : 0 < m := by omega
  have hn1 : q.length + m ≤ N := by have := HN.out; have := HFQ.out; omega
  have hn2 : N ≤ q.length + m := by have := HN.out; have := HFQ.out; omega
  clear c0 c1 c2 c3 KN3 E3' hm
  have f0 := KA.frozen 0
  have f1 := KA.frozen 1
  have f2 := KA.frozen 2
  have c0 : w3.cell? ⟨b, 0, none⟩ = some _ := KA.cell rfl
  have c1 : w3.cell? ⟨b, 1, none⟩ = some _ := KA.cell rfl
  have c2 : w3.cell? ⟨b, 2, none⟩ = some _ := KA.cell rfl
  have c3 : w3.cell? ⟨b, 3, none⟩ = some _ := KA.cell rfl
  go_wp2
  have KA4 : Blk _ b T ([.slice (some ⟨nb, 0, none⟩) N N, .int .i64 (N:Int), .int .i64 0, .int .i64 q.length] ++ ex) := ((KA.setCell 2 (.int .i64 0)).setCell 0 (.slice (some ⟨nb, 0, none⟩) N N)).setCell 1 (.int .i64 (N:Int))
  have KN4 := ((KN.setCell_ne (p := ⟨b, 2, none⟩) (Ne.symm hnb) (.int .i64 0)).setCell_ne (p := ⟨b, 0, none⟩) (Ne.symm hnb) (.slice (some ⟨nb, 0, none⟩) N N)).setCell_ne (p := ⟨b, 1, none⟩) (Ne.symm hnb) (.int .i64 (N:Int))
  have E4 := ((E3.setCell (p := ⟨b, 2, none⟩) (.inl rfl) (.int .i64 0)).setCell (p := ⟨b, 0, none⟩) (.inl rfl) (.slice (some ⟨nb, 0, none⟩) N N)).setCell (p := ⟨b, 1, none⟩) (.inl rfl) (.int .i64 (N:Int))
  clear c0 c1 c2 c3 f0 f1 f2
  generalize (((w3.setCell ⟨b, 2, none⟩ (.int .i64 0)).setCell ⟨b, 0, none⟩ (.slice (some ⟨nb, 0, none⟩) N N)).setCell ⟨b, 1, none⟩ (.int .i64 (N:Int))) = w4 at *
  have c0 : w4.cell? ⟨b, 0, none⟩ = some _ := KA4.cell rfl
  have c1 : w4.cell? ⟨b, 1, none⟩ = some _ := KA4.cell rfl
  have c2 : w4.cell? ⟨b, 2, none⟩ = some _ := KA4.cell rfl
  have c3 : w4.cell? ⟨b, 3, none⟩ = some _ := KA4.cell rfl
  have hlt2 : q.length < N := by omega
  have hlti : (q.length : Int) < (N:Int) := by omega
  have hwr : IntKind.i64.wrap (q.length : Int) = (q.length : Int) := IntWalk.i64_in _ (by omega)
  have htm : (q.length : Int).tmod (N:Int) = (q.length : Int) := by rw [Int.tmod_eq_emod_of_nonneg (by omega)]; exact Int.emod_eq_of_lt (by omega) (by omega)
  have hnz : N ≠ 0 := by omega
  refine wp_region_sched (ops := ops_38_13) Ext [20] (.quiet 0 (.quiet 1 (.quiet 2 (.quiet 3 (.quiet 4 (.quiet 5 (.quiet 6 (.quiet 7 (.quiet 8 (.quiet 9 (.quiet 10 (.quiet 11 (.quiet 12 (.quiet 13 (.quiet 14 (.quiet 15 (.quiet 16 (.quiet 17 (.quiet 18 (.quiet 19 (.last 20 (.done)))))))))))))))))))))) (by kernel_rfl) ext_refl ext_trans (by kernel_rfl) (fun _ _ d _ _ h => by cases d <;> exact h) ?_
  refine wpS_quiet (some 90) { dst := some 90, op := Op.move (Operand.tmp 0), type := _, pos := _, after := _, guard := none } _ rfl rfl (by rfl) (fun wE hE => by (go_simp; try with_reducible rfl)) ?_; simp only [Act.put, List.setIfInBounds_toArray, List.set_cons_zero, List.set_cons_succ]
  refine wpS_quiet (some 91) { dst := some 91, op := Op.nilCheck (Operand.tmp 90), type := _, pos := _, after := _, guard := none } _ rfl rfl (by rfl) (fun wE hE => by (go_simp; try with_reducible rfl)) ?_; simp only [Act.put, List.setIfInBounds_toArray, List.set_cons_zero, List.set_cons_succ]
  refine wpS_quiet (some 92) { dst := some 92, op := Op.fieldAddr 61 (Operand.tmp 91) 0, type := _, pos := _, after := _, guard := none } _ rfl rfl (by rfl) (fun wE hE => by (go_simp; try with_reducible rfl)) ?_; simp only [Act.put, List.setIfInBounds_toArray, List.set_cons_zero, List.set_cons_succ]
  refine wpS_quiet (some 93) { dst := some 93, op := Op.load 22 (Operand.tmp 92), type := _, pos := _, after := _, guard := none } _ rfl rfl (by rfl) (fun wE hE => by (have k0 := hE.cellS c0; have k1 := hE.cellS c1; have k2 := hE.cellS c2; have k3 := hE.cellS c3; go_simp; try with_reducible rfl)) ?_; simp only [Act.put, List.setIfInBounds_toArray, List.set_cons_zero, List.set_cons_succ]
  refine wpS_quiet (some 94) { dst := some 94, op := Op.move (Operand.tmp 0), type := _, pos := _, after := _, guard := none } _ rfl rfl (by rfl) (fun wE hE => by (go_simp; try with_reducible rfl)) ?_; simp only [Act.put, List.setIfInBounds_toArray, List.set_cons_zero, List.set_cons_succ]
  refine wpS_quiet (some 95) { dst := some 95, op := Op.nilCheck (Operand.tmp 94), type := _, pos := _, after := _, guard := none } _ rfl rfl (by rfl) (fun wE hE => by (go_simp; try with_reducible rfl)) ?_; simp only [Act.put, List.setIfInBounds_toArray, List.set_cons_zero, List.set_cons_succ]
  refine wpS_quiet (some 96) { dst := some 96, op := Op.fieldAddr 61 (Operand.tmp 95) 3, type := _, pos := _, after := _, guard := none } _ rfl rfl (by rfl) (fun wE hE => by (go_simp; try with_reducible rfl)) ?_; simp only [Act.put, List.setIfInBounds_toArray, List.set_cons_zero, List.set_cons_succ]
  refine wpS_quiet (some 97) { dst := some 97, op := Op.load 3 (Operand.tmp 96), type := _, pos := _, after := _, guard := none } _ rfl rfl (by rfl) (fun wE hE => by (have k0 := hE.cellS c0; have k1 := hE.cellS c1; have k2 := hE.cellS c2; have k3 := hE.cellS c3; go_simp; try with_reducible rfl)) ?_; simp only [Act.put, List.setIfInBounds_toArray, List.set_cons_zero, List.set_cons_succ]
  refine wpS_quiet (some 98) { dst := some 98, op := Op.move (Operand.tmp 0), type := _, pos := _, after := _, guard := none } _ rfl rfl (by rfl) (fun wE hE => by (go_simp; try with_reducible rfl)) ?_; simp only [Act.put, List.setIfInBounds_toArray, List.set_cons_zero, List.set_cons_succ]
  refine wpS_quiet (some 99) { dst := some 99, op := Op.nilCheck (Operand.tmp 98), type := _, pos := _, after := _, guard := none } _ rfl rfl (by rfl) (fun wE hE => by (go_simp; try with_reducible rfl)) ?_; simp only [Act.put, List.setIfInBounds_toArray, List.set_cons_zero, List.set_cons_succ]
  refine wpS_quiet (some 100) { dst := some 100, op := Op.fieldAddr 61 (Operand.tmp 99) 2, type := _, pos := _, after := _, guard := none } _ rfl rfl (by rfl) (fun wE hE => by (go_simp; try with_reducible rfl)) ?_; simp only [Act.put, List.setIfInBounds_toArray, List.set_cons_zero, List.set_cons_succ]
  refine wpS_quiet (some 101) { dst := some 101, op := Op.load 3 (Operand.tmp 100), type := _, pos := _, after := _, guard := none } _ rfl rfl (by rfl) (fun wE hE => by (have k0 := hE.cellS c0; have k1 := hE.cellS c1; have k2 := hE.cellS c2; have k3 := hE.cellS c3; go_simp; try with_reducible rfl)) ?_; simp only [Act.put, List.setIfInBounds_toArray, List.set_cons_zero, List.set_cons_succ]
  refine wpS_quiet (some 102) { dst := some 102, op := Op.binOp BinOp.add 3 (Operand.tmp 97) (Operand.tmp 101) 3, type := _, pos := _, after := _, guard := none } _ rfl rfl (by rfl) (fun wE hE => by (go_simp; try with_reducible rfl)) ?_; simp only [Act.put, List.setIfInBounds_toArray, List.set_cons_zero, List.set_cons_succ]
  refine wpS_quiet (some 103) { dst := some 103, op := Op.move (Operand.tmp 0), type := _, pos := _, after := _, guard := none } _ rfl rfl (by rfl) (fun wE hE => by (go_simp; try with_reducible rfl)) ?_; simp only [Act.put, List.setIfInBounds_toArray, List.set_cons_zero, List.set_cons_succ]
  refine wpS_quiet (some 104) { dst := some 104, op := Op.nilCheck (Operand.tmp 103), type := _, pos := _, after := _, guard := none } _ rfl rfl (by rfl) (fun wE hE => by (go_simp; try with_reducible rfl)) ?_; simp only [Act.put, List.setIfInBounds_toArray, List.set_cons_zero, List.set_cons_succ]
  refine wpS_quiet (some 105) { dst := some 105, op := Op.fieldAddr 61 (Operand.tmp 104) 1, type := _, pos := _, after := _, guard := none } _ rfl rfl (by rfl) (fun wE hE => by (go_simp; try with_reducible rfl)) ?_; simp only [Act.put, List.setIfInBounds_toArray, List.set_cons_zero, List.set_cons_succ]
  refine wpS_quiet (some 106) { dst := some 106, op := Op.load 3 (Operand.tmp 105), type := _, pos := _, after := _, guard := none } _ rfl rfl (by rfl) (fun wE hE => by (have k0 := hE.cellS c0; have k1 := hE.cellS c1; have k2 := hE.cellS c2; have k3 := hE.cellS c3; go_simp; try with_reducible rfl)) ?_; simp only [Act.put, List.setIfInBounds_toArray, List.set_cons_zero, List.set_cons_succ]
  refine wpS_quiet (some 107) { dst := some 107, op := Op.binOp BinOp.rem 3 (Operand.tmp 102) (Operand.tmp 106) 3, type := _, pos := _, after := _, guard := none } _ rfl rfl (by rfl) (fun wE hE => by (go_simp; try with_reducible rfl)) ?_; simp only [Act.put, List.setIfInBounds_toArray, List.set_cons_zero, List.set_cons_succ]
  refine wpS_quiet (some 108) { dst := some 108, op := Op.move (Operand.tmp 1), type := _, pos := _, after := _, guard := none } _ rfl rfl (by rfl) (fun wE hE => by (go_simp; try with_reducible rfl)) ?_; simp only [Act.put, List.setIfInBounds_toArray, List.set_cons_zero, List.set_cons_succ]
  refine wpS_quiet (some 109) { dst := some 109, op := Op.indexAddr 22 (Operand.tmp 93) (Operand.tmp 107), type := _, pos := _, after := _, guard := none } _ rfl rfl (by rfl) (fun wE hE => by (go_simp; try with_reducible rfl)) ?_; simp only [Act.put, List.setIfInBounds_toArray, List.set_cons_zero, List.set_cons_succ]
  have d0 : w4.cell? ⟨nb, q.length, none⟩ = some (.int .i64 0) := KN4.cell (by rw [List.getElem?_map, List.getElem?_append_right (Nat.le_refl _), Nat.sub_self, repl0 m hm0]; rfl)
  have f4 := KN4.frozen q.length
  refine wpS_last none { dst := none, op := Op.store 3 (Operand.tmp 109) (Operand.tmp 108), type := _, pos := _, after := _, guard := none } undef (World.setCell w4.drew ⟨nb, q.length, none⟩ (.int .i64 x)) rfl rfl (by rfl) (.inr ⟨rfl, by (go_simp; try rfl)⟩) ?_
  simp only [Act.put]
  change Exit.then _ _ _ _ _
  have KA5 := KA4.drew.setCell_ne (p := ⟨nb, q.length, none⟩) hnb (.int .i64 x)
  have KN5 : Blk (World.setCell w4.drew ⟨nb, q.length, none⟩ (.int .i64 x)) nb 3 (((q ++ List.replicate m 0).set q.length x).map (Value.int .i64)) := by rw [List.map_set]; exact KN4.drew.setCell q.length (.int .i64 x)
  have E5 : ExtX (fun k => k = b ∨ k = db ∨ k = nb) w (World.setCell w4.drew ⟨nb, q.length, none⟩ (.int .i64 x)) := (E4.drew.mono (fun k _ h => h.elim .inl (fun h => .inr (.inl h)))).setCell (p := ⟨nb, q.length, none⟩) (.inr (.inr rfl)) (.int .i64 x)
  clear c0 c1 c2 c3 d0 f4 hwr htm
  generalize World.setCell w4.drew ⟨nb, q.length, none⟩ (.int .i64 x) = w5 at *
  have c3 : w5.cell? ⟨b, 3, none⟩ = some (.int .i64 q.length) := KA5.cell rfl
  have f3 := KA5.frozen 3
  go_wp2
  go_end0
  have hlen : ((q ++ List.replicate m 0).set q.length x).length = N := by simp; omega
  refine ⟨rfl, nb, (q ++ List.replicate m 0).set q.length x, 0, ⟨?_, ?_, hnb, Holds.fresh q m (by omega) x, by rw [hlen]; omega⟩, .inr hnw, ?_⟩
  · have := KA5.setCell 3 (.int .i64 ((q ++ [x]).length : Nat))
    rw [hlen]
    simpa using this
  · exact KN5.setCell_ne (p := ⟨b, 3, none⟩) (Ne.symm hnb) _
  · exact (E5.setCell (p := ⟨b, 3, none⟩) (.inl rfl) _).mono (fun k hk h => by rcases h with h | h | h; exact .inl h; exact .inr h; omega)

set_option maxHeartbeats 4000000 in
theorem writeOne_wrap (b : Nat) (T : TypeId) (ex : List Value) (db : Nat) (ds : List Int) (g : Nat) (x : Int) (q : List Int) (hf : q.length = ds.length) (hg0 : 0 < g) (hb : ds.length ≤ 1000000) (w : World) (h : RingI w b T ex db ds g q) :
    Calls Try.prog 38 #[.pointer (some ⟨b, 0, none⟩), .int .i64 x] w (WritePost w b T ex db (q ++ [x])) := by
  have hqd : q = ds.drop g ++ ds.take g := h.2.2.2.1.full hf
  have hgl : g < ds.length := by
    rcases h.2.2.2.1.2.1 with h2 | ⟨_, h2⟩
    · exact h2
    · omega
  have hd : 0 < ds.length := by omega
  have HQD := Lib.hid hqd
  clear hqd
  obtain ⟨K1, K2, hne, hh, hle⟩ := h
  obtain ⟨N, hN⟩ : ∃ N : Nat, N = 2 * ds.length := ⟨_, rfl⟩
  have hN2 : (ds.length : Int) * 2 = (N : Int) := by omega
  have hN0 : 0 < N := by omega
  have hNb : N ≤ 2000000 := by omega
  have hNi : (N : Int) ≠ 0 := by omega
  have hmk : ∀ w : World, (Instr.makeSlice 22 (.int .i64 (N : Int)) (.int .i64 (N : Int))).run Try.prog w = .ok (.slice (some ⟨w.heap.size, 0, none⟩) N N) (w.alloc (.cells (zeros N) 3)) := fun w => by
    have := run_make_row' (P := Try.prog) 22 3 (.int .i64 0) 8 Try.underlying22 infoInt rfl .i64 .i64 N (by omega) (by omega) w
    rwa [zeros_made] at this
  have hqi : (q.length : Int) = ds.length := by omega
  have hdN : ds.length ≤ N := by omega
  have HFQ := Lib.hid hf
  clear hf
  have HF := Lib.hid hh
  have HQL := Lib.hid hqi
  have HN := Lib.hid hN
  clear hh hqi hN
  have c0 : w.cell? ⟨b, 0, none⟩ = some (.slice (some ⟨db, 0, none⟩) ds.length ds.length) := K1.cell rfl
  have c1 : w.cell? ⟨b, 1, none⟩ = some (.int .i64 ds.length) := K1.cell rfl
  have c3 : w.cell? ⟨b, 3, none⟩ = some (.int .i64 ds.length) := by rw [← HQL.out]; exact K1.cell rfl
  go_enter Try.func38, Try.ntmps38
  go_wp2
  go_quiet (fail)
  go_wp2
  clear hmk
  have KA := (K1.extX (M := fun _ => False) (w' := (w.drewN nq).alloc (.cells (zeros N) 3)) ((ExtX.refl _ w).alloc _) (fun h => h))
  have KD := (K2.extX (M := fun _ => False) (w' := (w.drewN nq).alloc (.cells (zeros N) 3)) ((ExtX.refl _ w).alloc _) (fun h => h))
  have KN : Blk ((w.drewN nq).alloc (.cells (zeros N) 3)) w.heap.size 3 (List.replicate N (Value.int .i64 0)) := Blk.new (w.drewN nq) 3 _
  have E3 : ExtX (fun k => k = b ∨ k = db) w ((w.drewN nq).alloc (.cells (zeros N) 3)) := (ExtX.refl _ w).alloc _
  have hnb : w.heap.size ≠ b := by have := K1.lt; omega
  have hbn : b ≠ w.heap.size := Ne.symm hnb
  have hnd : w.heap.size ≠ db := by have := K2.lt; omega
  clear c0 c1 c3
  generalize ((w.drewN nq).alloc (.cells (zeros N) 3)) = w2 at *
  generalize hnbe : w.heap.size = nb at KN hnb hbn hnd ⊢
  have hnw : w.heap.size ≤ nb := Nat.le_of_eq hnbe
  clear hnbe
  have c0 : w2.cell? ⟨b, 0, none⟩ = some _ := KA.cell rfl
  have c1 : w2.cell? ⟨b, 1, none⟩ = some _ := KA.cell rfl
  have c2 : w2.cell? ⟨b, 2, none⟩ = some _ := KA.cell rfl
  have c3 : w2.cell? ⟨b, 3, none⟩ = some _ := KA.cell rfl
  rw [HQL.out] at c3
  have hw0 : IntKind.i64.wrap ((g : Int) + (ds.length : Int)) = (g : Int) + (ds.length : Int) := IntWalk.i64_in _ (by omega)
  have hto : decide ((g : Int) + (ds.length : Int) ≤ (ds.length : Int)) = false := by simp; omega
  have hto' : ¬ ((g : Int) + (ds.length : Int) ≤ (ds.length : Int)) := by omega
  have hg1 : (0 : Int) ≤ g := by omega
  have hg2 : (g : Int) ≤ (ds.length : Int) := by omega
  have hgn : ¬ ds.length = g := by omega
  go_quiet (fail)
  go_wp2
  replace KA := KA.drewN nq
  replace KD := KD.drewN nq
  replace KN := KN.drewN nq
  replace E3 := E3.drewN nq
  clear c0 c1 c2 c3
  generalize w2.drewN nq = w2' at *
  have c0 : w2'.cell? ⟨b, 0, none⟩ = some _ := KA.cell rfl
  have c1 : w2'.cell? ⟨b, 1, none⟩ = some _ := KA.cell rfl
  have c2 : w2'.cell? ⟨b, 2, none⟩ = some _ := KA.cell rfl
  have c3 : w2'.cell? ⟨b, 3, none⟩ = some _ := KA.cell rfl
  rw [HQL.out] at c3
  obtain ⟨c, hc⟩ : ∃ c : Nat, c = ds.length - g := ⟨_, rfl⟩
  have hcl : ((ds.drop g).map (Value.int .i64)).length = c := by rw [List.length_map, List.length_drop, hc]
  have hmin : ((ds.drop g).map (Value.int .i64)).length = Nat.min (ds.length - g) N := by rw [hcl, hc]; exact (Nat.min_eq_left (by omega)).symm
  have hcg : g + c = ds.length := by omega
  clear hc
  refine wp_region_sched (ops := ops_38_8) (ExtX (fun k => k = nb)) [] (.quiet 0 (.quiet 1 (.quiet 2 (.quiet 3 (.quiet 4 (.quiet 5 (.quiet 6 (.quiet 7 (.quiet 8 (.quiet 9 (.loud 10 (.quiet 11 (.done)) (.stop)))))))))))) (by kernel_rfl) (ExtX.refl (fun k => k = nb)) (fun _ _ _ => ExtX.trans) (by kernel_rfl) (fun _ _ d _ _ h => by cases d <;> exact h) ?_
  refine wpS_quiet (some 53) { dst := some 53, op := Op.move (Operand.tmp 5), type := _, pos := _, after := _, guard := none } _ rfl rfl (by rfl) (fun wE hE => by (go_simp; try with_reducible rfl)) ?_; simp only [Act.put, List.setIfInBounds_toArray, List.set_cons_zero, List.set_cons_succ]
  refine wpS_quiet (some 54) { dst := some 54, op := Op.move (Operand.tmp 0), type := _, pos := _, after := _, guard := none } _ rfl rfl (by rfl) (fun wE hE => by (go_simp; try with_reducible rfl)) ?_; simp only [Act.put, List.setIfInBounds_toArray, List.set_cons_zero, List.set_cons_succ]
  refine wpS_quiet (some 55) { dst := some 55, op := Op.nilCheck (Operand.tmp 54), type := _, pos := _, after := _, guard := none } _ rfl rfl (by rfl) (fun wE hE => by (go_simp; try with_reducible rfl)) ?_; simp only [Act.put, List.setIfInBounds_toArray, List.set_cons_zero, List.set_cons_succ]
  refine wpS_quiet (some 56) { dst := some 56, op := Op.fieldAddr 61 (Operand.tmp 55) 0, type := _, pos := _, after := _, guard := none } _ rfl rfl (by rfl) (fun wE hE => by (go_simp; try with_reducible rfl)) ?_; simp only [Act.put, List.setIfInBounds_toArray, List.set_cons_zero, List.set_cons_succ]
  refine wpS_quiet (some 57) { dst := some 57, op := Op.load 22 (Operand.tmp 56), type := _, pos := _, after := _, guard := none } _ rfl rfl (by rfl) (fun wE hE => by (have k0 := hE.cellS hbn c0; have k1 := hE.cellS hbn c1; have k2 := hE.cellS hbn c2; have k3 := hE.cellS hbn c3; go_simp; try with_reducible rfl)) ?_; simp only [Act.put, List.setIfInBounds_toArray, List.set_cons_zero, List.set_cons_succ]
  refine wpS_quiet (some 58) { dst := some 58, op := Op.move (Operand.tmp 0), type := _, pos := _, after := _, guard := none } _ rfl rfl (by rfl) (fun wE hE => by (go_simp; try with_reducible rfl)) ?_; simp only [Act.put, List.setIfInBounds_toArray, List.set_cons_zero, List.set_cons_succ]
  refine wpS_quiet (some 59) { dst := some 59, op := Op.nilCheck (Operand.tmp 58), type := _, pos := _, after := _, guard := none } _ rfl rfl (by rfl) (fun wE hE => by (go_simp; try with_reducible rfl)) ?_; simp only [Act.put, List.setIfInBounds_toArray, List.set_cons_zero, List.set_cons_succ]
  refine wpS_quiet (some 60) { dst := some 60, op := Op.fieldAddr 61 (Operand.tmp 59) 2, type := _, pos := _, after := _, guard := none } _ rfl rfl (by rfl) (fun wE hE => by (go_simp; try with_reducible rfl)) ?_; simp only [Act.put, List.setIfInBounds_toArray, List.set_cons_zero, List.set_cons_succ]
  refine wpS_quiet (some 61) { dst := some 61, op := Op.load 3 (Operand.tmp 60), type := _, pos := _, after := _, guard := none } _ rfl rfl (by rfl) (fun wE hE => by (have k0 := hE.cellS hbn c0; have k1 := hE.cellS hbn c1; have k2 := hE.cellS hbn c2; have k3 := hE.cellS hbn c3; go_simp; try with_reducible rfl)) ?_; simp only [Act.put, List.setIfInBounds_toArray, List.set_cons_zero, List.set_cons_succ]
  refine wpS_quiet (some 62) { dst := some 62, op := Op.slice 22 (Operand.tmp 57) (some (Operand.tmp 61)) none none, type := _, pos := _, after := _, guard := none } _ rfl rfl (by rfl) (fun wE hE => by (go_simp; try with_reducible rfl)) ?_; simp only [Act.put, List.setIfInBounds_toArray, List.set_cons_zero, List.set_cons_succ]
  refine wpS_copy (some 63) { dst := some 63, op := Op.call { callee := Callee.builtin Builtin.copy, args := #[Operand.tmp 53, Operand.tmp 62], argTypes := #[22, 22] }, type := _, pos := _, after := _, guard := none } rfl rfl (by rfl) (.tmp 53) (.tmp 62) 22 22 rfl 3 Try.underlying22 (by kernel_rfl) nb 0 N N ⟨db, g, none⟩ (ds.length - g) (ds.length - g) rfl rfl KN.drew ((ds.drop g).map (Value.int .i64)) hmin (blk_src KD.drew g (by intro j v h; simpa using h)) (by simp; omega) (ints_one _) (fun _ h => h) ?_
  intro w3 KN3 E3'; rw [hcl]
  simp only [Act.put, List.setIfInBounds_toArray, List.set_cons_zero, List.set_cons_succ]
  refine wpS_quiet (some 7) { dst := some 7, op := Op.assign (Operand.tmp 63), type := _, pos := _, after := _, guard := none } _ rfl rfl (by rfl) (fun wE hE => by (go_simp; try with_reducible rfl)) ?_; simp only [Act.put, List.setIfInBounds_toArray, List.set_cons_zero, List.set_cons_succ]
  change Exit.then _ _ _ _ _
  go_wp2
  have KA := KA.drew.extX E3' hbn
  have KD := KD.drew.extX E3' (Ne.symm hnd)
  have KN : Blk w3 nb 3 ((ds.drop g).map (Value.int .i64) ++ List.replicate (N - c) (Value.int .i64 0)) := by
    rw [List.take_zero, List.nil_append, Nat.zero_add, hcl, List.drop_replicate] at KN3
    exact KN3
  have E3 : ExtX (fun k => k = b ∨ k = db) w w3 := E3.trans' E3'.undrew (fun k hk h => by omega)
  clear c0 c1 c2 c3 KN3 E3' hmin
  have c0 : w3.cell? ⟨b, 0, none⟩ = some _ := KA.cell rfl
  have c1 : w3.cell? ⟨b, 1, none⟩ = some _ := KA.cell rfl
  have c2 : w3.cell? ⟨b, 2, none⟩ = some _ := KA.cell rfl
  have c3 : w3.cell? ⟨b, 3, none⟩ = some _ := KA.cell rfl
  rw [HQL.out] at c3
  have hc1 : (0 : Int) ≤ c := by omega
  have hc2 : (c : Int) ≤ (N : Int) := by omega
  have hcn : ¬ N = c := by have := HN.out; omega
  have htm : ((g : Int) + (ds.length : Int)).tmod (ds.length : Int) = (g : Int) := by
    rw [Int.tmod_eq_emod_of_nonneg (by omega), Int.add_emod_right]; exact Int.emod_eq_of_lt (by omega) (by omega)
  have hds : ds ≠ [] := by intro h; simp [h] at hd
  have hmin : ((ds.take g).map (Value.int .i64)).length = Nat.min g (N - c) := by
    rw [List.length_map, List.length_take, Nat.min_eq_left (by omega)]; exact (Nat.min_eq_left (by have := HN.out; omega)).symm
  have hgl2 : ((ds.take g).map (Value.int .i64)).length = g := by rw [List.length_map, List.length_take, Nat.min_eq_left (by omega)]
  refine wp_region_sched (ops := ops_38_9) (ExtX (fun k => k = nb)) [] (.quiet 0 (.quiet 1 (.quiet 2 (.quiet 3 (.quiet 4 (.quiet 5 (.quiet 6 (.quiet 7 (.quiet 8 (.quiet 9 (.quiet 10 (.quiet 11 (.quiet 12 (.quiet 13 (.loud 14 (.done) (.stop)))))))))))))))) (by kernel_rfl) (ExtX.refl (fun k => k = nb)) (fun _ _ _ => ExtX.trans) (by kernel_rfl) (fun _ _ d _ _ h => by cases d <;> exact h) ?_
  refine wpS_quiet (some 64) { dst := some 64, op := Op.move (Operand.tmp 5), type := _, pos := _, after := _, guard := none } _ rfl rfl (by rfl) (fun wE hE => by (go_simp; try with_reducible rfl)) ?_; simp only [Act.put, List.setIfInBounds_toArray, List.set_cons_zero, List.set_cons_succ]
  refine wpS_quiet (some 65) { dst := some 65, op := Op.move (Operand.tmp 7), type := _, pos := _, after := _, guard := none } _ rfl rfl (by rfl) (fun wE hE => by (go_simp; try with_reducible rfl)) ?_; simp only [Act.put, List.setIfInBounds_toArray, List.set_cons_zero, List.set_cons_succ]
  refine wpS_quiet (some 66) { dst := some 66, op := Op.slice 22 (Operand.tmp 64) (some (Operand.tmp 65)) none none, type := _, pos := _, after := _, guard := none } _ rfl rfl (by rfl) (fun wE hE => by (go_simp; try with_reducible rfl)) ?_; simp only [Act.put, List.setIfInBounds_toArray, List.set_cons_zero, List.set_cons_succ]
  refine wpS_quiet (some 67) { dst := some 67, op := Op.move (Operand.tmp 0), type := _, pos := _, after := _, guard := none } _ rfl rfl (by rfl) (fun wE hE => by (go_simp; try with_reducible rfl)) ?_; simp only [Act.put, List.setIfInBounds_toArray, List.set_cons_zero, List.set_cons_succ]
  refine wpS_quiet (some 68) { dst := some 68, op := Op.nilCheck (Operand.tmp 67), type := _, pos := _, after := _, guard := none } _ rfl rfl (by rfl) (fun wE hE => by (go_simp; try with_reducible rfl)) ?_; simp only [Act.put, List.setIfInBounds_toArray, List.set_cons_zero, List.set_cons_succ]
  refine wpS_quiet (some 69) { dst := some 69, op := Op.fieldAddr 61 (Operand.tmp 68) 0, type := _, pos := _, after := _, guard := none } _ rfl rfl (by rfl) (fun wE hE => by (go_simp; try with_reducible rfl)) ?_; simp only [Act.put, List.setIfInBounds_toArray, List.set_cons_zero, List.set_cons_succ]
  refine wpS_quiet (some 70) { dst := some 70, op := Op.load 22 (Operand.tmp 69), type := _, pos := _, after := _, guard := none } _ rfl rfl (by rfl) (fun wE hE => by (have k0 := hE.cellS hbn c0; have k1 := hE.cellS hbn c1; have k2 := hE.cellS hbn c2; have k3 := hE.cellS hbn c3; go_simp; try with_reducible rfl)) ?_; simp only [Act.put, List.setIfInBounds_toArray, List.set_cons_zero, List.set_cons_succ]
  refine wpS_quiet (some 71) { dst := some 71, op := Op.move (Operand.tmp 6), type := _, pos := _, after := _, guard := none } _ rfl rfl (by rfl) (fun wE hE => by (go_simp; try with_reducible rfl)) ?_; simp only [Act.put, List.setIfInBounds_toArray, List.set_cons_zero, List.set_cons_succ]
  refine wpS_quiet (some 72) { dst := some 72, op := Op.move (Operand.tmp 0), type := _, pos := _, after := _, guard := none } _ rfl rfl (by rfl) (fun wE hE => by (go_simp; try with_reducible rfl)) ?_; simp only [Act.put, List.setIfInBounds_toArray, List.set_cons_zero, List.set_cons_succ]
  refine wpS_quiet (some 73) { dst := some 73, op := Op.nilCheck (Operand.tmp 72), type := _, pos := _, after := _, guard := none } _ rfl rfl (by rfl) (fun wE hE => by (go_simp; try with_reducible rfl)) ?_; simp only [Act.put, List.setIfInBounds_toArray, List.set_cons_zero, List.set_cons_succ]
  refine wpS_quiet (some 74) { dst := some 74, op := Op.fieldAddr 61 (Operand.tmp 73) 1, type := _, pos := _, after := _, guard := none } _ rfl rfl (by rfl) (fun wE hE => by (go_simp; try with_reducible rfl)) ?_; simp only [Act.put, List.setIfInBounds_toArray, List.set_cons_zero, List.set_cons_succ]
  refine wpS_quiet (some 75) { dst := some 75, op := Op.load 3 (Operand.tmp 74), type := _, pos := _, after := _, guard := none } _ rfl rfl (by rfl) (fun wE hE => by (have k0 := hE.cellS hbn c0; have k1 := hE.cellS hbn c1; have k2 := hE.cellS hbn c2; have k3 := hE.cellS hbn c3; go_simp; try with_reducible rfl)) ?_; simp only [Act.put, List.setIfInBounds_toArray, List.set_cons_zero, List.set_cons_succ]
  refine wpS_quiet (some 76) { dst := some 76, op := Op.binOp BinOp.rem 3 (Operand.tmp 71) (Operand.tmp 75) 3, type := _, pos := _, after := _, guard := none } _ rfl rfl (by rfl) (fun wE hE => by (go_simp; try with_reducible rfl)) ?_; simp only [Act.put, List.setIfInBounds_toArray, List.set_cons_zero, List.set_cons_succ]
  refine wpS_quiet (some 77) { dst := some 77, op := Op.slice 22 (Operand.tmp 70) none (some (Operand.tmp 76)) none, type := _, pos := _, after := _, guard := none } _ rfl rfl (by rfl) (fun wE hE => by (go_simp; try with_reducible rfl)) ?_; simp only [Act.put, List.setIfInBounds_toArray, List.set_cons_zero, List.set_cons_succ]
  refine wpS_copy (some 78) { dst := some 78, op := Op.call { callee := Callee.builtin Builtin.copy, args := #[Operand.tmp 66, Operand.tmp 77], argTypes := #[22, 22] }, type := _, pos := _, after := _, guard := none } rfl rfl (by rfl) (.tmp 66) (.tmp 77) 22 22 rfl 3 Try.underlying22 (by kernel_rfl) nb c (N - c) (N - c) ⟨db, 0, none⟩ g ds.length rfl rfl KN.drew ((ds.take g).map (Value.int .i64)) hmin (blk_src KD.drew 0 (by intro j v h; rw [Nat.zero_add]; rw [List.map_take] at h; rw [List.getElem?_take_of_lt (by have := (List.getElem?_eq_some_iff.1 h).1; simp at this; omega)] at h; exact h)) (by simp; have := HN.out; omega) (ints_one _) (fun _ h => h) ?_
  intro w3 KN3 E3'
  simp only [Act.put, List.setIfInBounds_toArray, List.set_cons_zero, List.set_cons_succ]
  change Exit.then _ _ _ _ _
  have KA : Blk w3 b T ([.slice (some ⟨db, 0, none⟩) ds.length ds.length, .int .i64 ds.length, .int .i64 g, .int .i64 q.length] ++ ex) := KA.drew.extX E3' hbn
  have KN : Blk w3 nb 3 ((q ++ List.replicate ds.length 0).map (Value.int .i64)) := by
    rw [List.take_left' hcl, hgl2, ← List.drop_drop, List.drop_left' hcl, List.drop_replicate] at KN3
    have e : (ds.drop g).map (Value.int .i64) ++ (ds.take g).map (Value.int .i64) ++ List.replicate (N - c - g) (Value.int .i64 0) = (q ++ List.replicate ds.length 0).map (Value.int .i64) := by
      rw [HQD.out, List.map_append, List.map_append, List.map_replicate, show N - c - g = ds.length by have := HN.out; omega]
    rw [← e]; exact KN3
  have E3 : ExtX (fun k => k = b ∨ k = db) w w3 := E3.trans' E3'.undrew (fun k hk h => by omega)
  obtain ⟨m, hm⟩ : ∃ m : Nat, m = ds.length := ⟨_, rfl⟩
  rw [← hm] at KN
  have hm0 : 0 < m := by omega
  have hn1 : q.length + m ≤ N := by have := HN.out; have := HFQ.out; omega
  have hn2 : N ≤ q.length + m := by have := HN.out; have := HFQ.out; omega
  clear c0 c1 c2 c3 KN3 E3' hm hmin htm hcl hgl2 KD hc1 hc2 hcn hto hto' hg1 hg2 hgn hw0
  have f0 := KA.frozen 0
  have f1 := KA.frozen 1
  have f2 := KA.frozen 2
  have c0 : w3.cell? ⟨b, 0, none⟩ = some _ := KA.cell rfl
  have c1 : w3.cell? ⟨b, 1, none⟩ = some _ := KA.cell rfl
  have c2 : w3.cell? ⟨b, 2, none⟩ = some _ := KA.cell rfl
  have c3 : w3.cell? ⟨b, 3, none⟩ = some _ := KA.cell rfl
  go_wp2
  have KA4 : Blk _ b T ([.slice (some ⟨nb, 0, none⟩) N N, .int .i64 (N:Int), .int .i64 0, .int .i64 q.length] ++ ex) := ((KA.setCell 2 (.int .i64 0)).setCell 0 (.slice (some ⟨nb, 0, none⟩) N N)).setCell 1 (.int .i64 (N:Int))
  have KN4 := ((KN.setCell_ne (p := ⟨b, 2, none⟩) (Ne.symm hnb) (.int .i64 0)).setCell_ne (p := ⟨b, 0, none⟩) (Ne.symm hnb) (.slice (some ⟨nb, 0, none⟩) N N)).setCell_ne (p := ⟨b, 1, none⟩) (Ne.symm hnb) (.int .i64 (N:Int))
  have E4 := ((E3.setCell (p := ⟨b, 2, none⟩) (.inl rfl) (.int .i64 0)).setCell (p := ⟨b, 0, none⟩) (.inl rfl) (.slice (some ⟨nb, 0, none⟩) N N)).setCell (p := ⟨b, 1, none⟩) (.inl rfl) (.int .i64 (N:Int))
  clear c0 c1 c2 c3 f0 f1 f2
  generalize (((w3.setCell ⟨b, 2, none⟩ (.int .i64 0)).setCell ⟨b, 0, none⟩ (.slice (some ⟨nb, 0, none⟩) N N)).setCell ⟨b, 1, none⟩ (.int .i64 (N:Int))) = w4 at *
  have c0 : w4.cell? ⟨b, 0, none⟩ = some _ := KA4.cell rfl
  have c1 : w4.cell? ⟨b, 1, none⟩ = some _ := KA4.cell rfl
  have c2 : w4.cell? ⟨b, 2, none⟩ = some _ := KA4.cell rfl
  have c3 : w4.cell? ⟨b, 3, none⟩ = some _ := KA4.cell rfl
  have hlt2 : q.length < N := by omega
  have hlti : (q.length : Int) < (N:Int) := by omega
  have hwr : IntKind.i64.wrap (q.length : Int) = (q.length : Int) := IntWalk.i64_in _ (by omega)
  have htm : (q.length : Int).tmod (N:Int) = (q.length : Int) := by rw [Int.tmod_eq_emod_of_nonneg (by omega)]; exact Int.emod_eq_of_lt (by omega) (by omega)
  have hnz : N ≠ 0 := by omega
  refine wp_region_sched (ops := ops_38_13) Ext [20] (.quiet 0 (.quiet 1 (.quiet 2 (.quiet 3 (.quiet 4 (.quiet 5 (.quiet 6 (.quiet 7 (.quiet 8 (.quiet 9 (.quiet 10 (.quiet 11 (.quiet 12 (.quiet 13 (.quiet 14 (.quiet 15 (.quiet 16 (.quiet 17 (.quiet 18 (.quiet 19 (.last 20 (.done)))))))))))))))))))))) (by kernel_rfl) ext_refl ext_trans (by kernel_rfl) (fun _ _ d _ _ h => by cases d <;> exact h) ?_
  refine wpS_quiet (some 90) { dst := some 90, op := Op.move (Operand.tmp 0), type := _, pos := _, after := _, guard := none } _ rfl rfl (by rfl) (fun wE hE => by (go_simp; try with_reducible rfl)) ?_; simp only [Act.put, List.setIfInBounds_toArray, List.set_cons_zero, List.set_cons_succ]
  refine wpS_quiet (some 91) { dst := some 91, op := Op.nilCheck (Operand.tmp 90), type := _, pos := _, after := _, guard := none } _ rfl rfl (by rfl) (fun wE hE => by (go_simp; try with_reducible rfl)) ?_; simp only [Act.put, List.setIfInBounds_toArray, List.set_cons_zero, List.set_cons_succ]
  refine wpS_quiet (some 92) { dst := some 92, op := Op.fieldAddr 61 (Operand.tmp 91) 0, type := _, pos := _, after := _, guard := none } _ rfl rfl (by rfl) (fun wE hE => by (go_simp; try with_reducible rfl)) ?_; simp only [Act.put, List.setIfInBounds_toArray, List.set_cons_zero, List.set_cons_succ]
  refine wpS_quiet (some 93) { dst := some 93, op := Op.load 22 (Operand.tmp 92), type := _, pos := _, after := _, guard := none } _ rfl rfl (by rfl) (fun wE hE => by (have k0 := hE.cellS c0; have k1 := hE.cellS c1; have k2 := hE.cellS c2; have k3 := hE.cellS c3; go_simp; try with_reducible rfl)) ?_; simp only [Act.put, List.setIfInBounds_toArray, List.set_cons_zero, List.set_cons_succ]
  refine wpS_quiet (some 94) { dst := some 94, op := Op.move (Operand.tmp 0), type := _, pos := _, after := _, guard := none } _ rfl rfl (by rfl) (fun wE hE => by (go_simp; try with_reducible rfl)) ?_; simp only [Act.put, List.setIfInBounds_toArray, List.set_cons_zero, List.set_cons_succ]
  refine wpS_quiet (some 95) { dst := some 95, op := Op.nilCheck (Operand.tmp 94), type := _, pos := _, after := _, guard := none } _ rfl rfl (by rfl) (fun wE hE => by (go_simp; try with_reducible rfl)) ?_; simp only [Act.put, List.setIfInBounds_toArray, List.set_cons_zero, List.set_cons_succ]
  refine wpS_quiet (some 96) { dst := some 96, op := Op.fieldAddr 61 (Operand.tmp 95) 3, type := _, pos := _, after := _, guard := none } _ rfl rfl (by rfl) (fun wE hE => by (go_simp; try with_reducible rfl)) ?_; simp only [Act.put, List.setIfInBounds_toArray, List.set_cons_zero, List.set_cons_succ]
  refine wpS_quiet (some 97) { dst := some 97, op := Op.load 3 (Operand.tmp 96), type := _, pos := _, after := _, guard := none } _ rfl rfl (by rfl) (fun wE hE => by (have k0 := hE.cellS c0; have k1 := hE.cellS c1; have k2 := hE.cellS c2; have k3 := hE.cellS c3; go_simp; try with_reducible rfl)) ?_; simp only [Act.put, List.setIfInBounds_toArray, List.set_cons_zero, List.set_cons_succ]
  refine wpS_quiet (some 98) { dst := some 98, op := Op.move (Operand.tmp 0), type := _, pos := _, after := _, guard := none } _ rfl rfl (by rfl) (fun wE hE => by (go_simp; try with_reducible rfl)) ?_; simp only [Act.put, List.setIfInBounds_toArray, List.set_cons_zero, List.set_cons_succ]
  refine wpS_quiet (some 99) { dst := some 99, op := Op.nilCheck (Operand.tmp 98), type := _, pos := _, after := _, guard := none } _ rfl rfl (by rfl) (fun wE hE => by (go_simp; try with_reducible rfl)) ?_; simp only [Act.put, List.setIfInBounds_toArray, List.set_cons_zero, List.set_cons_succ]
  refine wpS_quiet (some 100) { dst := some 100, op := Op.fieldAddr 61 (Operand.tmp 99) 2, type := _, pos := _, after := _, guard := none } _ rfl rfl (by rfl) (fun wE hE => by (go_simp; try with_reducible rfl)) ?_; simp only [Act.put, List.setIfInBounds_toArray, List.set_cons_zero, List.set_cons_succ]
  refine wpS_quiet (some 101) { dst := some 101, op := Op.load 3 (Operand.tmp 100), type := _, pos := _, after := _, guard := none } _ rfl rfl (by rfl) (fun wE hE => by (have k0 := hE.cellS c0; have k1 := hE.cellS c1; have k2 := hE.cellS c2; have k3 := hE.cellS c3; go_simp; try with_reducible rfl)) ?_; simp only [Act.put, List.setIfInBounds_toArray, List.set_cons_zero, List.set_cons_succ]
  refine wpS_quiet (some 102) { dst := some 102, op := Op.binOp BinOp.add 3 (Operand.tmp 97) (Operand.tmp 101) 3, type := _, pos := _, after := _, guard := none } _ rfl rfl (by rfl) (fun wE hE => by (go_simp; try with_reducible rfl)) ?_; simp only [Act.put, List.setIfInBounds_toArray, List.set_cons_zero, List.set_cons_succ]
  refine wpS_quiet (some 103) { dst := some 103, op := Op.move (Operand.tmp 0), type := _, pos := _, after := _, guard := none } _ rfl rfl (by rfl) (fun wE hE => by (go_simp; try with_reducible rfl)) ?_; simp only [Act.put, List.setIfInBounds_toArray, List.set_cons_zero, List.set_cons_succ]
  refine wpS_quiet (some 104) { dst := some 104, op := Op.nilCheck (Operand.tmp 103), type := _, pos := _, after := _, guard := none } _ rfl rfl (by rfl) (fun wE hE => by (go_simp; try with_reducible rfl)) ?_; simp only [Act.put, List.setIfInBounds_toArray, List.set_cons_zero, List.set_cons_succ]
  refine wpS_quiet (some 105) { dst := some 105, op := Op.fieldAddr 61 (Operand.tmp 104) 1, type := _, pos := _, after := _, guard := none } _ rfl rfl (by rfl) (fun wE hE => by (go_simp; try with_reducible rfl)) ?_; simp only [Act.put, List.setIfInBounds_toArray, List.set_cons_zero, List.set_cons_succ]
  refine wpS_quiet (some 106) { dst := some 106, op := Op.load 3 (Operand.tmp 105), type := _, pos := _, after := _, guard := none } _ rfl rfl (by rfl) (fun wE hE => by (have k0 := hE.cellS c0; have k1 := hE.cellS c1; have k2 := hE.cellS c2; have k3 := hE.cellS c3; go_simp; try with_reducible rfl)) ?_; simp only [Act.put, List.setIfInBounds_toArray, List.set_cons_zero, List.set_cons_succ]
  refine wpS_quiet (some 107) { dst := some 107, op := Op.binOp BinOp.rem 3 (Operand.tmp 102) (Operand.tmp 106) 3, type := _, pos := _, after := _, guard := none } _ rfl rfl (by rfl) (fun wE hE => by (go_simp; try with_reducible rfl)) ?_; simp only [Act.put, List.setIfInBounds_toArray, List.set_cons_zero, List.set_cons_succ]
  refine wpS_quiet (some 108) { dst := some 108, op := Op.move (Operand.tmp 1), type := _, pos := _, after := _, guard := none } _ rfl rfl (by rfl) (fun wE hE => by (go_simp; try with_reducible rfl)) ?_; simp only [Act.put, List.setIfInBounds_toArray, List.set_cons_zero, List.set_cons_succ]
  refine wpS_quiet (some 109) { dst := some 109, op := Op.indexAddr 22 (Operand.tmp 93) (Operand.tmp 107), type := _, pos := _, after := _, guard := none } _ rfl rfl (by rfl) (fun wE hE => by (go_simp; try with_reducible rfl)) ?_; simp only [Act.put, List.setIfInBounds_toArray, List.set_cons_zero, List.set_cons_succ]
  have d0 : w4.cell? ⟨nb, q.length, none⟩ = some (.int .i64 0) := KN4.cell (by rw [List.getElem?_map, List.getElem?_append_right (Nat.le_refl _), Nat.sub_self, repl0 m hm0]; rfl)
  have f4 := KN4.frozen q.length
  refine wpS_last none { dst := none, op := Op.store 3 (Operand.tmp 109) (Operand.tmp 108), type := _, pos := _, after := _, guard := none } undef (World.setCell w4.drew ⟨nb, q.length, none⟩ (.int .i64 x)) rfl rfl (by rfl) (.inr ⟨rfl, by (go_simp; try rfl)⟩) ?_
  simp only [Act.put]
  change Exit.then _ _ _ _ _
  have KA5 := KA4.drew.setCell_ne (p := ⟨nb, q.length, none⟩) hnb (.int .i64 x)
  have KN5 : Blk (World.setCell w4.drew ⟨nb, q.length, none⟩ (.int .i64 x)) nb 3 (((q ++ List.replicate m 0).set q.length x).map (Value.int .i64)) := by rw [List.map_set]; exact KN4.drew.setCell q.length (.int .i64 x)
  have E5 : ExtX (fun k => k = b ∨ k = db ∨ k = nb) w (World.setCell w4.drew ⟨nb, q.length, none⟩ (.int .i64 x)) := (E4.drew.mono (fun k _ h => h.elim .inl (fun h => .inr (.inl h)))).setCell (p := ⟨nb, q.length, none⟩) (.inr (.inr rfl)) (.int .i64 x)
  clear c0 c1 c2 c3 d0 f4 hwr htm
  generalize World.setCell w4.drew ⟨nb, q.length, none⟩ (.int .i64 x) = w5 at *
  have c3 : w5.cell? ⟨b, 3, none⟩ = some (.int .i64 q.length) := KA5.cell rfl
  have f3 := KA5.frozen 3
  go_wp2
  go_end0
  have hlen : ((q ++ List.replicate m 0).set q.length x).length = N := by simp; omega
  refine ⟨rfl, nb, (q ++ List.replicate m 0).set q.length x, 0, ⟨?_, ?_, hnb, Holds.fresh q m (by omega) x, by rw [hlen]; omega⟩, .inr hnw, ?_⟩
  · have := KA5.setCell 3 (.int .i64 ((q ++ [x]).length : Nat))
    rw [hlen]
    simpa using this
  · exact KN5.setCell_ne (p := ⟨b, 3, none⟩) (Ne.symm hnb) _
  · exact (E5.setCell (p := ⟨b, 3, none⟩) (.inl rfl) _).mono (fun k hk h => by rcases h with h | h | h; exact .inl h; exact .inr h; omega)

/-- A WRITE. -/
theorem writeOne (b : Nat) (T : TypeId) (ex : List Value) (db : Nat) (ds : List Int) (beg : Nat) (x : Int) (q : List Int) (hq : q.length ≤ 1000000) (w : World) (h : RingI w b T ex db ds beg q) :
    Calls Try.prog 38 #[.pointer (some ⟨b, 0, none⟩), .int .i64 x] w (WritePost w b T ex db (q ++ [x])) := by
  by_cases hlt : q.length < ds.length
  · exact writeOne_room b T ex db ds beg x q w h hlt
  have hf : q.length = ds.length := by have := h.2.2.2.1.1; omega
  by_cases hd : ds.length = 0
  · obtain rfl := List.eq_nil_of_length_eq_zero hd
    have hb0 : beg = 0 := by
      rcases h.2.2.2.1.2.1 with h2 | ⟨_, h2⟩
      · simp at h2
      · exact h2
    subst hb0
    exact writeOne_zero b T ex db x q (List.eq_nil_of_length_eq_zero (by simpa using hf)) w h
  by_cases hb : beg = 0
  · subst hb
    exact writeOne_begin b T ex db ds x q hf (by omega) (by omega) w h
  · exact writeOne_wrap b T ex db ds beg x q hf (by omega) (by omega) w h
end Go.Proofs.Ytgebafnbkglmaaa
