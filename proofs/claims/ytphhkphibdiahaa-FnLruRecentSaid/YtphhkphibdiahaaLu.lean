/-
  FnLruAnswers, walked.
-/
import Derived.Test.YtphhkphibdiahaaLt
namespace Go.Proofs.Ytphhkphibdiahaa
open Go.RowKit
set_option linter.unusedSimpArgs false
set_option linter.unusedVariables false

theorem rm_mem {L : PL} {k : Int} {p : Int × Int} (h : p ∈ rmP L k) : p ∈ L := (List.mem_filter.1 h).1
theorem ev_mem {size : Int} {L : PL} {p : Int × Int} (h : p ∈ (evP size L).1) : p ∈ L := by
  unfold evP at h
  split at h
  · exact (List.dropLast_sublist _).subset h
  · exact h
theorem do_mem {size : Int} {L : PL} {o : OpD} {p : Int × Int} (h : p ∈ (doP size L o).1) : p ∈ L ∨ p.1 = o.key := by
  unfold doP at h
  split at h
  · unfold addP at h
    split at h
    · rcases List.mem_cons.1 h with rfl | h
      · exact .inr rfl
      · exact .inl (rm_mem h)
    · rcases List.mem_cons.1 (ev_mem h) with rfl | h
      · exact .inr rfl
      · exact .inl h
  split at h
  · unfold getP at h
    split at h
    · rcases List.mem_cons.1 h with rfl | h
      · exact .inr rfl
      · exact .inl (rm_mem h)
    · exact .inl h
  split at h
  · unfold remP at h
    split at h
    · exact .inl (rm_mem h)
    · exact .inl h
  split at h
  · exact .inl ((List.dropLast_sublist _).subset h)
  split at h
  · exact .inl h
  · cases h
noncomputable def ops_3_12 : Array Oper := opsAt Try.f3 12
set_option maxRecDepth 20000 in
set_option maxHeartbeats 2000000 in
theorem walk_LruAnswers (size : Int) (ops : List OpD) (v : Value) (w : World) (h : (Rp.slice Rp.op).K w any ops [v]) :
    Calls Try.prog 3 #[.int .i64 size, v] w fun e w' => e = .returned (.bool true) ∧ Ext w w' := by
  have HH := Lib.hid h
  have HGA := Lib.hid (good_any size 6 ops v w h)
  obtain ⟨A, cap, hv, p1, p2, p3, hrow⟩ := h
  simp only [List.cons.injEq, and_true] at hv
  subst hv
  clear hrow
  go_enter Try.func3, Try.ntmps3
  by_cases hbig : (2147483647 : Int) < ops.length
  · have d0 : decide ((2147483647 : Int) < ops.length) = true := decide_eq_true hbig
    go_wp2_with fail
    go_ret
    exact ⟨rfl, Ext.refl _⟩
  have d0 : decide ((2147483647 : Int) < ops.length) = false := decide_eq_false hbig
  go_wp2_with fail
  refine HGA.out.mono ?_
  rintro e w1 ⟨b, rfl, hg, e1⟩
  have HE1 := Lib.hid e1
  clear e1
  cases b with
  | false =>
    clear hg
    go_wp2_with fail
    refine (live_any _).mono ?_
    rintro e w2 ⟨rfl, e2⟩
    have HE2 := Lib.hid e2
    clear e2
    go_wp2_with fail
    go_ret
    exact ⟨rfl, HE1.out.trans HE2.out⟩
  | true =>
  have HG := Lib.hid (hg rfl)
  clear hg
  go_wp2_with fail
  refine (implLru_any size ops _ w1 ((Rp.slice Rp.op).ext' HE1.out HH.out) (by have := HG.out.2.2.1; omega) HG.out.1 HG.out.2.1 (Lib.hid fun o ho => ⟨(HG.out.2.2.2 o ho).1, (HG.out.2.2.2 o ho).2.1⟩)).mono ?_
  rintro e w2 ⟨v', rfl, ow, e2⟩
  have HE2 := Lib.hid (HE1.out.trans e2)
  have HOW := Lib.hid ow
  obtain ⟨A2, cap2, rfl, _⟩ := ow.shape
  rw [ansP_length] at HOW ⊢
  clear ow e2
  go_wp2_with fail
  obtain ⟨c, hc⟩ : ∃ c, c = w2.heap.size := ⟨_, rfl⟩
  have hsc : Hid (SC (w2.alloc (.cells #[.int .i64 size, .slice none 0 0] 30)) c c size (.slice none 0 0) (stP size (ops.take 0))) := Lib.hid ⟨Nat.le_refl _, by rw [hc]; exact Blk.new w2 _ _, OwnP.nil _ _ _ _ _⟩
  have EC : Ext w2 (w2.alloc (.cells #[.int .i64 size, .slice none 0 0] 30)) := (Ext.refl _).alloc _
  rw [← hc]
  have HC := Lib.hid hc
  clear hc
  go_loopw [30] (fun i wr => ∃ k : Nat, i = .int .i64 k ∧ k ≤ ops.length ∧ ExtB c w2 wr ∧ Hid (∀ p ∈ stP size (ops.take k), -1099511627776 ≤ p.1 ∧ p.1 ≤ 1099511627776) ∧ Hid (∃ vs, SC wr c c size vs (stP size (ops.take k)))) (fun i _ => ops.length - (intOf i).toNat)
  case atStart => exact ⟨0, rfl, Nat.zero_le _, EC.toB (Nat.le_of_eq HC.out), Lib.hid (by simp [stP]), Lib.hid ⟨_, hsc.out⟩⟩
  case round =>
    obtain ⟨k, rfl, hk, hE, hB, hI⟩ := hrel
    have hE' : Ext w2 wr := ExtB.ext (HC.out ▸ hE)
    by_cases hlt : k < ops.length
    · obtain ⟨o, ho⟩ : ∃ o, ops[k]? = some o := ⟨_, List.getElem?_eq_getElem hlt⟩
      obtain ⟨vs, hSC⟩ := hI.out
      obtain ⟨_, _, _, _, _, _, hrow⟩ := HH.out
      obtain ⟨A', cap', hv, _, _, _, hrow⟩ := HH.out
      simp only [List.cons.injEq, Value.slice.injEq, and_true, true_and] at hv
      obtain ⟨rfl, rfl⟩ := hv
      obtain ⟨ba, off, rfl, _⟩ := hrow.addr (List.ne_nil_of_length_pos (by omega))
      obtain ⟨_, hc⟩ := flat_at (hrow.ext' (HE2.out.trans hE')) rfl ho
      have c0 := hc 0 _ rfl
      have c1 := hc 1 _ rfl
      have c2 := hc 2 _ rfl
      simp only [Nat.add_zero, ← Nat.add_assoc] at c0 c1 c2
      obtain ⟨a, ha⟩ : ∃ a, a = (doP size (stP size (ops.take k)) o).2 := ⟨_, rfl⟩
      have hg : (ansP size ops [])[k]? = some a := by rw [ansP_get ho, ha]; rfl
      obtain ⟨bg, og, v1, v2, rfl, a0, a1, a2, a3, k1, k2⟩ := an_at HOW.out.slice hg
      have hkl : (k : Int) < (ops.length : Int) := by omega
      have HA := Lib.hid ha
      have HO := Lib.hid ho
      have HK1 := Lib.hid k1
      have HK2 := Lib.hid k2
      have HSC := Lib.hid hSC
      have HE := Lib.hid hE
      obtain ⟨n, hn⟩ : ∃ n, n = ops.length := ⟨_, rfl⟩
      clear ha ho k1 k2 hSC hrow hc hg
      go_upto_region 12 with fail
      have EB : Ext wr (wr.alloc (.cells (opCells o).toArray 32)) := (Ext.refl _).alloc _
      have KO := Blk.new wr 32 (opCells o)
      change Code.wp _ _ _ _ (wr.alloc (.cells (opCells o).toArray 32))
      generalize wr.alloc (.cells (opCells o).toArray 32) = W at EB KO ⊢
      have g0 := (hE'.trans EB).cellS a0
      have g1 := (hE'.trans EB).cellS a1
      have g2 := (hE'.trans EB).cellS a2
      have g3 := (hE'.trans EB).cellS a3
      have hbg : bg < c := by rw [HC.out]; exact cell_lt a0
      have o0 := KO.cell (o := 0) rfl
      have o1 := KO.cell (o := 1) rfl
      have o2 := KO.cell (o := 2) rfl
      have HEB := Lib.hid EB
      have hcW : c ≤ W.heap.size := by rw [HC.out]; exact Nat.le_trans hE'.size EB.size
      have SCW : SC W.drew c c size vs (stP size (ops.take k)) := HSC.out.ext EB
      clear KO EB c0 c1 c2 a0 a1 a2 a3
      refine wp_region_sched (ops := ops_3_12) (ExtB c) [] (.quiet 0 (.quiet 1 (.quiet 2 (.quiet 3 (.quiet 4 (.loud 5 (.loud 6 (.loud 7 (.quiet 8 (.done)) (.stop)) (.stop)) (.stop))))))) (by kernel_rfl) (extB_refl c) (extB_trans c) (by kernel_rfl) (fun _ _ d _ _ h => by cases d <;> exact h) ?_
      refine wpS_quiet (some 35) { dst := some 35, op := Op.move (Operand.tmp 5), type := _, pos := _, after := _, guard := none } _ rfl rfl (by rfl) (fun wE hE => by (go_simp; try with_reducible rfl)) ?_; simp only [Act.put, List.setIfInBounds_toArray, List.set_cons_zero, List.set_cons_succ]
      refine wpS_quiet (some 36) { dst := some 36, op := Op.move (Operand.tmp 7), type := _, pos := _, after := _, guard := none } _ rfl rfl (by rfl) (fun wE hE => by (go_simp; try with_reducible rfl)) ?_; simp only [Act.put, List.setIfInBounds_toArray, List.set_cons_zero, List.set_cons_succ]
      refine wpS_quiet (some 37) { dst := some 37, op := Op.indexAddr 25 (Operand.tmp 35) (Operand.tmp 36), type := _, pos := _, after := _, guard := none } _ rfl rfl (by rfl) (fun wE hE => by (go_simp; try with_reducible rfl)) ?_; simp only [Act.put, List.setIfInBounds_toArray, List.set_cons_zero, List.set_cons_succ]
      refine wpS_quiet (some 38) { dst := some 38, op := Op.load 36 (Operand.tmp 37), type := _, pos := _, after := _, guard := none } _ rfl rfl (by rfl) (fun wE hE => by (have zk0 := hE.cellS hbg g0; have zk1 := hE.cellS hbg g1; have zk2 := hE.cellS hbg g2; have zk3 := hE.cellS hbg g3; go_simp; try with_reducible rfl)) ?_; simp only [Act.put, List.setIfInBounds_toArray, List.set_cons_zero, List.set_cons_succ]
      refine wpS_quiet (some 39) { dst := some 39, op := Op.move (Operand.tmp 6), type := _, pos := _, after := _, guard := none } _ rfl rfl (by rfl) (fun wE hE => by (go_simp; try with_reducible rfl)) ?_; simp only [Act.put, List.setIfInBounds_toArray, List.set_cons_zero, List.set_cons_succ]
      refine wpS_val (some 40) { dst := some 40, op := Op.load 32 (Operand.tmp 8), type := _, pos := _, after := _, guard := none } (opV o) _ rfl rfl (by rfl) (.inl (by go_simp; try rfl)) (ExtB.refl _ _) ?_ trivial
      simp only [Act.put, List.setIfInBounds_toArray, List.set_cons_zero, List.set_cons_succ]
      have hkd := HG.out.2.2.2 o (List.mem_of_getElem? HO.out)
      have hDO := do_any c c size (ops.take k).length vs _ o W.drew SCW (st_inv HG.out.1 (ops.take k)) (by have := HG.out.2.2.1; have h2 : (ops.take k).length ≤ k := List.length_take_le _ _; omega) HG.out.1 HG.out.2.1 hB ⟨hkd.1, hkd.2.1⟩ hcW
      unfold DoAns at hDO
      rw [← stP_take HO.out, ← HA.out] at hDO
      have HDO := Lib.hid hDO
      have HKD := Lib.hid hkd
      clear hDO SCW hkd g0 g1 g2 g3 o0 o1 o2
      refine wpS_call (some 41) { dst := some 41, op := Op.call { callee := Callee.value (Operand.func 9), args := #[Operand.tmp 39, Operand.tmp 40], argTypes := #[27, 32] }, type := _, pos := _, after := _, guard := none } 9 _ rfl rfl (by rfl) (by go_simp; try first | with_reducible rfl | exact ⟨rfl, rfl⟩) ?_
      refine HDO.out.mono ?_; rintro e w5 ⟨v1', v2', vn, rfl, q1, q2, sc5, x5⟩; refine ⟨_, rfl, x5, ?_⟩; simp only [Act.put, List.setIfInBounds_toArray, List.set_cons_zero, List.set_cons_succ]
      have x05 : ExtB w2.heap.size w2 w5 := by rw [← HC.out]; exact (HE.out.trans (HEB.out.toB (by rw [HC.out]; exact hE'.size))).trans (show ExtB c W w5 from x5)
      refine wpS_call (some 42) { dst := some 42, op := Op.call { callee := Callee.value (Operand.func 8), args := #[Operand.tmp 38, Operand.tmp 41], argTypes := #[36, 36] }, type := _, pos := _, after := _, guard := none } 8 _ rfl rfl (by rfl) (by go_simp; try first | with_reducible rfl | exact ⟨rfl, rfl⟩) ?_
      refine (same_any a v1 v2 v1' v2' w5 ((Rp.slice Rp.iv).ext' x05.ext HK1.out) ((Rp.slice Rp.iv).ext' x05.ext HK2.out) q1 q2).mono ?_; rintro e w6 ⟨rfl, e6⟩; refine ⟨_, rfl, e6.toB (Nat.le_trans hcW x5.size), ?_⟩; simp only [Act.put, List.setIfInBounds_toArray, List.set_cons_zero, List.set_cons_succ]
      refine wpS_quiet (some 43) { dst := some 43, op := Op.unOp UnOp.not 4 (Operand.tmp 42), type := _, pos := _, after := _, guard := none } _ rfl rfl (by rfl) (fun wE hE => by (go_simp; try with_reducible rfl)) ?_; simp only [Act.put, List.setIfInBounds_toArray, List.set_cons_zero, List.set_cons_succ]
      change Exit.then _ _ _ _ _
      have sc6 := sc5.ext e6
      have X06 : ExtB c w2 w6 := by rw [HC.out]; exact x05.trans (e6.toB x05.size)
      have HSC6 := Lib.hid sc6
      have HX06 := Lib.hid X06
      clear x05 x5 sc5 sc6 X06 e6 q1 q2
      go_wp2_with fail
      go_roundw
      case rel => exact ⟨k + 1, by simp, by omega, HX06.out, Lib.hid (fun p hp => by
        rw [stP_take HO.out] at hp
        rcases do_mem hp with hp | hp
        · exact hB.out p hp
        · rw [hp]; exact HKD.out.2.2), Lib.hid ⟨_, HSC6.out⟩⟩
      case measure => simp [intOf]; omega
    · have hke : k = ops.length := by omega
      subst hke
      go_wp2_with fail
      refine (live_any _).mono ?_
      rintro e w3 ⟨rfl, e3⟩
      have HE3 := Lib.hid e3
      clear e3
      go_wp2_with fail
      go_ret
      exact ⟨rfl, (HE2.out.trans hE').trans HE3.out⟩
end Go.Proofs.Ytphhkphibdiahaa
