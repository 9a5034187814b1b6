/-
  The walk of PeriodicCheck.
-/
import Derived.Test.YthnhgfpkmbgkdaaCp
import Derived.Deep.DeepCutAuto
namespace Go.Proofs.Ythnhgfpkmbgkdaa
open Go.RowKit
set_option linter.unusedSimpArgs false
set_option linter.unusedVariables false

theorem bg_any (w : World) : Calls Try.prog 52 #[] w fun e w' => ∃ u, e = .returned u ∧ Ext w w' := by
  go_enter Try.func52, Try.ntmps52
  go_wp2
  go_ret
  exact ⟨_, rfl, by first | exact Ext.refl w | exact (Ext.refl w).alloc _⟩
noncomputable def ops_38_4 : Array Oper := opsAt Try.f38 4
noncomputable def ops_38_5 : Array Oper := opsAt Try.f38 5
set_option maxRecDepth 40000 in
set_option maxHeartbeats 8000000 in
theorem periodic_any (c b cc : Nat) (f s : HsD) (rev2 own latest : Int) (ps : List CkD) (v : Value) (w : World) (hK : CkAt w c b latest) (hH : Blk w b 73 (hstCells (hst0 f s rev2 own (.func (.func 37) #[] #[.pointer (some ⟨cc, 0, none⟩)]))))
    (hC : Blk w cc 59 [v]) (hcb : c ≠ b) (hccb : cc ≠ b) (hp : (Rp.slice Rp.pe).K w (fun k => k ≠ b) ps [v]) (hl : ps.length ≤ 1000) :
    Calls Try.prog 38 #[.pointer (some ⟨c, 0, none⟩)] w fun e w' => e = .returned .nilIface ∧ ∃ x' rl, HAt w' b b x' (alOf f s rev2 own ps) rl ∧ ExtX (fun k => k = b) w w' := by
  obtain ⟨x, hx⟩ : ∃ x, x = hst0 f s rev2 own (.func (.func 37) #[] #[.pointer (some ⟨cc, 0, none⟩)]) := ⟨_, rfl⟩
  have HA : HAt w b b x [] [] := ⟨by rw [hx]; exact hH, by rw [hx]; exact OwnP.nil _ _ _ _ _, by rw [hx]; exact OwnP.nil _ _ _ _ _, Nat.le_refl _⟩
  have HPR : Hid (∀ k, HPriv b x k → k = b) := Lib.hid (fun k hk => by rw [hx] at hk; rcases hk with h | h | h <;> first | exact h | simp [Value.ownBlock] at h)
  have hfn : Hid (x.fn = .func (.func 37) #[] #[.pointer (some ⟨cc, 0, none⟩)]) := Lib.hid (by rw [hx])
  have hxf : Hid (hashNow x = f) := Lib.hid (by rw [hx]; rfl)
  have hxs : Hid (x.s = s) := Lib.hid (by rw [hx])
  have hxr : Hid (x.rev2 = rev2) := Lib.hid (by rw [hx])
  have hxo : Hid (x.own = own) := Lib.hid (by rw [hx])
  have hxal : Hid (x.alarms = .slice none 0 0) := Lib.hid (by rw [hx])
  have hxa : x.asked = 0 := by rw [hx]
  have hxa0 : 0 ≤ x.asked := by omega
  have hxa1 : x.asked ≤ 10 := by omega
  replace hx := Lib.hid hx
  replace hxa := Lib.hid hxa
  obtain ⟨W0, hW0⟩ : ∃ W, W = w.alloc (.cells #[.pointer (some ⟨c, 0, none⟩)] 74) := ⟨_, rfl⟩
  have E00 : Ext w W0 := by rw [hW0]; exact (Ext.refl w).alloc _
  have KB : Hid (Blk W0 w.heap.size 74 [.pointer (some ⟨c, 0, none⟩)]) := Lib.hid (by rw [hW0]; exact Blk.new w _ _)
  have hbw : b < w.heap.size := HA.lt
  have hcw : c < w.heap.size := Blk.lt hK
  have HHA := Lib.hid (HA.ext E00)
  have HP := Lib.hid ((Rp.slice Rp.pe).ext' E00 hp)
  have HCK : Hid (Blk W0 c 81 [.pointer none, .iface 69 (.pointer (some ⟨b, 0, none⟩)), .int .i64 latest]) := Lib.hid (Blk.ext hK E00)
  have HC := Lib.hid (hC.ext E00)
  have k1 := Blk.cell hK (o := 1) rfl
  clear HA hp hK hH hC
  go_enter Try.func38, Try.ntmps38
  go_wp2_with fail
  change Calls _ _ _ (w.alloc (.cells #[.pointer (some ⟨c, 0, none⟩)] 74)) _
  rw [← hW0]
  clear hW0 k1
  refine (hashBy_any b b x [] [] 0 W0 HHA.out hxa0 hxa1).mono ?_
  rintro e w1 ⟨rfl, h1, X1⟩
  rw [hxf.out]
  have H1 := Lib.hid h1
  have k1 := (HCK.out.extX X1 hcb).cell (o := 1) rfl
  have hwb : w.heap.size ≠ b := by omega
  have kb := (KB.out.extX X1 hwb).cell (o := 0) rfl
  clear h1
  go_wp2_with fail
  obtain ⟨W2, hW2⟩ : ∃ W, W = w1.alloc (.cells (hsCells f).toArray 55) := ⟨_, rfl⟩
  have E12 : Ext w1 W2 := by rw [hW2]; exact (Ext.refl w1).alloc _
  have KF : Blk W2 w1.heap.size 55 (hsCells f) := by rw [hW2]; exact Blk.new w1 _ _
  change Code.wp _ _ _ _ (w1.alloc (.cells (hsCells f).toArray 55))
  rw [← hW2]
  clear hW2
  have X02 : ExtX (fun k => k = b) W0 W2 := X1.trans (E12.toX _)
  have k1 := (HCK.out.extX X02 hcb).cell (o := 1) rfl
  have kb := (KB.out.extX X02 hwb).cell (o := 0) rfl
  have f2 := KF.cell (o := 2) rfl
  have H2 := Lib.hid (H1.out.ext E12)
  have hb1 : b < w1.heap.size := H1.out.lt
  have hne : w1.heap.size ≠ b := by omega
  have hww : w.heap.size < w1.heap.size := (KB.out.extX X1 hwb).lt
  have HC2 := Lib.hid (HC.out.extX X02 hccb)
  have HP2 := Lib.hid ((Rp.slice Rp.pe).extX X02 HP.out (fun k hk => hk))
  have hna : ∀ w : World, (nilAhead 277 69 (.pointer (some ⟨b, 0, none⟩)) "PeerHashByRev").run Try.prog w = .ok (some false) w := fun _ => by kernel_rfl
  have hme : ∀ w : World, (method 277 69 (.pointer (some ⟨b, 0, none⟩)) "PeerHashByRev").run Try.prog w = .ok (94, .pointer (some ⟨b, 0, none⟩)) w := fun _ => by kernel_rfl
  refine wp_region_sched (ops := ops_38_4) (ExtX (fun k => k = b)) [] (.quiet 0 (.quiet 1 (.quiet 2 (.quiet 3 (.quiet 4 (.quiet 5 (.loud 6 (.quiet 7 (.done)) (.stop)))))))) (by kernel_rfl) (ExtX.refl (fun k => k = b)) (fun _ _ _ => ExtX.trans) (by kernel_rfl) (fun _ _ d _ _ h => by cases d <;> exact h) ?_
  refine wpS_quiet (some 26) { dst := some 26, op := Op.load 74 (Operand.tmp 1), type := _, pos := _, after := _, guard := none } _ rfl rfl (by rfl) (fun wE hE => by (have zk0 := hE.cellS (by first | exact hcb | exact hne | exact hwb) k1; have zk1 := hE.cellS (by first | exact hcb | exact hne | exact hwb) f2; have zk2 := hE.cellS (by first | exact hcb | exact hne | exact hwb) kb; go_simp; try with_reducible rfl)) ?_; simp only [Act.put, List.setIfInBounds_toArray, List.set_cons_zero, List.set_cons_succ]
  refine wpS_quiet (some 27) { dst := some 27, op := Op.nilCheck (Operand.tmp 26), type := _, pos := _, after := _, guard := none } _ rfl rfl (by rfl) (fun wE hE => by (go_simp; try with_reducible rfl)) ?_; simp only [Act.put, List.setIfInBounds_toArray, List.set_cons_zero, List.set_cons_succ]
  refine wpS_quiet (some 28) { dst := some 28, op := Op.fieldAddr 81 (Operand.tmp 27) 1, type := _, pos := _, after := _, guard := none } _ rfl rfl (by rfl) (fun wE hE => by (go_simp; try with_reducible rfl)) ?_; simp only [Act.put, List.setIfInBounds_toArray, List.set_cons_zero, List.set_cons_succ]
  refine wpS_quiet (some 29) { dst := some 29, op := Op.load 77 (Operand.tmp 28), type := _, pos := _, after := _, guard := none } _ rfl rfl (by rfl) (fun wE hE => by (have zk0 := hE.cellS (by first | exact hcb | exact hne | exact hwb) k1; have zk1 := hE.cellS (by first | exact hcb | exact hne | exact hwb) f2; have zk2 := hE.cellS (by first | exact hcb | exact hne | exact hwb) kb; go_simp; try with_reducible rfl)) ?_; simp only [Act.put, List.setIfInBounds_toArray, List.set_cons_zero, List.set_cons_succ]
  refine wpS_quiet (some 30) { dst := some 30, op := Op.fieldAddr 55 (Operand.tmp 3) 2, type := _, pos := _, after := _, guard := none } _ rfl rfl (by rfl) (fun wE hE => by (go_simp; try with_reducible rfl)) ?_; simp only [Act.put, List.setIfInBounds_toArray, List.set_cons_zero, List.set_cons_succ]
  refine wpS_quiet (some 31) { dst := some 31, op := Op.load 2 (Operand.tmp 30), type := _, pos := _, after := _, guard := none } _ rfl rfl (by rfl) (fun wE hE => by (have zk0 := hE.cellS (by first | exact hcb | exact hne | exact hwb) k1; have zk1 := hE.cellS (by first | exact hcb | exact hne | exact hwb) f2; have zk2 := hE.cellS (by first | exact hcb | exact hne | exact hwb) kb; go_simp; try with_reducible rfl)) ?_; simp only [Act.put, List.setIfInBounds_toArray, List.set_cons_zero, List.set_cons_succ]
  refine wpS_call (some 32) { dst := some 32, op := Op.call { callee := Callee.invoke (Operand.tmp 29) "PeerHashByRev", args := #[Operand.tmp 31], argTypes := #[2] }, type := _, pos := _, after := _, guard := none } _ _ rfl rfl (by rfl) (by go_simp; try first | with_reducible rfl | exact ⟨rfl, rfl⟩) ?_
  refine (ask37 b b { x with asked := x.asked + 1 } [] [] f.rev cc ps _ (H2.out.ext (Ext.refl _).drew) (by simp) hfn.out (fun W XW => clo37 cc ps v (.int .i64 f.rev) W (HC2.out.extX XW.undrew (fun h => hccb (HPR.out _ h))) ((Rp.slice Rp.pe).toAny ((Rp.slice Rp.pe).extX XW.undrew HP2.out (fun k hk hm => hk (HPR.out _ hm)))) hl)).mono ?_; rintro e w3 ⟨vr, v', rfl, h3, ho, X3, hpr⟩; refine ⟨_, rfl, (X3.mono (fun k _ hk ↦ HPR.out _ hk)), ?_⟩; simp only [Act.put, List.setIfInBounds_toArray, List.set_cons_zero, List.set_cons_succ]
  refine wpS_quiet (some 6) { dst := some 6, op := Op.assign (Operand.tmp 32), type := _, pos := _, after := _, guard := none } _ rfl rfl (by rfl) (fun wE hE => by (go_simp; try with_reducible rfl)) ?_; simp only [Act.put, List.setIfInBounds_toArray, List.set_cons_zero, List.set_cons_succ]
  change Exit.then _ _ _ _ _
  have HO := Lib.hid ho
  have X23 : ExtX (fun k => k = b) W2 w3 := X3.undrew.mono (fun k _ hk => HPR.out _ hk)
  have KF3 := KF.extX X23 hne
  have X03 := X02.trans X23
  have H3 := Lib.hid h3
  have k1 := (HCK.out.extX X03 hcb).cell (o := 1) rfl
  have kb := (KB.out.extX X03 hwb).cell (o := 0) rfl
  obtain ⟨A4, n4, cap4, rfl⟩ := own_shape HO.out
  clear ho h3 X3 hpr hna hme f2
  have hna : ∀ w : World, (nilAhead 277 69 (.pointer (some ⟨b, 0, none⟩)) "LinearizableReadNotify").run Try.prog w = .ok (some false) w := fun _ => by kernel_rfl
  have hme : ∀ w : World, (method 277 69 (.pointer (some ⟨b, 0, none⟩)) "LinearizableReadNotify").run Try.prog w = .ok (92, .pointer (some ⟨b, 0, none⟩)) w := fun _ => by kernel_rfl
  go_wp2_with fail
  obtain ⟨x2, hx2⟩ : ∃ x2 : HSt, x2 = { x with asked := x.asked + 1, revs := vr } := ⟨_, rfl⟩
  have H3 : Hid (HAt w3 b b x2 [] [f.rev]) := Lib.hid (by rw [hx2]; exact H3.out)
  have hs2 : Hid (hashNow x2 = s) := Lib.hid (by rw [hx2]; show (if 0 < x.asked + 1 then x.s else x.f) = s; rw [if_pos (by omega)]; exact hxs.out)
  have hr2 : Hid (x2.rev2 = rev2) := Lib.hid (by rw [hx2]; exact hxr.out)
  have ho2 : Hid (x2.own = own) := Lib.hid (by rw [hx2]; exact hxo.out)
  have hl2 : Hid (x2.alarms = .slice none 0 0) := Lib.hid (by rw [hx2]; exact hxal.out)
  have ha2 : 0 ≤ x2.asked := by rw [hx2]; show 0 ≤ x.asked + 1; omega
  have ha3 : x2.asked ≤ 10 := by rw [hx2]; show x.asked + 1 ≤ 10; have := hxa.out; omega
  have HO : Hid (OwnP Rp.pp w3 (fun k => W2.drew.heap.size ≤ k ∧ ¬ HPriv b x2 k) W2.drew.heap.size 94 (.slice A4 n4 cap4) ps) := Lib.hid (by rw [hx2]; exact HO.out)
  replace hx2 := Lib.hid hx2
  refine wp_region_sched (ops := ops_38_5) Ext [] (.quiet 0 (.quiet 1 (.quiet 2 (.quiet 3 (.quiet 5 (.quiet 6 (.loud 4 (.loud 7 (.quiet 8 (.done)) (.stop)) (.stop)))))))) (by kernel_rfl) ext_refl ext_trans (by kernel_rfl) (fun _ _ d _ _ h => by cases d <;> exact h) ?_
  refine wpS_quiet (some 33) { dst := some 33, op := Op.load 74 (Operand.tmp 1), type := _, pos := _, after := _, guard := none } _ rfl rfl (by rfl) (fun wE hE => by (have zk0 := hE.cellS kb; have zk1 := hE.cellS k1; go_simp; try with_reducible rfl)) ?_; simp only [Act.put, List.setIfInBounds_toArray, List.set_cons_zero, List.set_cons_succ]
  refine wpS_quiet (some 34) { dst := some 34, op := Op.nilCheck (Operand.tmp 33), type := _, pos := _, after := _, guard := none } _ rfl rfl (by rfl) (fun wE hE => by (go_simp; try with_reducible rfl)) ?_; simp only [Act.put, List.setIfInBounds_toArray, List.set_cons_zero, List.set_cons_succ]
  refine wpS_quiet (some 35) { dst := some 35, op := Op.fieldAddr 81 (Operand.tmp 34) 1, type := _, pos := _, after := _, guard := none } _ rfl rfl (by rfl) (fun wE hE => by (go_simp; try with_reducible rfl)) ?_; simp only [Act.put, List.setIfInBounds_toArray, List.set_cons_zero, List.set_cons_succ]
  refine wpS_quiet (some 36) { dst := some 36, op := Op.load 77 (Operand.tmp 35), type := _, pos := _, after := _, guard := none } _ rfl rfl (by rfl) (fun wE hE => by (have zk0 := hE.cellS kb; have zk1 := hE.cellS k1; go_simp; try with_reducible rfl)) ?_; simp only [Act.put, List.setIfInBounds_toArray, List.set_cons_zero, List.set_cons_succ]
  refine wpS_quiet (some 38) { dst := some 38, op := Op.nilCheck (Operand.tmp 36), type := _, pos := _, after := _, guard := none } _ rfl rfl (by rfl) (fun wE hE => by (go_simp; try with_reducible rfl)) ?_; simp only [Act.put, List.setIfInBounds_toArray, List.set_cons_zero, List.set_cons_succ]
  refine wpS_quiet (some 39) { dst := some 39, op := Op.move (Operand.tmp 36), type := _, pos := _, after := _, guard := none } _ rfl rfl (by rfl) (fun wE hE => by (go_simp; try with_reducible rfl)) ?_; simp only [Act.put, List.setIfInBounds_toArray, List.set_cons_zero, List.set_cons_succ]
  refine wpS_call (some 37) { dst := some 37, op := Op.call { callee := Callee.value (Operand.func 52), args := #[], argTypes := #[] }, type := _, pos := _, after := _, guard := none } 52 _ rfl rfl (by rfl) (by go_simp; try first | with_reducible rfl | exact ⟨rfl, rfl⟩) ?_
  refine (bg_any _).mono ?_; rintro e w4 ⟨u, rfl, e4⟩; refine ⟨_, rfl, e4, ?_⟩; simp only [Act.put, List.setIfInBounds_toArray, List.set_cons_zero, List.set_cons_succ]
  refine wpS_call (some 40) { dst := some 40, op := Op.call { callee := Callee.invoke (Operand.tmp 39) "LinearizableReadNotify", args := #[Operand.tmp 37], argTypes := #[124] }, type := _, pos := _, after := _, guard := none } _ _ rfl rfl (by rfl) (by go_simp; try first | with_reducible rfl | exact ⟨rfl, rfl⟩) ?_
  refine (notify_any b u w4).mono ?_; rintro e w5 ⟨rfl, rfl⟩; refine ⟨_, rfl, (Ext.refl _), ?_⟩; simp only [Act.put, List.setIfInBounds_toArray, List.set_cons_zero, List.set_cons_succ]
  refine wpS_quiet (some 5) { dst := some 5, op := Op.assign (Operand.tmp 40), type := _, pos := _, after := _, guard := none } _ rfl rfl (by rfl) (fun wE hE => by (go_simp; try with_reducible rfl)) ?_; simp only [Act.put, List.setIfInBounds_toArray, List.set_cons_zero, List.set_cons_succ]
  change Exit.then _ _ _ _ _
  have E34 := e4.undrew
  have X04 := X03.trans (E34.toX _)
  have k1 := (HCK.out.extX X04 hcb).cell (o := 1) rfl
  have kb := (KB.out.extX X04 hwb).cell (o := 0) rfl
  clear hna hme e4
  go_wp2_with fail
  refine (hashBy_any b b x2 [] [f.rev] 0 w4 (H3.out.ext E34) ha2 ha3).mono ?_
  rintro e w6 ⟨rfl, h6, X6⟩
  rw [hs2.out, hr2.out]
  have X06 := X04.trans X6
  have X36 : ExtX (fun k => k = b) w3 w6 := (E34.toX _).trans X6
  obtain ⟨x3, hx3⟩ : ∃ x3 : HSt, x3 = { x2 with asked := x2.asked + 1 } := ⟨_, rfl⟩
  have H6 : Hid (HAt w6 b b x3 [] [f.rev]) := Lib.hid (by rw [hx3]; exact h6)
  have ho3 : Hid (x3.own = own) := Lib.hid (by rw [hx3]; exact ho2.out)
  have hl3 : Hid (x3.alarms = .slice none 0 0) := Lib.hid (by rw [hx3]; exact hl2.out)
  have HO : Hid (OwnP Rp.pp w3 (fun k => W2.drew.heap.size ≤ k ∧ ¬ HPriv b x3 k) W2.drew.heap.size 94 (.slice A4 n4 cap4) ps) := Lib.hid (by rw [hx3]; exact HO.out)
  replace hx3 := Lib.hid hx3
  have k1 := (HCK.out.extX X06 hcb).cell (o := 1) rfl
  have kb := (KB.out.extX X06 hwb).cell (o := 0) rfl
  clear h6
  go_upto_region 13 with fail
  obtain ⟨wL, hwL⟩ : ∃ W, W = (w6.alloc (.cells (hsCells s).toArray 55)).alloc (.cells #[.bool false] 4) := ⟨_, rfl⟩
  have E6L : Ext w6 wL := by rw [hwL]; exact ((Ext.refl w6).alloc _).alloc _
  have KS : Blk wL w6.heap.size 55 (hsCells s) := by rw [hwL]; exact (blk_at _ _ _ _ rfl).ext ((Ext.refl _).alloc _)
  have KA : Blk wL (w6.heap.size + 1) 4 [.bool false] := by rw [hwL]; exact blk_at _ _ _ _ (by simp)
  have hLs : wL.heap.size = w6.heap.size + 1 + 1 := by rw [hwL]; simp
  change Code.wp _ _ _ _ ((w6.alloc (.cells (hsCells s).toArray 55)).alloc (.cells #[.bool false] 4))
  rw [← hwL]
  clear hwL
  obtain ⟨L, hL⟩ : ∃ L, L = wL.heap.size := ⟨_, rfl⟩
  have X0L := X06.trans (E6L.toX _)
  have s13 := (X36.size)
  have l36 : w1.heap.size < w6.heap.size := (KF3.extX X36 hne).lt
  have hrv : ∀ g, x3.revs.ownBlock = some g → g < w6.heap.size := fun g hg => (H6.out.rl.own g hg).2
  have ENV : Hid (PEnv wL L b (w6.heap.size + 1) w.heap.size c w1.heap.size w6.heap.size x3 f s latest) := Lib.hid
    { hL := hL, hf := (KF3.extX X36 hne).ext E6L, hs := KS, hcb := KB.out.extX X0L hwb, hc := HCK.out.extX X0L hcb, hab := by omega, rv := fun g hg => by have := hrv g hg; omega,
      ne := by have := X06.size; have := E00.size; omega }
  have INV0 : Hid (PInv wL wL L b (w6.heap.size + 1) x3 [] [f.rev]) := Lib.hid ⟨⟨.slice none 0 0, by have := H6.out.ext E6L; rw [show x3 = { x3 with alarms := .slice none 0 0 } from by rw [← hl3.out]] at this; exact this, fun g hg => by simp [Value.ownBlock] at hg⟩, KA, by simp, ExtX.refl _ _⟩
  have HRW : Hid (n4 = ps.length ∧ Rp.pp.row wL (fun k => k ≠ b ∧ k ≠ w6.heap.size + 1 ∧ k < L) A4 ps) := Lib.hid (by
    obtain ⟨A, cap, hv, p1, p2, p3, hrow⟩ := HO.out.slice
    simp only [List.cons.injEq, Value.slice.injEq, and_true] at hv
    obtain ⟨rfl, rfl, rfl⟩ := hv
    refine ⟨rfl, ?_⟩
    have h2 := Rp.row.ext (w' := w6) (fun k hk => X36.2.2.2.2 k hk.2 (fun he => hk.1.2 (.inl he))) hrow.lt
    have h3 := Rp.row.ext' E6L h2.lt
    exact Rp.row.mono (fun k hk => by have h1 := hk.2; have h2 := hk.1.1.2; exact ⟨fun he => h2 (.inl he), by omega, by omega⟩) h3)
  obtain ⟨hn4, hrow⟩ := HRW.out
  subst hn4
  have HR := Lib.hid hrow
  have d0 := KS.cell (o := 0) rfl
  have d1 := KS.cell (o := 1) rfl
  have d2 := KS.cell (o := 2) rfl
  have KFL := (KF3.extX X36 hne).ext E6L
  have g0 := KFL.cell (o := 0) rfl
  have g1 := KFL.cell (o := 1) rfl
  have g2 := KFL.cell (o := 2) rfl
  clear hrow HRW k1 kb hrv KS KA KF KF3 KFL
  go_cut [75] (fun u wx => u = .bool (selfQ f s) ∧ Hid (PInv wL wx L b (w6.heap.size + 1) x3 [] [f.rev]))
  case first =>
    by_cases q1 : s.hash = f.hash
    · have hq : Hid (selfQ f s = false) := Lib.hid (by simp [selfQ, q1])
      have t1 : (s.hash != f.hash) = false := by simp [q1]
      have t1' : (s.hash == f.hash) = true := by simp [q1]
      replace q1 := Lib.hid q1
      go_wp2_with fail
      go_meet
      exact ⟨by rw [hq.out], INV0⟩
    have t1 : (s.hash != f.hash) = true := by simp [q1]
    have t1' : (s.hash == f.hash) = false := by simp [q1]
    by_cases q2 : s.rev = f.rev
    · have t2 : (s.rev == f.rev) = true := by simp [q2]
      by_cases q3 : f.comp = s.comp
      · have hq : Hid (selfQ f s = true) := Lib.hid (by simp [selfQ, q1, q2, q3])
        have t3 : (f.comp == s.comp) = true := by simp [q3]
        replace q1 := Lib.hid q1
        replace q2 := Lib.hid q2
        replace q3 := Lib.hid q3
        go_wp2_with fail
        go_meet
        exact ⟨by rw [hq.out], INV0⟩
      · have hq : Hid (selfQ f s = false) := Lib.hid (by simp [selfQ, q3])
        have t3 : (f.comp == s.comp) = false := by simp [q3]
        replace q1 := Lib.hid q1
        replace q2 := Lib.hid q2
        replace q3 := Lib.hid q3
        go_wp2_with fail
        go_meet
        exact ⟨by rw [hq.out], INV0⟩
    · have hq : Hid (selfQ f s = false) := Lib.hid (by simp [selfQ, q2])
      have t2 : (s.rev == f.rev) = false := by simp [q2]
      replace q1 := Lib.hid q1
      replace q2 := Lib.hid q2
      go_wp2_with fail
      go_meet
      exact ⟨by rw [hq.out], INV0⟩
  case rest =>
    obtain ⟨rfl, hI⟩ := hcut
    clear d0 d1 d2 g0 g1 g2 INV0
    go_upto_if 75 with fail
    go_cut [] (fun wx => Hid (PInv wL wx L b (w6.heap.size + 1) x3 (stepA [] (selfQ f s) own) [f.rev]))
    case first =>
      cases hsq : selfQ f s with
      | false =>
        go_wp2_with fail
        go_meet
        rw [hsq]; exact hI
      | true =>
        obtain ⟨_, _, kb, kc⟩ := ENV.out.at hI.out.X
        have kb := kb.cell (o := 0) rfl
        have k1 := Blk.cell kc (o := 1) rfl
        obtain ⟨va, hH, _⟩ := hI.out.st
        have HM := Lib.hid hH
        replace hsq := Lib.hid hsq
        clear hH kc
        go_wp2_with fail
        refine (memberID_any b b { x3 with alarms := va } [] [f.rev] _ HM.out).mono ?_
        rintro e wm ⟨rfl, rfl⟩
        rw [show ({ x3 with alarms := va } : HSt).own = own from ho3.out]
        go_wp2_with fail
        refine (PInv.call ENV.out hI.out own).mono ?_
        rintro e wn ⟨rfl, hI2⟩
        replace hI2 := Lib.hid hI2
        clear hI
        go_wp2_with fail
        go_meet
        rw [hsq.out]; exact hI2
    case rest =>
      have hI0 := hcut
      clear hcut hI
      go_wp2_with fail
      go_loopw [11, 85] (fun m i wr => ∃ (k n : Nat), i = .int .i64 k ∧ k ≤ ps.length ∧ m = .int .i64 n ∧ n ≤ k ∧ Hid (PInv wL wr L b (w6.heap.size + 1) x3 (alOf f s rev2 own (ps.take k)) [f.rev])) (fun _ i _ => ps.length - (intOf i).toNat)
      case atStart => exact ⟨0, 0, rfl, Nat.zero_le _, rfl, Nat.le_refl _, hI0⟩
      case round =>
        obtain ⟨k, n, rfl, hk, rfl, hn, hI⟩ := hrel
        by_cases hlt : k < ps.length
        · obtain ⟨p, hp⟩ : ∃ p, ps[k]? = some p := ⟨_, List.getElem?_eq_getElem hlt⟩
          obtain ⟨ba, o, rfl, hbo⟩ := HR.out.addr (List.ne_nil_of_length_pos (by omega))
          obtain ⟨cs, _, ⟨be, rfl, hpp⟩, hc⟩ := HR.out.at rfl hp
          have hLe := ENV.out.hL
          have hsame : Hid (∀ wz, ExtX (fun k => k = b ∨ k = (w6.heap.size + 1) ∨ L ≤ k) wL wz → ∀ k, (k ≠ b ∧ k ≠ (w6.heap.size + 1) ∧ k < L) → wz.heap[k]? = wL.heap[k]?) := Lib.hid (fun wz X k hk => X.2.2.2.2 k (by omega) (by omega))
          have cE : wr.cell? ⟨ba, o + k, none⟩ = some (.pointer (some ⟨be, 0, none⟩)) := by
            have h1 : wL.cell? ⟨ba, o + k, none⟩ = some (.pointer (some ⟨be, 0, none⟩)) := by simpa [Rp.pp] using hc 0 (by decide)
            rw [← h1]
            exact World.cell?_of_block (hsame.out wr hI.out.X ba hbo)
          have HPP : Hid (∀ wz, ExtX (fun k => k = b ∨ k = (w6.heap.size + 1) ∨ L ≤ k) wL wz → PpAt wz (fun k => k ≠ b ∧ k ≠ (w6.heap.size + 1) ∧ k < L) p be) := Lib.hid (fun wz X => PpAt.heap (fun k hk => hsame.out wz X k hk) hpp)
          have HP := Lib.hid hp
          have HS : Hid (alOf f s rev2 own (ps.take (k + 1)) = stepP f s rev2 (alOf f s rev2 own (ps.take k)) p) := Lib.hid (alOf_snoc HP.out)
          clear hp hc hpp hbo hLe
          cases hh : p.has with
          | false =>
            have e2 := pp_no (HPP.out wr hI.out.X) hh
            have hb : Hid (alOf f s rev2 own (ps.take (k + 1)) = alOf f s rev2 own (ps.take k)) := Lib.hid (by rw [HS.out]; unfold stepP; rw [hh]; rfl)
            replace hh := Lib.hid hh
            go_wp2_with fail
            go_roundw
            case rel => exact ⟨k + 1, n, by go_num, by omega, rfl, by omega, by rw [hb.out]; exact hI⟩
            case measure => simp [intOf]; omega
          | true =>
            obtain ⟨a0, ha0⟩ : ∃ a0, a0 = alOf f s rev2 own (ps.take k) := ⟨_, rfl⟩
            rw [← ha0] at hI
            have hb : Hid (alOf f s rev2 own (ps.take (k + 1)) = stepA (stepA (stepA a0 (decide (rev2 < p.rev)) p.id) (decide (s.comp < p.comp)) p.id) (p.comp == f.comp && p.hash != f.hash) p.id) := Lib.hid (by rw [HS.out, ← ha0]; unfold stepP; rw [hh]; rfl)
            replace ha0 := Lib.hid ha0
            have HHH := Lib.hid hh
            obtain ⟨b2, b3, e0, e2, g0, g1, g2, g3⟩ := pp_yes (HPP.out wr hI.out.X) hh
            clear hh
            go_upto_if 107 with fail
            go_cut [] (fun wx => Hid (PInv wL wx L b (w6.heap.size + 1) x3 (stepA a0 (decide (rev2 < p.rev)) p.id) [f.rev]))
            case first =>
              by_cases hq : rev2 < p.rev
              · have hd : Hid (decide (rev2 < p.rev) = true) := Lib.hid (decide_eq_true hq)
                go_wp2_with fail
                refine (PInv.call ENV.out hI.out p.id).mono ?_
                rintro e wn ⟨rfl, hI2⟩
                replace hI2 := Lib.hid hI2
                clear hI
                go_wp2_with fail
                go_meet
                rw [hd.out]; exact hI2
              · have hd : Hid (decide (rev2 < p.rev) = false) := Lib.hid (decide_eq_false hq)
                have hq' : decide (rev2 < p.rev) = false := decide_eq_false hq
                go_wp2_with fail
                go_meet
                rw [hd.out]; exact hI
            case rest =>
              have hJ := hcut
              clear hcut hI e0 e2 g0 g1 g2 g3 cE
              obtain ⟨b2, b3, e0, e2, g0, g1, g2, g3⟩ := pp_yes (HPP.out wc hJ.out.X) HHH.out
              obtain ⟨kf, ks, _, _⟩ := ENV.out.at hJ.out.X
              have d1 := ks.cell (o := 1) rfl
              clear kf ks
              go_wp2_with fail
              go_quiet (fail)
              go_upto_if 124 with fail
              go_cut [] (fun wx => Hid (PInv wL wx L b (w6.heap.size + 1) x3 (stepA (stepA a0 (decide (rev2 < p.rev)) p.id) (decide (s.comp < p.comp)) p.id) [f.rev]))
              case first =>
                by_cases hq : s.comp < p.comp
                · have hd : Hid (decide (s.comp < p.comp) = true) := Lib.hid (decide_eq_true hq)
                  go_wp2_with fail
                  refine (PInv.call ENV.out (hJ.out.drewN _) p.id).mono ?_
                  rintro e wn ⟨rfl, hI2⟩
                  replace hI2 := Lib.hid hI2
                  clear hJ
                  go_wp2_with fail
                  go_meet
                  rw [hd.out]; exact hI2
                · have hd : Hid (decide (s.comp < p.comp) = false) := Lib.hid (decide_eq_false hq)
                  have hq' : decide (s.comp < p.comp) = false := decide_eq_false hq
                  go_wp2_with fail
                  go_meet
                  rw [hd.out]; exact Lib.hid (hJ.out.drewN _)
              case rest =>
                have hM := hcut
                clear hcut hJ e0 e2 g0 g1 g2 g3 d1
                obtain ⟨b2, b3, e0, e2, g0, g1, g2, g3⟩ := pp_yes (HPP.out wc hM.out.X) HHH.out
                obtain ⟨kf, ks, _, _⟩ := ENV.out.at hM.out.X
                have d1 := kf.cell (o := 1) rfl
                have d0 := kf.cell (o := 0) rfl
                clear kf ks
                go_upto_region 25 with fail
                go_cut [153] (fun u wx => u = .bool (p.comp == f.comp && p.hash != f.hash) ∧ Hid (PInv wL wx L b (w6.heap.size + 1) x3 (stepA (stepA a0 (decide (rev2 < p.rev)) p.id) (decide (s.comp < p.comp)) p.id) [f.rev]))
                case first =>
                  by_cases q1 : p.comp = f.comp
                  · have t1 : (p.comp == f.comp) = true := by simp [q1]
                    by_cases q2 : p.hash = f.hash
                    · have t2 : (p.hash != f.hash) = false := by simp [q2]
                      have t2' : (p.hash == f.hash) = true := by simp [q2]
                      have hd : Hid ((p.comp == f.comp && p.hash != f.hash) = false) := Lib.hid (by simp [q1, q2])
                      replace q1 := Lib.hid q1
                      replace q2 := Lib.hid q2
                      go_quiet (fail)
                      go_wp2_with fail
                      go_meet
                      exact ⟨by rw [hd.out], Lib.hid (hM.out.drewN _)⟩
                    · have t2 : (p.hash != f.hash) = true := by simp [q2]
                      have t2' : (p.hash == f.hash) = false := by simp [q2]
                      have hd : Hid ((p.comp == f.comp && p.hash != f.hash) = true) := Lib.hid (by simp [q1, q2])
                      replace q1 := Lib.hid q1
                      replace q2 := Lib.hid q2
                      go_quiet (fail)
                      go_wp2_with fail
                      go_meet
                      exact ⟨by rw [hd.out], Lib.hid (hM.out.drewN _)⟩
                  · have t1 : (p.comp == f.comp) = false := by simp [q1]
                    have hd : Hid ((p.comp == f.comp && p.hash != f.hash) = false) := Lib.hid (by simp [q1])
                    replace q1 := Lib.hid q1
                    go_quiet (fail)
                    go_wp2_with fail
                    go_meet
                    exact ⟨by rw [hd.out], Lib.hid (hM.out.drewN _)⟩
                case rest =>
                  obtain ⟨rfl, hN⟩ := hcut
                  clear hM e0 e2 g0 g1 g2 g3 d1 d0
                  obtain ⟨b2, b3, e0, e2, g0, g1, g2, g3⟩ := pp_yes (HPP.out wc hN.out.X) HHH.out
                  cases hq : (p.comp == f.comp && p.hash != f.hash) with
                  | true =>
                    replace hq := Lib.hid hq
                    go_wp2_with fail
                    refine (PInv.call ENV.out hN.out p.id).mono ?_
                    rintro e wn ⟨rfl, hI2⟩
                    replace hI2 := Lib.hid hI2
                    clear hN e0 e2 g0 g1 g2 g3
                    go_wp2_with fail
                    go_roundw
                    case rel => exact ⟨k + 1, n + 1, by go_num, by omega, by go_num, by omega, by rw [hb.out, hq.out]; exact hI2⟩
                    case measure => simp [intOf]; omega
                  | false =>
                    replace hq := Lib.hid hq
                    clear e0 e2 g0 g1 g2 g3
                    go_wp2_with fail
                    go_roundw
                    case rel => exact ⟨k + 1, n + 1, by go_num, by omega, by go_num, by omega, by rw [hb.out, hq.out]; exact hN⟩
                    case measure => simp [intOf]; omega
        · have hkn : Hid (k = ps.length) := Lib.hid (by omega)
          go_wp2_with fail
          go_ret
          have hI := hI.out
          rw [hkn.out, List.take_length] at hI
          obtain ⟨⟨va, h1, h2⟩, _, _, X⟩ := hI
          refine ⟨rfl, _, _, h1, ?_⟩
          have hLe := ENV.out.hL
          have e1 := E00.size
          have e2 := X06.size
          exact (((E00.toX (fun k => k = b)).trans X06).trans (E6L.toX _)).trans' X (fun k hk hm => by rcases hm with hm | hm | hm <;> omega)
end Go.Proofs.Ythnhgfpkmbgkdaa
