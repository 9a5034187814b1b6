/-
  FnCompactOnce walked.
-/
import Derived.Test.YthnhgfpkmbgkdaaDp
import Derived.Test.YthnhgfpkmbgkdaaDr
import Derived.Test.YthnhgfpkmbgkdaaDk
import Derived.Handy
import Derived.Deep.Cut
namespace Go.Proofs.Ythnhgfpkmbgkdaa
open Go.RowKit
set_option linter.unusedSimpArgs false
set_option linter.unusedVariables false

theorem onceP_wf {h : HsD} {p : CkD} (hw : h.wf) (hp : p.wf) : (onceP h p).wf := ⟨hp.1, hw.1, hw.2.1, hp.2.2.2.1, hp.2.2.2.2⟩
theorem nil_slice {α : Type} (d : Rp α) (w : World) (ok : Nat → Prop) (a : Addr) : (Rp.slice d).K w ok [] [.slice (some a) 0 0] := ⟨some a, 0, rfl, Nat.le_refl _, by decide, (fun h => by cases h), fun i x hx => by simp at hx⟩
theorem infoHsC : (Try.prog.info? 25).map (fun i => (i.zero, i.size, i.bytes)) = some (some (.agg #[.int .u32 0, .int .i64 0, .int .i64 0]), 3, 24) := by kernel_rfl
theorem infoI64z : (Try.prog.info? 2).map (fun i => (i.zero, i.size, i.bytes)) = some (some (.int .i64 0), 1, 8) := by kernel_rfl
noncomputable def ops_3_9 : Array Oper := opsAt Try.f3 9
noncomputable def ops_3_32 : Array Oper := opsAt Try.f3 32
set_option maxRecDepth 40000 in
set_option maxHeartbeats 8000000 in
theorem walk_CompactOnce (own : Int) (h : HsD) (ps : List CkD) (v : Value) (more : List Int) (vm : Value) (w : World) (hp : (Rp.slice Rp.ck).K w any ps [v]) (hm : (Rp.slice Rp.i64).K w any more [vm]) (hw : h.wf) :
    Calls Try.prog 3 #[.int .u64 own, hsV h, v, vm] w fun e w' => e = .returned (.bool true) ∧ Ext w w' := by
  have HP := Lib.hid hp
  obtain ⟨A, cap, hv, p1, p2, p3, hrow⟩ := id hp
  simp only [List.cons.injEq, and_true] at hv
  subst hv
  have HR := Lib.hid hrow
  obtain ⟨Am, capm, hvm, m1, m2, m3, hrowm⟩ := id hm
  simp only [List.cons.injEq, and_true] at hvm
  subst hvm
  have HRM := Lib.hid hrowm.lt
  have HW := Lib.hid hw
  have bh := i64_bounds hw.2.2
  clear hp hrow p3 hm hrowm m3 hw
  obtain ⟨W, hW⟩ : ∃ W, W = w.alloc (.cells (hsCells h).toArray 25) := ⟨_, rfl⟩
  have E0 : Ext w W := by rw [hW]; exact (Ext.refl w).alloc _
  have KH : Blk W w.heap.size 25 (hsCells h) := by rw [hW]; exact Blk.new w _ _
  have HWW := Lib.hid hW
  clear hW
  go_enter Try.func3, Try.ntmps3
  by_cases hbig : (2147483647 : Int) < ps.length
  · go_wp2_with fail
    go_ret
    exact ⟨rfl, (Ext.refl w).alloc _⟩
  have hsm : decide ((2147483647 : Int) < ps.length) = false := decide_eq_false hbig
  by_cases hbig2 : (2147483647 : Int) < more.length
  · go_wp2_with fail
    go_ret
    exact ⟨rfl, (Ext.refl w).alloc _⟩
  have hsm2 : decide ((2147483647 : Int) < more.length) = false := decide_eq_false hbig2
  go_wp2_with fail
  change Calls _ _ _ (w.alloc (.cells (hsCells h).toArray 25)) _
  rw [← HWW.out]
  refine (peersGood_any own ps _ W ((Rp.slice Rp.ck).ext' E0 HP.out)).mono ?_
  rintro e w1 ⟨c, rfl, hg, E1⟩
  have HG := Lib.hid hg
  have E01 := E0.trans E1
  clear hg hbig hsm hbig2 hsm2
  cases c with
  | false =>
    go_wp2_with fail
    go_ret
    exact ⟨rfl, E01⟩
  | true =>
  have hl : ps.length ≤ 12 := HG.out rfl
  have KH1 := KH.ext E1
  have k2 := KH1.cell (o := 2) rfl
  by_cases h0 : ps.length = 0
  · have g0 : ((ps.length : Int) == 0) = true := by simp [h0]
    go_wp2_with fail
    go_ret
    exact ⟨rfl, E01⟩
  have g0 : ((ps.length : Int) == 0) = false := beq_eq_false_iff_ne.2 (fun h => h0 (by omega))
  by_cases h1 : h.rev < 1
  · have g1 : decide (h.rev < 1) = true := decide_eq_true h1
    go_wp2_with fail
    go_ret
    exact ⟨rfl, E01⟩
  have g1 : decide (h.rev < 1) = false := decide_eq_false h1
  by_cases h2 : 1152921504606846976 < h.rev
  · have g2 : decide (1152921504606846976 < h.rev) = true := decide_eq_true h2
    go_wp2_with fail
    go_ret
    exact ⟨rfl, E01⟩
  have g2 : decide (1152921504606846976 < h.rev) = false := decide_eq_false h2
  by_cases h3 : (8 : Int) < more.length
  · have g3 : decide ((8 : Int) < more.length) = true := decide_eq_true h3
    go_wp2_with fail
    go_ret
    exact ⟨rfl, E01⟩
  have g3 : decide ((8 : Int) < more.length) = false := decide_eq_false h3
  go_wp2_with fail
  clear g0 g1 g2 g3 k2
  have hw1 : w.heap.size < w1.heap.size := KH1.lt
  go_loopw [9, 56] (fun o i wr => ∃ j : Nat, i = .int .i64 j ∧ j ≤ ps.length ∧ Hid (OwnP Rp.ck wr (fun k => w1.heap.size ≤ k) w1.heap.size 30 o ((ps.take j).map (onceP h))) ∧ Ext w1 wr) (fun _ i _ => ps.length - (intOf i).toNat)
  case atStart => exact ⟨0, rfl, Nat.zero_le _, Lib.hid (OwnP.nil _ _ _ _ _), Ext.refl _⟩
  case round =>
    obtain ⟨j, rfl, hj, hO, hE⟩ := hrel
    by_cases hlt : j < ps.length
    · obtain ⟨p, hp⟩ : ∃ p, ps[j]? = some p := ⟨_, List.getElem?_eq_getElem hlt⟩
      obtain ⟨ba, o, rfl, _⟩ := HR.out.addr (List.ne_nil_of_length_pos (by omega))
      obtain ⟨hpw, hc⟩ := flat_at HR.out rfl hp (E01.trans hE)
      have c0 := hc 0 _ rfl
      have c1 := hc 1 _ rfl
      have c2 := hc 2 _ rfl
      have c3 := hc 3 _ rfl
      have c4 := hc 4 _ rfl
      have c5 := hc 5 _ rfl
      simp only [Nat.add_zero, ← Nat.add_assoc] at c0 c1 c2 c3 c4 c5
      have HPJ := Lib.hid hp
      have HPW := Lib.hid hpw
      have KHr := KH1.ext hE
      clear hp hc hpw
      have hwr := hE.size
      go_upto_region 9 with fail
      obtain ⟨W2, hW2⟩ : ∃ W, W = wr.alloc (.cells (ckCells p).toArray 30) := ⟨_, rfl⟩
      have E2 : Ext wr W2 := by rw [hW2]; exact (Ext.refl wr).alloc _
      have K2 : Blk W2 wr.heap.size 30 (ckCells p) := by rw [hW2]; exact Blk.new wr _ _
      change Code.wp _ _ _ _ (wr.alloc (.cells (ckCells p).toArray 30))
      rw [← hW2]
      clear hW2 c0 c1 c2 c3 c4 c5
      have d0 := (KHr.ext E2).cell (o := 0) rfl
      have d1 := (KHr.ext E2).cell (o := 1) rfl
      have hne : ¬ (w.heap.size = wr.heap.size) := by omega
      refine wp_region_sched (ops := ops_3_9) (ExtX (fun k => k = wr.heap.size)) [9] (.quiet 0 (.quiet 1 (.quiet 2 (.quiet 3 (.quiet 4 (.loud 5 (.quiet 6 (.loud 7 (.quiet 8 (.last 9 (.done))) (.stop))) (.stop))))))) (by kernel_rfl) (ExtX.refl (fun k => k = wr.heap.size)) (fun _ _ _ => ExtX.trans) (by kernel_rfl) (fun _ _ d _ _ h => by cases d <;> exact h) ?_
      refine wpS_quiet (some 60) { dst := some 60, op := Op.fieldAddr 25 (Operand.tmp 5) 1, type := _, pos := _, after := _, guard := none } _ rfl rfl (by rfl) (fun wE hE => by (go_simp; try with_reducible rfl)) ?_; simp only [Act.put, List.setIfInBounds_toArray, List.set_cons_zero, List.set_cons_succ]
      refine wpS_quiet (some 61) { dst := some 61, op := Op.load 2 (Operand.tmp 60), type := _, pos := _, after := _, guard := none } _ rfl rfl (by rfl) (fun wE hE => by (have zk0 := hE.cellS hne d0; have zk1 := hE.cellS hne d1; go_simp; try with_reducible rfl)) ?_; simp only [Act.put, List.setIfInBounds_toArray, List.set_cons_zero, List.set_cons_succ]
      refine wpS_quiet (some 62) { dst := some 62, op := Op.fieldAddr 25 (Operand.tmp 5) 0, type := _, pos := _, after := _, guard := none } _ rfl rfl (by rfl) (fun wE hE => by (go_simp; try with_reducible rfl)) ?_; simp only [Act.put, List.setIfInBounds_toArray, List.set_cons_zero, List.set_cons_succ]
      refine wpS_quiet (some 63) { dst := some 63, op := Op.load 23 (Operand.tmp 62), type := _, pos := _, after := _, guard := none } _ rfl rfl (by rfl) (fun wE hE => by (have zk0 := hE.cellS hne d0; have zk1 := hE.cellS hne d1; go_simp; try with_reducible rfl)) ?_; simp only [Act.put, List.setIfInBounds_toArray, List.set_cons_zero, List.set_cons_succ]
      refine wpS_quiet (some 64) { dst := some 64, op := Op.fieldAddr 30 (Operand.tmp 11) 1, type := _, pos := _, after := _, guard := none } _ rfl rfl (by rfl) (fun wE hE => by (go_simp; try with_reducible rfl)) ?_; simp only [Act.put, List.setIfInBounds_toArray, List.set_cons_zero, List.set_cons_succ]
      refine wpS_storeL none { dst := none, op := Op.store 4 (Operand.tmp 64) (Operand.const (Value.bool true)), type := _, pos := _, after := _, guard := none } rfl rfl (by rfl) (.tmp 64) (.const (.bool true)) 4 rfl rfl rfl rfl K2.drew rfl (Nat.le_of_ble_eq_true rfl) rfl (fun w' x => x) ?_ trivial
      intro wA KA xA
      simp only [Act.put, List.setIfInBounds_toArray, List.set_cons_zero, List.set_cons_succ]
      refine wpS_quiet (some 65) { dst := some 65, op := Op.fieldAddr 30 (Operand.tmp 11) 3, type := _, pos := _, after := _, guard := none } _ rfl rfl (by rfl) (fun wE hE => by (go_simp; try with_reducible rfl)) ?_; simp only [Act.put, List.setIfInBounds_toArray, List.set_cons_zero, List.set_cons_succ]
      refine wpS_storeL none { dst := none, op := Op.store 2 (Operand.tmp 65) (Operand.tmp 61), type := _, pos := _, after := _, guard := none } rfl rfl (by rfl) (.tmp 65) (.tmp 61) 2 rfl rfl rfl rfl KA rfl (Nat.le_of_ble_eq_true rfl) rfl (fun w' x => x) ?_ trivial
      intro wB KB xB
      simp only [Act.put, List.setIfInBounds_toArray, List.set_cons_zero, List.set_cons_succ]
      refine wpS_quiet (some 66) { dst := some 66, op := Op.fieldAddr 30 (Operand.tmp 11) 2, type := _, pos := _, after := _, guard := none } _ rfl rfl (by rfl) (fun wE hE => by (go_simp; try with_reducible rfl)) ?_; simp only [Act.put, List.setIfInBounds_toArray, List.set_cons_zero, List.set_cons_succ]
      refine wpS_store none { dst := none, op := Op.store 23 (Operand.tmp 66) (Operand.tmp 63), type := _, pos := _, after := _, guard := none } rfl rfl (by rfl) (.tmp 66) (.tmp 63) 23 rfl rfl rfl rfl KB rfl (Nat.le_of_ble_eq_true rfl) rfl ?_
      intro wC KCx xC
      simp only [Act.put, List.setIfInBounds_toArray, List.set_cons_zero, List.set_cons_succ]
      change Exit.then _ _ _ _ _
      obtain ⟨z, hz⟩ : ∃ z, z = onceP h p := ⟨_, rfl⟩
      have KC : Blk wC wr.heap.size 30 (ckCells z) := by rw [hz]; exact KCx
      have X2C : ExtX (fun k => k = wr.heap.size) W2 wC := (xA.trans xB).trans xC
      have HED := Lib.hid (((E2.toX (fun k => k = wr.heap.size)).trans X2C).toExt (fun k hk => by have hk : k = wr.heap.size := hk; omega) : Ext wr wC)
      have HZW : Hid z.wf := Lib.hid (by rw [hz]; exact onceP_wf HW.out HPW.out)
      have hwd := HED.out.size
      have HZ := Lib.hid hz
      clear KCx xA xB xC KA KB X2C d0 d1 hz
      have hO9 := Lib.hid (fun q (hq : u9.ownBlock = some q) => hO.out.own q hq)
      have hll : ((ps.take j).map (onceP h)).length ≤ 1000 := by rw [List.length_map, List.length_take]; omega
      obtain ⟨i0, hi, hz0, hz1, hz2⟩ := info_parts3 infoCkP
      have s0 := KC.cell (o := 0) rfl
      have s1 := KC.cell (o := 1) rfl
      have s2 := KC.cell (o := 2) rfl
      have s3 := KC.cell (o := 3) rfl
      have s4 := KC.cell (o := 4) rfl
      have s5 := KC.cell (o := 5) rfl
      go_wp2_with (at_builtin; refine wpList_app (d := Rp.ck) (base := w1.heap.size) rfl (.tmp 67) (.tmp 69) 26 rfl 30 i0 _ 40 Try.underlying26 hi hz0 hz1 hz2 rfl (v := u9) rfl (hO.out.ext (HED.out.trans ((Ext.refl wC).alloc _))) (fun q hq => by simp at hq; omega) ⟨wC.heap.size, 0, none⟩ 1 (ckCells z) [z] rfl rfl (lit_at _ _ _ _ (by simp)) (one_elem (p := fun i y => (Rp.ck).K _ (fun q => (w1.heap.size ≤ q) ∧ some q ≠ Value.ownBlock u9) y (((ckCells z).drop (i * (Rp.ck).sz)).take (Rp.ck).sz)) ⟨rfl,HZW.out⟩) (by simp [maxLen]; omega) (by simp; omega) (by simp; omega) ?_; intro v2 w2 own2 g2 f2; have O2 := Lib.hid own2; have G2 := Lib.hid g2; have F2 := Lib.hid f2; clear own2 g2 f2; obtain ⟨A2, n2, cap2, rfl⟩ := own_shape O2.out; skip)
      have E3 : Ext w1 w2 := ext_app hE (HED.out.trans ((Ext.refl wC).alloc _)) (fun k hk => (hO9.out k hk).1) G2.out
      go_wp2_with fail
      go_roundw
      case rel => exact ⟨j + 1, by go_num, by omega, Lib.hid (by rw [take_snoc' HPJ.out, List.map_append, List.map_singleton, ← HZ.out]; exact O2.out), E3⟩
      case measure => simp [intOf]; omega
    · have htk : ps.take j = ps := by rw [show j = ps.length by omega, List.take_length]
      obtain ⟨LL, hLL⟩ : ∃ LL, LL = ps.map (onceP h) := ⟨_, rfl⟩
      have hO5' : OwnP Rp.ck wr (fun q => w1.heap.size ≤ q) w1.heap.size 30 u9 LL := by have := hO.out; rw [htk, ← hLL] at this; exact this
      obtain ⟨A9, c9, rfl, _, _⟩ := hO5'.shape
      have HLS := Lib.hid hO5'.slice
      have HLL := Lib.hid hLL
      have hlL : LL.length ≤ 12 := by rw [hLL, List.length_map]; exact hl
      have KHr := KH1.ext hE
      have d0 := KHr.cell (o := 0) rfl
      have d1 := KHr.cell (o := 1) rfl
      have d2 := KHr.cell (o := 2) rfl
      have hwlt : w.heap.size < wr.heap.size := KHr.lt
      clear htk hLL hO5'
      go_upto_region 14 with fail
      obtain ⟨W3, hW3⟩ : ∃ W, W = ((((wr.alloc (.cells #[.int .u32 h.hash, .int .i64 h.comp, .int .i64 h.rev] 25)).alloc (.cells #[.int .i64 h.rev] 2)).alloc (.cells #[.slice A9 LL.length c9] 26)).alloc (.cells #[.slice (some ⟨wr.heap.size, 0, none⟩) 1 1, .slice (some ⟨wr.heap.size + 1, 0, none⟩) 1 1, .slice (some ⟨wr.heap.size + 1 + 1, 0, none⟩) 1 1] 34)).alloc (.cells #[.slice (some ⟨wr.heap.size, 0, none⟩) 1 1, .slice (some ⟨wr.heap.size + 1, 0, none⟩) 1 1, .slice (some ⟨wr.heap.size + 1 + 1, 0, none⟩) 1 1] 34) := ⟨_, rfl⟩
      have E3 : Ext wr W3 := by rw [hW3]; exact (((((Ext.refl wr).alloc _).alloc _).alloc _).alloc _).alloc _
      have KA : Blk W3 wr.heap.size 25 (hsCells h) := by rw [hW3]; exact (Blk.new wr _ _).ext (((((Ext.refl _).alloc _).alloc _).alloc _).alloc _)
      have KB : Blk W3 (wr.heap.size + 1) 2 [.int .i64 h.rev] := by rw [hW3]; exact (blk_at _ _ _ _ (by simp)).ext ((((Ext.refl _).alloc _).alloc _).alloc _)
      have KC : Blk W3 (wr.heap.size + 1 + 1) 26 [.slice A9 LL.length c9] := by rw [hW3]; exact (blk_at _ _ _ _ (by simp)).ext (((Ext.refl _).alloc _).alloc _)
      have KD : Blk W3 (wr.heap.size + 1 + 1 + 1) 34 [.slice (some ⟨wr.heap.size, 0, none⟩) 1 1, .slice (some ⟨wr.heap.size + 1, 0, none⟩) 1 1, .slice (some ⟨wr.heap.size + 1 + 1, 0, none⟩) 1 1] := by rw [hW3]; exact (blk_at _ _ _ _ (by simp)).ext ((Ext.refl _).alloc _)
      have KE : Blk W3 (wr.heap.size + 1 + 1 + 1 + 1) 34 [.slice (some ⟨wr.heap.size, 0, none⟩) 1 1, .slice (some ⟨wr.heap.size + 1, 0, none⟩) 1 1, .slice (some ⟨wr.heap.size + 1 + 1, 0, none⟩) 1 1] := by rw [hW3]; exact blk_at _ _ _ _ (by simp)
      change Code.wp _ _ _ _ (((((wr.alloc (.cells #[.int .u32 h.hash, .int .i64 h.comp, .int .i64 h.rev] 25)).alloc (.cells #[.int .i64 h.rev] 2)).alloc (.cells #[.slice A9 LL.length c9] 26)).alloc (.cells #[.slice (some ⟨wr.heap.size, 0, none⟩) 1 1, .slice (some ⟨wr.heap.size + 1, 0, none⟩) 1 1, .slice (some ⟨wr.heap.size + 1 + 1, 0, none⟩) 1 1] 34)).alloc (.cells #[.slice (some ⟨wr.heap.size, 0, none⟩) 1 1, .slice (some ⟨wr.heap.size + 1, 0, none⟩) 1 1, .slice (some ⟨wr.heap.size + 1 + 1, 0, none⟩) 1 1] 34))
      rw [← hW3]
      clear hW3 d0 d1 d2
      obtain ⟨s, hs⟩ : ∃ s, s = wr.heap.size := ⟨_, rfl⟩
      rw [← hs] at KA KB KC KD KE ⊢
      have hsw : w.heap.size < s := by omega
      have hsW : s + 1 + 1 + 1 + 1 < W3.heap.size := KE.lt
      have HLSs : Hid ((Rp.slice Rp.ck).K wr (fun q => w1.heap.size ≤ q ∧ q < s) LL [.slice A9 LL.length c9]) := Lib.hid ((Rp.slice Rp.ck).mono (fun q hq => ⟨hq.1, by have := hq.2; omega⟩) ((Rp.slice Rp.ck).lt HLS.out))
      replace hs := Lib.hid hs
      have KH3 := KHr.ext E3
      have hwW3 : w.heap.size < W3.heap.size := KH3.lt
      have hsW2 : s + 1 + 1 + 1 + 1 < W3.heap.size + 1 + 1 := by omega
      have d0 := KH3.cell (o := 0) rfl
      have d1 := KH3.cell (o := 1) rfl
      have d2 := KH3.cell (o := 2) rfl
      obtain ⟨i0, hi, hz0, hz1, hz2⟩ := info_parts3 infoHsC
      have HRUN := Lib.hid (run_app_full (P := Try.prog) (d := Rp.hs) (w := (W3.alloc (.cells #[] 25)).alloc (.cells (hsCells h).toArray 25)) (ok := any) (ok2 := any) 31 31 25 i0 _ 24 Try.underlying31 hi hz0 hz1 hz2 rfl (xs := []) (ys := [h]) (A := some ⟨W3.heap.size, 0, none⟩) (B := some ⟨W3.heap.size + 1, 0, none⟩) (c := 1)
        (nil_slice _ _ _ _) (slice_of_blk (d := Rp.hs) (xs := [h]) (cap := 1) (blk_at _ 25 (hsCells h) _ (by simp)) trivial (show 1 * 3 ≤ 3 by decide) (one_elem (p := fun i y => Rp.hs.K _ any y (((hsCells h).drop (i * 3)).take 3)) ⟨rfl, trivial⟩) (Nat.le_refl _) (by decide)) (by simp) (by simp [maxLen]) (by simp))
      go_wp2_with (at_builtin; refine wpList_run rfl (.tmp 81) (.tmp 83) 31 rfl rfl rfl HRUN.out ?_; rintro v2 w2 ⟨own2, e2⟩; have E32 : Ext W3 w2 := (((Ext.refl W3).alloc _).alloc _).trans e2; have KE2 := KE.ext E32; have f0 := KE2.frozen 0; have c0 := KE2.cell (o := 0) rfl; have O2 := Lib.hid own2; have HE32 := Lib.hid E32; have HKE2 := Lib.hid KE2; clear own2 e2 E32 KE2; obtain ⟨A2, n2, cap2, rfl⟩ := own_shape O2.out)
      obtain ⟨bN, hbN⟩ : ∃ b, b = s + 1 + 1 + 1 + 1 := ⟨_, rfl⟩
      obtain ⟨W4, hW4⟩ : ∃ W, W = w2.setCell ⟨s + 1 + 1 + 1 + 1, 0, none⟩ (.slice A2 n2 cap2) := ⟨_, rfl⟩
      have XS : ExtX (fun q => q = bN) w2 W4 := by rw [hW4, hbN]; exact ExtX.setCell (M := fun q => q = s + 1 + 1 + 1 + 1) (ExtX.refl _ w2) (p := ⟨s + 1 + 1 + 1 + 1, 0, none⟩) rfl _
      have KN : Blk W4 bN 34 [.slice A2 n2 cap2, .slice (some ⟨s + 1, 0, none⟩) 1 1, .slice (some ⟨s + 1 + 1, 0, none⟩) 1 1] := by rw [hW4, hbN]; exact HKE2.out.setCell 0 _
      change Code.wp _ _ _ _ (w2.setCell ⟨s + 1 + 1 + 1 + 1, 0, none⟩ (.slice A2 n2 cap2))
      rw [← hW4, ← hbN]
      clear hW4
      have hbN2 : bN < W3.heap.size := by omega
      have hsbN : s < bN := by omega
      have HBN := Lib.hid hbN
      obtain ⟨B0, hB0⟩ : ∃ B, B = W3.heap.size := ⟨_, rfl⟩
      have OH : OwnP Rp.hs W4 (fun k => k ≠ bN) B0 25 (.slice A2 n2 cap2) [h] := by
        have hb : ∀ k, (Value.slice A2 n2 cap2).ownBlock = some k → bN < k := fun k hk => by
          have h9 := (O2.out.own k hk).1
          simp only [World.size_alloc] at h9
          omega
        have := O2.out.flat' XS (fun k hk hm => by have := hb k hk; have hm : k = bN := hm; omega) (ok' := fun k => k ≠ bN) (fun k hk => by have := hb k hk; omega)
        exact this.turn' (fun k hk _ => hk) (by simp only [World.size_alloc]; omega)
      have EW4 : Ext w W4 := ((((E01.trans hE).trans (E3.trans HE32.out)).toX (fun q => q = bN)).trans XS).toExt (fun q hq => by have hq : q = bN := hq; omega)
      have Ewr4 : Ext wr W4 := (((E3.trans HE32.out).toX (fun q => q = bN)).trans XS).toExt (fun q hq => by have hq : q = bN := hq; have := hs.out; omega)
      have X34 : ExtX (fun q => q = bN) W3 W4 := (HE32.out.toX _).trans XS
      have HKA := Lib.hid KA
      have HKB := Lib.hid KB
      have HKC := Lib.hid KC
      have HKD := Lib.hid KD
      have HB0 := Lib.hid hB0
      have hs34 := X34.size
      have hbN3 : bN < B0 := by omega
      have hB04 : B0 ≤ W4.heap.size := by omega
      have hwB0 : w.heap.size ≤ s := by omega
      have HHW := Lib.hid (KH3.extX X34 (by omega))
      clear KA KB KC KD KE d0 d1 d2 hbN hB0 XS KH3 KHr hsW hsW2 hbN2 hs34
      have HKN := Lib.hid KN
      have HOH := Lib.hid OH
      clear KN OH
      go_loopw [14, 88] (fun vw i wx => ∃ (i1 : Nat) (vH : Value) (ms : List HsD) (WL : List Int), i = .int .i64 i1 ∧ i1 ≤ more.length ∧ Hid (Blk wx bN 34 [vH, .slice (some ⟨s + 1, 0, none⟩) 1 1, .slice (some ⟨s + 1 + 1, 0, none⟩) 1 1]) ∧ Hid (OwnP Rp.hs wx (fun k => k ≠ bN) B0 25 vH (h :: ms)) ∧
        Hid ((Rp.slice Rp.i64).K wx (fun k => B0 ≤ k ∧ some k ≠ vH.ownBlock) WL [vw]) ∧ Hid (ms.map (·.rev) = more.take i1) ∧ Hid (∀ n ∈ more.take i1, n ≠ h.rev) ∧ Hid (WL.Perm ((more.take i1).filter (fun n => decide (h.rev < n)))) ∧ Hid (WL.Pairwise (fun a b => b ≤ a)) ∧ ExtX (fun q => q = bN ∨ B0 ≤ q) W4 wx) (fun _ i _ => more.length - (intOf i).toNat)
      case atStart => exact ⟨0, _, [], [], rfl, Nat.zero_le _, HKN, HOH, Lib.hid ⟨none, 0, rfl, Nat.le_refl _, by decide, fun _ => rfl, fun i x hx => by simp at hx⟩, Lib.hid (by simp), Lib.hid (by simp), Lib.hid (by simp), Lib.hid List.Pairwise.nil, ExtX.refl _ _⟩
      case round =>
        obtain ⟨wx, rfl⟩ : ∃ wo : World, wo = wr := ⟨_, rfl⟩
        obtain ⟨i1, vH, ms, WL, rfl, hi1, hKN, hOH, hWL, hms, hne, hperm, hfall, hX⟩ := hrel
        have hsx := hX.size
        have EWx : Ext w wx := ((EW4.toX (fun q => q = bN ∨ B0 ≤ q)).trans hX).toExt (fun q hq => by rcases hq with hq | hq <;> omega)
        have KHx := HHW.out.extX hX (fun hq => by rcases hq with hq | hq <;> omega)
        have d2 := KHx.cell (o := 2) rfl
        obtain ⟨AH, nH, cH, rfl⟩ := own_shape hOH.out
        have k0 := hKN.out.cell (o := 0) rfl
        obtain ⟨AW, cW, hvw, w1', w2', _⟩ := id hWL.out
        simp only [List.cons.injEq, and_true] at hvw
        subst hvw
        by_cases hl1 : i1 < more.length
        · obtain ⟨n, hn⟩ : ∃ p, more[i1]? = some p := ⟨_, List.getElem?_eq_getElem hl1⟩
          obtain ⟨bm, om, rfl, _⟩ := HRM.out.addr (List.ne_nil_of_length_pos (by omega))
          obtain ⟨_, hc⟩ := flat_at HRM.out rfl hn EWx
          have c0 := hc 0 _ rfl
          simp only [Nat.add_zero, Nat.mul_one] at c0
          have HN := Lib.hid hn
          clear hc hn
          by_cases q1 : n < 1
          · have q1' : decide (n < 1) = true := decide_eq_true q1
            go_wp2_with fail
            go_ret
            exact ⟨rfl, EWx⟩
          have q1' : decide (n < 1) = false := decide_eq_false q1
          by_cases q2 : 2305843009213693952 < n
          · have q2' : decide (2305843009213693952 < n) = true := decide_eq_true q2
            go_wp2_with fail
            go_ret
            exact ⟨rfl, EWx⟩
          have q2' : decide (2305843009213693952 < n) = false := decide_eq_false q2
          by_cases q3 : n = h.rev
          · have q3' : (n == h.rev) = true := by simp [q3]
            replace q3 := Lib.hid q3
            go_wp2_with fail
            go_ret
            exact ⟨rfl, EWx⟩
          have q3' : (n == h.rev) = false := by simp [q3]
          have r1 := fun w => run_sliceAt_to (P := Try.prog) Try.underlying27 infoI64s (some ⟨bm, om, none⟩) more.length capm i1 (by omega) w
          go_wp2_with fail
          clear r1 q1' q2' q3' c0
          go_loop [109] (fun i => ∃ j : Nat, i = .int .i64 j ∧ j ≤ i1) (fun i => i1 - (intOf i).toNat)
          case atStart => exact ⟨0, rfl, Nat.zero_le _⟩
          case round =>
            obtain ⟨j, rfl, hj⟩ := hrel
            by_cases hl5 : j < i1
            · obtain ⟨m, hm⟩ : ∃ p, more[j]? = some p := ⟨_, List.getElem?_eq_getElem (by omega)⟩
              obtain ⟨_, hc⟩ := flat_at HRM.out rfl hm EWx
              have c0 := hc 0 _ rfl
              simp only [Nat.add_zero, Nat.mul_one] at c0
              clear hc hm
              by_cases q4 : n = m
              · have q4' : (n == m) = true := by simp [q4]
                replace q4 := Lib.hid q4
                go_wp2_with fail
                go_ret
                exact ⟨rfl, EWx⟩
              have q4' : (n == m) = false := by simp [q4]
              go_wp2_with fail
              go_round
              case rel => exact ⟨j + 1, by go_num, by omega⟩
              case measure => simp [intOf]; omega
            · obtain ⟨i0, hi, hz0, hz1, hz2⟩ := info_parts3 infoHsC
              have hOvH := Lib.hid (fun q (hq : (Value.slice AH nH cH).ownBlock = some q) => hOH.out.own q hq)
              have hml : (h :: ms).length ≤ 1000 := by
                have := congrArg List.length hms.out
                rw [List.length_map, List.length_take] at this
                rw [List.length_cons]; omega
              have hml2 : ms.length ≤ 900 := by
                have := congrArg List.length hms.out
                rw [List.length_map, List.length_take] at this; omega
              have hbx : bN < wx.heap.size := by omega
              go_upto_region 28 with (at_builtin; refine wpList_app (d := Rp.hs) (base := B0) rfl (.tmp 118) (.tmp 123) 31 rfl 25 i0 _ 24 Try.underlying31 hi hz0 hz1 hz2 rfl (v := (.slice AH nH cH)) rfl (hOH.out.ext ((Ext.refl wx).alloc _)) (fun q hq => by simp at hq; omega) ⟨wx.heap.size, 0, none⟩ 1 [.int .u32 i1, .int .i64 1, .int .i64 n] [(⟨i1, 1, n⟩ : HsD)] rfl rfl (lit_at _ _ _ _ (by simp)) (one_elem (p := fun i y => (Rp.hs).K _ (fun q => (q ≠ bN) ∧ some q ≠ Value.ownBlock (.slice AH nH cH)) y (([.int .u32 i1, .int .i64 1, .int .i64 n].drop (i * (Rp.hs).sz)).take (Rp.hs).sz)) ⟨rfl,trivial⟩) (by simp [maxLen]; omega) (by simp; omega) (by simp; omega) ?_; intro v2 w2 own2 g2 f2; have O2 := Lib.hid own2; have G2 := Lib.hid g2; have F2 := Lib.hid f2; clear own2 g2 f2; obtain ⟨A2, n2, cap2, rfl⟩ := own_shape O2.out; (have X2 : ExtX (fun q => some q = (Value.slice AH nH cH).ownBlock) wx w2 := (((Ext.refl wx).alloc _).toX _).grown G2.out (fun q h => h.symm); have K2 := hKN.out.extX X2 (fun h => by (have := (hOvH.out _ h.symm).1; omega)); have f0 := K2.frozen 0; have c0 := K2.cell (o := 0) rfl; have HK2 := Lib.hid K2; have HX2 := Lib.hid X2; clear K2 X2))
              obtain ⟨W5, hW5⟩ : ∃ W, W = w2.setCell ⟨bN, 0, none⟩ (.slice A2 n2 cap2) := ⟨_, rfl⟩
              have XS5 : ExtX (fun q => q = bN) w2 W5 := by rw [hW5]; exact ExtX.setCell (M := fun q => q = bN) (ExtX.refl _ w2) (p := ⟨bN, 0, none⟩) rfl _
              have K5 : Hid (Blk W5 bN 34 [.slice A2 n2 cap2, .slice (some ⟨s + 1, 0, none⟩) 1 1, .slice (some ⟨s + 1 + 1, 0, none⟩) 1 1]) := Lib.hid (by rw [hW5]; exact HK2.out.setCell 0 _)
              change Code.wp _ _ _ _ (w2.setCell ⟨bN, 0, none⟩ (.slice A2 n2 cap2))
              rw [← hW5]
              clear hW5
              have X5 : ExtX (fun q => q = bN ∨ B0 ≤ q) W4 W5 := (hX.trans (HX2.out.mono fun q _ hm => .inr (hOvH.out q hm.symm).1)).trans (XS5.mono fun q _ hm => .inl hm)
              have EW5 : Ext w W5 := ((EW4.toX (fun q => q = bN ∨ B0 ≤ q)).trans X5).toExt (fun q hq => by rcases hq with hq | hq <;> omega)
              have KH5 := HHW.out.extX X5 (fun hq => by rcases hq with hq | hq <;> omega)
              have d2 := KH5.cell (o := 2) rfl
              have hO5 : Hid (OwnP Rp.hs W5 (fun k => k ≠ bN) B0 25 (.slice A2 n2 cap2) (h :: (ms ++ [(⟨i1, 1, n⟩ : HsD)]))) := Lib.hid (by
                have := O2.out.flat' XS5 (fun k hk hm => (O2.out.1 k hk) hm) (ok' := fun k => k ≠ bN) O2.out.1
                rw [List.cons_append] at this; exact this)
              have hWL5 : Hid ((Rp.slice Rp.i64).K W5 (fun k => B0 ≤ k ∧ some k ≠ (Value.slice A2 n2 cap2).ownBlock) WL [.slice AW WL.length cW]) := Lib.hid (by
                have h1 := (Rp.slice Rp.i64).lt hWL.out
                have h2 := (Rp.slice Rp.i64).mono (ok' := fun k => (B0 ≤ k ∧ some k ≠ (Value.slice AH nH cH).ownBlock) ∧ some k ≠ (Value.slice A2 n2 cap2).ownBlock) (fun k hk => ⟨hk.1, fun he => by
                  rcases F2.out with hf | hf
                  · exact hk.1.2 (he.trans hf)
                  · have h9 := hf k he.symm; simp only [World.size_alloc] at h9; have := hk.2; omega⟩) h1
                have h3 := (Rp.slice Rp.i64).extX HX2.out h2 (fun k hk hm => hk.1.2 hm)
                exact (Rp.slice Rp.i64).mono (fun k hk => ⟨hk.1.1, hk.2⟩) ((Rp.slice Rp.i64).extX XS5 h3 (fun k hk hm => by have hm : k = bN := hm; have := hk.1.1; omega)))
              have hms5 : Hid ((ms ++ [(⟨i1, 1, n⟩ : HsD)]).map (·.rev) = more.take (i1 + 1)) := Lib.hid (by rw [List.map_append, hms.out, take_snoc' HN.out]; rfl)
              have hne5 : Hid (∀ x ∈ more.take (i1 + 1), x ≠ h.rev) := Lib.hid (all_snoc HN.out hne.out q3)
              clear XS5 d2 k0
              have d2 := KH5.cell (o := 2) rfl
              by_cases q5 : h.rev < n
              · have q5' : decide (h.rev < n) = true := decide_eq_true q5
                have hWll : WL.length ≤ 900 := by
                  have h1 := hperm.out.length_eq
                  have h2 := List.length_filter_le (fun n => decide (h.rev < n)) (more.take i1)
                  rw [List.length_take] at h2; omega
                go_wp2_with fail
                go_loop [19] (fun i => ∃ k : Nat, i = .int .i64 k ∧ k ≤ WL.length ∧ Hid (∀ x ∈ WL.drop k, x ≤ n)) (fun i => (intOf i).toNat)
                case atStart => exact ⟨WL.length, rfl, Nat.le_refl _, Lib.hid (by rw [List.drop_length]; simp)⟩
                case round =>
                  obtain ⟨k, rfl, hk, hdn⟩ := hrel
                  by_cases hk0 : k = 0
                  · have hup : Hid (∀ x ∈ WL.take k, n ≤ x) := Lib.hid (by rw [hk0]; simp)
                    have hk0' : decide ((0 : Int) < (k : Int)) = false := decide_eq_false (by omega)
                    have hk0'' : decide (0 < k) = false := decide_eq_false (by omega)
                    have HK0 := Lib.hid hk0
                    clear hk0
                    go_upto_region 32 with fail
                    -- region 32: n goes in at k
                    obtain ⟨s5, hs5⟩ : ∃ b, b = W5.heap.size := ⟨_, rfl⟩
                    have hs5l : s5 ≤ W5.drew.heap.size := Nat.le_of_eq hs5
                    have HS5 := Lib.hid hs5
                    clear hs5
                    have r1 := fun w => run_sliceAt_full (P := Try.prog) Try.underlying27 infoI64s AW WL.length cW k (by omega) w
                    have r0 := fun w => run_sliceAt_from (P := Try.prog) Try.underlying27 infoI64s AW WL.length cW k (by omega) w
                    obtain ⟨A3, hA3⟩ : ∃ A3, (if cW = k then AW else AW.map (·.add (k * 1))) = A3 := ⟨_, rfl⟩
                    rw [hA3] at r0
                    have hdr := slice_drop hWL5.out k hk
                    rw [show (if cW = k then AW else AW.map (·.add (k * Rp.i64.sz))) = A3 from hA3] at hdr
                    have hdl : (WL.drop k).length = WL.length - k := List.length_drop
                    rw [← hdl] at hdr
                    have r2 : ∀ w, (Instr.sliceAt 27 (.slice AW WL.length cW) (some (.int .i64 k)) none none).run Try.prog w = .ok (.slice A3 (WL.drop k).length (cW - k)) w := fun w => by rw [hdl]; exact r0 w
                    have htl : (WL.take k).length = k := by rw [List.length_take]; omega
                    have htk := slice_take hWL5.out k hk
                    have HDR := Lib.hid hdr
                    have HTK := Lib.hid htk
                    have HTL := Lib.hid htl
                    obtain ⟨DR, hDR⟩ : ∃ DR, DR = WL.drop k := ⟨_, rfl⟩
                    rw [← hDR] at r2 HDR
                    have hDRl : DR.length ≤ 1000 := by rw [hDR, List.length_drop]; omega
                    clear hdr htk htl hdl hA3 r0
                    replace hDR := Lib.hid hDR
                    refine wp_region_sched (ops := ops_3_32) (ExtB s5) [] (.quiet 0 (.quiet 1 (.quiet 2 (.quiet 3 (.quiet 4 (.quiet 6 (.quiet 7 (.quiet 8 (.loud 5 (.loud 9 (.loud 10 (.quiet 11 (.done)) (.stop)) (.stop)) (.stop)))))))))) (by kernel_rfl) (extB_refl s5) (extB_trans s5) (by kernel_rfl) (fun _ _ d _ _ h => by cases d <;> exact h) ?_
                    refine wpS_quiet (some 145) { dst := some 145, op := Op.move (Operand.tmp 14), type := _, pos := _, after := _, guard := none } _ rfl rfl (by rfl) (fun wE hE => by (go_simp; try with_reducible rfl)) ?_; simp only [Act.put, List.setIfInBounds_toArray, List.set_cons_zero, List.set_cons_succ]
                    refine wpS_quiet (some 146) { dst := some 146, op := Op.move (Operand.tmp 19), type := _, pos := _, after := _, guard := none } _ rfl rfl (by rfl) (fun wE hE => by (go_simp; try with_reducible rfl)) ?_; simp only [Act.put, List.setIfInBounds_toArray, List.set_cons_zero, List.set_cons_succ]
                    refine wpS_quiet (some 147) { dst := some 147, op := Op.move (Operand.tmp 19), type := _, pos := _, after := _, guard := none } _ rfl rfl (by rfl) (fun wE hE => by (go_simp; try with_reducible rfl)) ?_; simp only [Act.put, List.setIfInBounds_toArray, List.set_cons_zero, List.set_cons_succ]
                    refine wpS_quiet (some 148) { dst := some 148, op := Op.slice 27 (Operand.tmp 145) none (some (Operand.tmp 146)) (some (Operand.tmp 147)), type := _, pos := _, after := _, guard := none } _ rfl rfl (by rfl) (fun wE hE => by (go_simp; try with_reducible rfl)) ?_; simp only [Act.put, List.setIfInBounds_toArray, List.set_cons_zero, List.set_cons_succ]
                    refine wpS_quiet (some 149) { dst := some 149, op := Op.move (Operand.tmp 16), type := _, pos := _, after := _, guard := none } _ rfl rfl (by rfl) (fun wE hE => by (go_simp; try with_reducible rfl)) ?_; simp only [Act.put, List.setIfInBounds_toArray, List.set_cons_zero, List.set_cons_succ]
                    refine wpS_quiet (some 151) { dst := some 151, op := Op.move (Operand.tmp 14), type := _, pos := _, after := _, guard := none } _ rfl rfl (by rfl) (fun wE hE => by (go_simp; try with_reducible rfl)) ?_; simp only [Act.put, List.setIfInBounds_toArray, List.set_cons_zero, List.set_cons_succ]
                    refine wpS_quiet (some 152) { dst := some 152, op := Op.move (Operand.tmp 19), type := _, pos := _, after := _, guard := none } _ rfl rfl (by rfl) (fun wE hE => by (go_simp; try with_reducible rfl)) ?_; simp only [Act.put, List.setIfInBounds_toArray, List.set_cons_zero, List.set_cons_succ]
                    refine wpS_quiet (some 153) { dst := some 153, op := Op.slice 27 (Operand.tmp 151) (some (Operand.tmp 152)) none none, type := _, pos := _, after := _, guard := none } _ rfl rfl (by rfl) (fun wE hE => by (go_simp; try with_reducible rfl)) ?_; simp only [Act.put, List.setIfInBounds_toArray, List.set_cons_zero, List.set_cons_succ]
                    refine wpS_make (some 150) { dst := some 150, op := Op.buildSlice 27 1 #[(0, Operand.tmp 149)], type := _, pos := _, after := _, guard := none } rfl rfl (by rfl) 2 [.int .i64 n] 1 (by go_simp; try rfl) (fun w' h => h.toB hs5l) ?_ trivial
                    intro b5 w5 hb5 e5 KB5
                    simp only [Act.put, List.setIfInBounds_toArray, List.set_cons_zero, List.set_cons_succ]
                    obtain ⟨i0, hi, hz0, hz1, hz2⟩ := info_parts3 infoI64z
                    have hsz5 : s5 ≤ b5 := by omega
                    have hb5l : b5 < w5.heap.size := KB5.lt
                    obtain ⟨v9, w9, hr9, O9, G9⟩ := run_app_own (P := Try.prog) (d := Rp.i64) (w := w5) 27 27 2 i0 _ 8 Try.underlying27 hi hz0 hz1 hz2 rfl (own_lit64 KB5 hsz5) ((Rp.slice Rp.i64).ext' e5 ((Rp.slice Rp.i64).lt HDR.out)) (fun q hq he => by have h9 := hq.2; simp only [Value.ownBlock, Option.some.injEq] at he; have h8 := HS5.out; have h7 : W5.drew.heap.size = W5.heap.size := rfl; have h6 : W5.heap.size = s5 := h8.symm; omega) (by simp only [maxLen, List.length_singleton]; omega) (by simp only [List.length_singleton]; omega) (by omega)
                    have X9 : ExtX (fun q => some q = Value.ownBlock (.slice (some ⟨b5, 0, none⟩) 1 1)) w5 w9 := ((Ext.refl w5).toX _).grown G9 (fun q h => h.symm)
                    have E59 : Ext W5 w9 := (((e5.undrew).toX (fun q => q = b5)).trans (X9.mono fun q _ hq => by simpa [Value.ownBlock] using hq)).toExt (fun q hq => by have hq : q = b5 := hq; have := HS5.out; omega)
                    obtain ⟨B9, cap9, hv9, _, _⟩ := O9.shape
                    subst hv9
                    have hR9 : ExtB s5 w5 w9 := X9.toB (fun q hq => by simp only [Value.ownBlock, Option.some.injEq] at hq; omega) (by omega)
                    refine wpS_upd (some 154) { dst := some 154, op := Op.call { callee := Callee.builtin Builtin.append, args := #[Operand.tmp 150, Operand.tmp 153], argTypes := #[27, 27] }, type := _, pos := _, after := _, guard := none } rfl rfl (by rfl) ?_ trivial
                    refine ⟨_, w9, exec_app (.tmp 150) (.tmp 153) 27 rfl rfl rfl hr9, hR9, ?_⟩
                    simp only [Act.put, List.setIfInBounds_toArray, List.set_cons_zero, List.set_cons_succ]
                    obtain ⟨v10, w10, hr10, O10, E10⟩ := run_app_full (P := Try.prog) (d := Rp.i64) (w := w9) 27 27 2 i0 _ 8 Try.underlying27 hi hz0 hz1 hz2 rfl ((Rp.slice Rp.i64).ext' E59 HTK.out) O9.slice (by simp) (by simp only [maxLen, List.length_append, List.length_singleton]; have := HTL.out; omega) (by simp only [List.length_append, List.length_singleton]; have := HTL.out; omega)
                    have hr10 : (Builtin.append_ #[27, 27] 27 #[.slice AW k k, .slice B9 ([n] ++ DR).length cap9]).run Try.prog w9 = .ok v10 w10 := by have := hr10; rw [HTL.out] at this; exact this
                    obtain ⟨B10, cap10, hv10, _, _⟩ := O10.shape
                    subst hv10
                    refine wpS_upd (some 155) { dst := some 155, op := Op.call { callee := Callee.builtin Builtin.append, args := #[Operand.tmp 148, Operand.tmp 154], argTypes := #[27, 27] }, type := _, pos := _, after := _, guard := none } rfl rfl (by rfl) ?_ trivial
                    refine ⟨_, w10, exec_app (.tmp 148) (.tmp 154) 27 rfl rfl rfl hr10, E10.toB (by have := E59.size; have := HS5.out; omega), ?_⟩
                    simp only [Act.put, List.setIfInBounds_toArray, List.set_cons_zero, List.set_cons_succ]
                    refine wpS_quiet (some 14) { dst := some 14, op := Op.assign (Operand.tmp 155), type := _, pos := _, after := _, guard := none } _ rfl rfl (by rfl) (fun wE hE => by (go_simp; try with_reducible rfl)) ?_; simp only [Act.put, List.setIfInBounds_toArray, List.set_cons_zero, List.set_cons_succ]
                    change Exit.inBlock _ _ _ _ _
                    have EI : Ext W5 w10 := E59.trans E10
                    obtain ⟨NL, hNL⟩ : ∃ NL, NL = WL.take k ++ ([n] ++ DR) := ⟨_, rfl⟩
                    rw [← hNL] at O10 ⊢
                    have hW10 : Hid ((Rp.slice Rp.i64).K w10 (fun q => B0 ≤ q ∧ some q ≠ (Value.slice A2 n2 cap2).ownBlock) NL [.slice B10 NL.length cap10]) := Lib.hid (by
                      have h5 := E59.size
                      have h6 : B0 ≤ W5.heap.size := by have := X5.size; omega
                      have h4 := O10.flat' (ExtX.refl (fun _ => False) w10) (fun _ _ h => h) (ok' := fun q => w9.heap.size ≤ q) (fun q hq => (O10.own q hq).1)
                      exact (Rp.slice Rp.i64).mono (fun q hq => ⟨by have hq : w9.heap.size ≤ q := hq; omega, fun he => by have hq : w9.heap.size ≤ q := hq; have := (hO5.out.own q he.symm).2; omega⟩) h4.slice)
                    have hperm5 : Hid (NL.Perm ((more.take (i1 + 1)).filter (fun n => decide (h.rev < n)))) := Lib.hid (by
                      rw [hNL, hDR.out, take_snoc' HN.out, List.filter_append, List.filter_cons, if_pos (by simpa using q5)]
                      refine (put_perm WL n k).trans ?_
                      exact ((List.perm_append_singleton n WL).symm).trans (hperm.out.append (List.Perm.refl _)))
                    have hfall5 : Hid (NL.Pairwise (fun a b => b ≤ a)) := Lib.hid (by rw [hNL, hDR.out]; exact falls_put hfall.out hup.out hdn.out)
                    have hNLl : NL.length = k + (DR.length + 1) := by rw [hNL, List.length_append, HTL.out, List.length_append, List.length_singleton]; omega
                    have hW11 : Hid ((Rp.slice Rp.i64).K w10 (fun q => B0 ≤ q ∧ some q ≠ (Value.slice A2 n2 cap2).ownBlock) NL [.slice B10 (k + (DR.length + 1)) cap10]) := Lib.hid (by have := hW10.out; rw [hNLl] at this; exact this)
                    clear hNLl
                    have HNL := Lib.hid hNL
                    have X10 : ExtX (fun q => q = bN ∨ B0 ≤ q) W4 w10 := X5.trans (EI.toX _)
                    clear O9 O10 G9 hr9 hr10 X9 hR9 r1 r2 hNL
                    go_wp2_with fail
                    go_roundw
                    case rel => exact ⟨i1 + 1, _, _, NL, by go_num, by omega, Lib.hid (K5.out.ext EI), Lib.hid (hO5.out.ext EI), hW11, hms5, hne5, hperm5, hfall5, X10⟩
                    case measure => simp [intOf]; omega
                  · obtain ⟨k', rfl⟩ : ∃ k', k = k' + 1 := ⟨k - 1, by omega⟩
                    obtain ⟨x, hx⟩ : ∃ p, WL[k']? = some p := ⟨_, List.getElem?_eq_getElem (by omega)⟩
                    obtain ⟨_, _, _, roww⟩ := sl_cap hWL5.out
                    obtain ⟨bw, ow, rfl, _⟩ := roww.addr (List.ne_nil_of_length_pos (by omega))
                    obtain ⟨_, hc⟩ := flat_at roww rfl hx (Ext.refl W5)
                    have c0 := hc 0 _ rfl
                    simp only [Nat.add_zero, Nat.mul_one] at c0
                    have HX := Lib.hid hx
                    clear hc hx roww hk0
                    by_cases q6 : x < n
                    · have q6' : decide (x < n) = true := decide_eq_true q6
                      have hdn2 : Hid (∀ x ∈ WL.drop k', x ≤ n) := Lib.hid (fun y hy => by
                        obtain ⟨hl, he⟩ := List.getElem?_eq_some_iff.1 HX.out
                        rw [List.drop_eq_getElem_cons hl, he] at hy
                        rcases List.mem_cons.1 hy with rfl | hy
                        · omega
                        · exact hdn.out y hy)
                      go_wp2_with fail
                      go_round
                      case rel => exact ⟨k', rfl, by omega, hdn2⟩
                      case measure => simp [intOf]
                    · have q6' : decide (x < n) = false := decide_eq_false q6
                      have hup : Hid (∀ y ∈ WL.take (k' + 1), n ≤ y) := Lib.hid (fun y hy => by
                        rw [take_snoc' HX.out] at hy
                        rcases List.mem_append.1 hy with hy | hy
                        · have hsp : WL = WL.take k' ++ WL.drop k' := (List.take_append_drop k' WL).symm
                          have hf := hfall.out
                          rw [hsp] at hf
                          have := (List.pairwise_append.1 hf).2.2 y hy x (by
                            obtain ⟨hl, he⟩ := List.getElem?_eq_some_iff.1 HX.out
                            rw [List.drop_eq_getElem_cons hl, he]; simp)
                          omega
                        · rw [List.mem_singleton.1 hy]; omega)
                      go_upto_region 32 with fail
                      obtain ⟨k, hkk⟩ : ∃ k, k = k' + 1 := ⟨_, rfl⟩
                      rw [← hkk] at hk hdn hup ⊢
                      replace hkk := Lib.hid hkk
                      clear c0
                      -- region 32: n goes in at k
                      obtain ⟨s5, hs5⟩ : ∃ b, b = W5.heap.size := ⟨_, rfl⟩
                      have hs5l : s5 ≤ W5.drew.heap.size := Nat.le_of_eq hs5
                      have HS5 := Lib.hid hs5
                      clear hs5
                      have r1 := fun w => run_sliceAt_full (P := Try.prog) Try.underlying27 infoI64s (some ⟨bw, ow, none⟩ : Option Addr) WL.length cW k (by omega) w
                      have r0 := fun w => run_sliceAt_from (P := Try.prog) Try.underlying27 infoI64s (some ⟨bw, ow, none⟩ : Option Addr) WL.length cW k (by omega) w
                      obtain ⟨A3, hA3⟩ : ∃ A3, (if cW = k then (some ⟨bw, ow, none⟩ : Option Addr) else (some ⟨bw, ow, none⟩ : Option Addr).map (·.add (k * 1))) = A3 := ⟨_, rfl⟩
                      rw [hA3] at r0
                      have hdr := slice_drop hWL5.out k hk
                      rw [show (if cW = k then (some ⟨bw, ow, none⟩ : Option Addr) else (some ⟨bw, ow, none⟩ : Option Addr).map (·.add (k * Rp.i64.sz))) = A3 from hA3] at hdr
                      have hdl : (WL.drop k).length = WL.length - k := List.length_drop
                      rw [← hdl] at hdr
                      have r2 : ∀ w, (Instr.sliceAt 27 (.slice (some ⟨bw, ow, none⟩ : Option Addr) WL.length cW) (some (.int .i64 k)) none none).run Try.prog w = .ok (.slice A3 (WL.drop k).length (cW - k)) w := fun w => by rw [hdl]; exact r0 w
                      have htl : (WL.take k).length = k := by rw [List.length_take]; omega
                      have htk := slice_take hWL5.out k hk
                      have HDR := Lib.hid hdr
                      have HTK := Lib.hid htk
                      have HTL := Lib.hid htl
                      obtain ⟨DR, hDR⟩ : ∃ DR, DR = WL.drop k := ⟨_, rfl⟩
                      rw [← hDR] at r2 HDR
                      have hDRl : DR.length ≤ 1000 := by rw [hDR, List.length_drop]; omega
                      clear hdr htk htl hdl hA3 r0
                      replace hDR := Lib.hid hDR
                      refine wp_region_sched (ops := ops_3_32) (ExtB s5) [] (.quiet 0 (.quiet 1 (.quiet 2 (.quiet 3 (.quiet 4 (.quiet 6 (.quiet 7 (.quiet 8 (.loud 5 (.loud 9 (.loud 10 (.quiet 11 (.done)) (.stop)) (.stop)) (.stop)))))))))) (by kernel_rfl) (extB_refl s5) (extB_trans s5) (by kernel_rfl) (fun _ _ d _ _ h => by cases d <;> exact h) ?_
                      refine wpS_quiet (some 145) { dst := some 145, op := Op.move (Operand.tmp 14), type := _, pos := _, after := _, guard := none } _ rfl rfl (by rfl) (fun wE hE => by (go_simp; try with_reducible rfl)) ?_; simp only [Act.put, List.setIfInBounds_toArray, List.set_cons_zero, List.set_cons_succ]
                      refine wpS_quiet (some 146) { dst := some 146, op := Op.move (Operand.tmp 19), type := _, pos := _, after := _, guard := none } _ rfl rfl (by rfl) (fun wE hE => by (go_simp; try with_reducible rfl)) ?_; simp only [Act.put, List.setIfInBounds_toArray, List.set_cons_zero, List.set_cons_succ]
                      refine wpS_quiet (some 147) { dst := some 147, op := Op.move (Operand.tmp 19), type := _, pos := _, after := _, guard := none } _ rfl rfl (by rfl) (fun wE hE => by (go_simp; try with_reducible rfl)) ?_; simp only [Act.put, List.setIfInBounds_toArray, List.set_cons_zero, List.set_cons_succ]
                      refine wpS_quiet (some 148) { dst := some 148, op := Op.slice 27 (Operand.tmp 145) none (some (Operand.tmp 146)) (some (Operand.tmp 147)), type := _, pos := _, after := _, guard := none } _ rfl rfl (by rfl) (fun wE hE => by (go_simp; try with_reducible rfl)) ?_; simp only [Act.put, List.setIfInBounds_toArray, List.set_cons_zero, List.set_cons_succ]
                      refine wpS_quiet (some 149) { dst := some 149, op := Op.move (Operand.tmp 16), type := _, pos := _, after := _, guard := none } _ rfl rfl (by rfl) (fun wE hE => by (go_simp; try with_reducible rfl)) ?_; simp only [Act.put, List.setIfInBounds_toArray, List.set_cons_zero, List.set_cons_succ]
                      refine wpS_quiet (some 151) { dst := some 151, op := Op.move (Operand.tmp 14), type := _, pos := _, after := _, guard := none } _ rfl rfl (by rfl) (fun wE hE => by (go_simp; try with_reducible rfl)) ?_; simp only [Act.put, List.setIfInBounds_toArray, List.set_cons_zero, List.set_cons_succ]
                      refine wpS_quiet (some 152) { dst := some 152, op := Op.move (Operand.tmp 19), type := _, pos := _, after := _, guard := none } _ rfl rfl (by rfl) (fun wE hE => by (go_simp; try with_reducible rfl)) ?_; simp only [Act.put, List.setIfInBounds_toArray, List.set_cons_zero, List.set_cons_succ]
                      refine wpS_quiet (some 153) { dst := some 153, op := Op.slice 27 (Operand.tmp 151) (some (Operand.tmp 152)) none none, type := _, pos := _, after := _, guard := none } _ rfl rfl (by rfl) (fun wE hE => by (go_simp; try with_reducible rfl)) ?_; simp only [Act.put, List.setIfInBounds_toArray, List.set_cons_zero, List.set_cons_succ]
                      refine wpS_make (some 150) { dst := some 150, op := Op.buildSlice 27 1 #[(0, Operand.tmp 149)], type := _, pos := _, after := _, guard := none } rfl rfl (by rfl) 2 [.int .i64 n] 1 (by go_simp; try rfl) (fun w' h => h.toB hs5l) ?_ trivial
                      intro b5 w5 hb5 e5 KB5
                      simp only [Act.put, List.setIfInBounds_toArray, List.set_cons_zero, List.set_cons_succ]
                      obtain ⟨i0, hi, hz0, hz1, hz2⟩ := info_parts3 infoI64z
                      have hsz5 : s5 ≤ b5 := by omega
                      have hb5l : b5 < w5.heap.size := KB5.lt
                      obtain ⟨v9, w9, hr9, O9, G9⟩ := run_app_own (P := Try.prog) (d := Rp.i64) (w := w5) 27 27 2 i0 _ 8 Try.underlying27 hi hz0 hz1 hz2 rfl (own_lit64 KB5 hsz5) ((Rp.slice Rp.i64).ext' e5 ((Rp.slice Rp.i64).lt HDR.out)) (fun q hq he => by have h9 := hq.2; simp only [Value.ownBlock, Option.some.injEq] at he; have h8 := HS5.out; have h7 : W5.drew.heap.size = W5.heap.size := rfl; have h6 : W5.heap.size = s5 := h8.symm; omega) (by simp only [maxLen, List.length_singleton]; omega) (by simp only [List.length_singleton]; omega) (by omega)
                      have X9 : ExtX (fun q => some q = Value.ownBlock (.slice (some ⟨b5, 0, none⟩) 1 1)) w5 w9 := ((Ext.refl w5).toX _).grown G9 (fun q h => h.symm)
                      have E59 : Ext W5 w9 := (((e5.undrew).toX (fun q => q = b5)).trans (X9.mono fun q _ hq => by simpa [Value.ownBlock] using hq)).toExt (fun q hq => by have hq : q = b5 := hq; have := HS5.out; omega)
                      obtain ⟨B9, cap9, hv9, _, _⟩ := O9.shape
                      subst hv9
                      have hR9 : ExtB s5 w5 w9 := X9.toB (fun q hq => by simp only [Value.ownBlock, Option.some.injEq] at hq; omega) (by omega)
                      refine wpS_upd (some 154) { dst := some 154, op := Op.call { callee := Callee.builtin Builtin.append, args := #[Operand.tmp 150, Operand.tmp 153], argTypes := #[27, 27] }, type := _, pos := _, after := _, guard := none } rfl rfl (by rfl) ?_ trivial
                      refine ⟨_, w9, exec_app (.tmp 150) (.tmp 153) 27 rfl rfl rfl hr9, hR9, ?_⟩
                      simp only [Act.put, List.setIfInBounds_toArray, List.set_cons_zero, List.set_cons_succ]
                      obtain ⟨v10, w10, hr10, O10, E10⟩ := run_app_full (P := Try.prog) (d := Rp.i64) (w := w9) 27 27 2 i0 _ 8 Try.underlying27 hi hz0 hz1 hz2 rfl ((Rp.slice Rp.i64).ext' E59 HTK.out) O9.slice (by simp) (by simp only [maxLen, List.length_append, List.length_singleton]; have := HTL.out; omega) (by simp only [List.length_append, List.length_singleton]; have := HTL.out; omega)
                      have hr10 : (Builtin.append_ #[27, 27] 27 #[.slice (some ⟨bw, ow, none⟩ : Option Addr) k k, .slice B9 ([n] ++ DR).length cap9]).run Try.prog w9 = .ok v10 w10 := by have := hr10; rw [HTL.out] at this; exact this
                      obtain ⟨B10, cap10, hv10, _, _⟩ := O10.shape
                      subst hv10
                      refine wpS_upd (some 155) { dst := some 155, op := Op.call { callee := Callee.builtin Builtin.append, args := #[Operand.tmp 148, Operand.tmp 154], argTypes := #[27, 27] }, type := _, pos := _, after := _, guard := none } rfl rfl (by rfl) ?_ trivial
                      refine ⟨_, w10, exec_app (.tmp 148) (.tmp 154) 27 rfl rfl rfl hr10, E10.toB (by have := E59.size; have := HS5.out; omega), ?_⟩
                      simp only [Act.put, List.setIfInBounds_toArray, List.set_cons_zero, List.set_cons_succ]
                      refine wpS_quiet (some 14) { dst := some 14, op := Op.assign (Operand.tmp 155), type := _, pos := _, after := _, guard := none } _ rfl rfl (by rfl) (fun wE hE => by (go_simp; try with_reducible rfl)) ?_; simp only [Act.put, List.setIfInBounds_toArray, List.set_cons_zero, List.set_cons_succ]
                      change Exit.inBlock _ _ _ _ _
                      have EI : Ext W5 w10 := E59.trans E10
                      obtain ⟨NL, hNL⟩ : ∃ NL, NL = WL.take k ++ ([n] ++ DR) := ⟨_, rfl⟩
                      rw [← hNL] at O10 ⊢
                      have hW10 : Hid ((Rp.slice Rp.i64).K w10 (fun q => B0 ≤ q ∧ some q ≠ (Value.slice A2 n2 cap2).ownBlock) NL [.slice B10 NL.length cap10]) := Lib.hid (by
                        have h5 := E59.size
                        have h6 : B0 ≤ W5.heap.size := by have := X5.size; omega
                        have h4 := O10.flat' (ExtX.refl (fun _ => False) w10) (fun _ _ h => h) (ok' := fun q => w9.heap.size ≤ q) (fun q hq => (O10.own q hq).1)
                        exact (Rp.slice Rp.i64).mono (fun q hq => ⟨by have hq : w9.heap.size ≤ q := hq; omega, fun he => by have hq : w9.heap.size ≤ q := hq; have := (hO5.out.own q he.symm).2; omega⟩) h4.slice)
                      have hperm5 : Hid (NL.Perm ((more.take (i1 + 1)).filter (fun n => decide (h.rev < n)))) := Lib.hid (by
                        rw [hNL, hDR.out, take_snoc' HN.out, List.filter_append, List.filter_cons, if_pos (by simpa using q5)]
                        refine (put_perm WL n k).trans ?_
                        exact ((List.perm_append_singleton n WL).symm).trans (hperm.out.append (List.Perm.refl _)))
                      have hfall5 : Hid (NL.Pairwise (fun a b => b ≤ a)) := Lib.hid (by rw [hNL, hDR.out]; exact falls_put hfall.out hup.out hdn.out)
                      have hNLl : NL.length = k + (DR.length + 1) := by rw [hNL, List.length_append, HTL.out, List.length_append, List.length_singleton]; omega
                      have hW11 : Hid ((Rp.slice Rp.i64).K w10 (fun q => B0 ≤ q ∧ some q ≠ (Value.slice A2 n2 cap2).ownBlock) NL [.slice B10 (k + (DR.length + 1)) cap10]) := Lib.hid (by have := hW10.out; rw [hNLl] at this; exact this)
                      clear hNLl
                      have HNL := Lib.hid hNL
                      have X10 : ExtX (fun q => q = bN ∨ B0 ≤ q) W4 w10 := X5.trans (EI.toX _)
                      clear O9 O10 G9 hr9 hr10 X9 hR9 r1 r2 hNL
                      go_wp2_with fail
                      go_roundw
                      case rel => exact ⟨i1 + 1, _, _, NL, by go_num, by omega, Lib.hid (K5.out.ext EI), Lib.hid (hO5.out.ext EI), hW11, hms5, hne5, hperm5, hfall5, X10⟩
                      case measure => simp [intOf]; omega
              · have q5' : decide (h.rev < n) = false := decide_eq_false q5
                have hperm5 : Hid (WL.Perm ((more.take (i1 + 1)).filter (fun n => decide (h.rev < n)))) := Lib.hid (by rw [take_snoc' HN.out, List.filter_append, List.filter_cons, q5']; simpa using hperm.out)
                go_wp2_with fail
                go_roundw
                case rel => exact ⟨i1 + 1, _, _, WL, by go_num, by omega, K5, hO5, hWL5, hms5, hne5, hperm5, hfall, X5⟩
                case measure => simp [intOf]; omega
        · have him : i1 = more.length := by omega
          have htk : more.take i1 = more := by rw [him, List.take_length]
          have hms2 : ms.map (·.rev) = more := by rw [hms.out, htk]
          have hmr : ∀ m ∈ ms, m.rev ≠ h.rev := fun m hm => hne.out m.rev (by rw [htk, ← hms2]; exact List.mem_map.2 ⟨m, hm, rfl⟩)
          have hml : ms.length ≤ 8 := by have := congrArg List.length hms2; rw [List.length_map] at this; omega
          have hpne : ps ≠ [] := fun he => h0 (by rw [he]; rfl)
          have hU : (unchk h.rev (h :: ms)).map (·.rev) = WL := by
            obtain ⟨q1, q2⟩ := unchk_perm h.rev (h :: ms)
            refine falls_eq _ _ (q1.trans ?_) q2 hfall.out
            rw [List.filter_cons, if_neg (by simp)]
            have hff : (ms.filter (fun g => decide (h.rev < g.rev))).map (·.rev) = (ms.map (·.rev)).filter (fun n => decide (h.rev < n)) := by rw [List.filter_map]; rfl
            rw [hff, hms2, ← htk]
            exact hperm.out.symm
          have hcomp := once_comp h ps ms hpne (by omega) hmr
          rw [hU] at hcomp
          have HCOMP := Lib.hid hcomp
          have HMR := Lib.hid hmr
          have XX : ExtX (fun q => q = bN ∨ B0 ≤ q) W3 wx := (X34.mono fun q _ hq => .inl hq).trans hX
          have hbe := HBN.out
          have hb0e := HB0.out
          have KAx : Blk wx s 25 (hsCells h) := HKA.out.extX XX (fun hq => by have := HKD.out.lt; rcases hq with hq | hq <;> omega)
          have KBx : Blk wx (s + 1) 2 [.int .i64 h.rev] := HKB.out.extX XX (fun hq => by have := HKD.out.lt; rcases hq with hq | hq <;> omega)
          have KCx : Blk wx (s + 1 + 1) 26 [.slice A9 LL.length c9] := HKC.out.extX XX (fun hq => by have := HKD.out.lt; rcases hq with hq | hq <;> omega)
          have KDx := HKD.out.extX XX (fun hq => by have := HKD.out.lt; rcases hq with hq | hq <;> omega)
          have SL : (Rp.slice Rp.ck).K wx any LL [.slice A9 LL.length c9] := (Rp.slice Rp.ck).toAny ((Rp.slice Rp.ck).extX hX ((Rp.slice Rp.ck).ext' Ewr4 HLSs.out) (fun q hq hm => by have := hq.2; rcases hm with hm | hm <;> omega))
          have SA : (Rp.slice Rp.hs).K wx any [h] [.slice (some ⟨s, 0, none⟩) 1 1] := slice_of_blk (xs := [h]) KAx trivial (show 1 * 3 ≤ 3 by decide) (one_elem (p := fun i y => Rp.hs.K wx any y (((hsCells h).drop (i * Rp.hs.sz)).take Rp.hs.sz)) ⟨rfl, trivial⟩) (Nat.le_refl _) (by decide)
          have SB : (Rp.slice Rp.i64).K wx any [h.rev] [.slice (some ⟨s + 1, 0, none⟩) 1 1] := slice_of_blk (xs := [h.rev]) KBx trivial (show 1 * 1 ≤ 1 by decide) (one_elem (p := fun i y => Rp.i64.K wx any y ((([.int .i64 h.rev] : List Value).drop (i * Rp.i64.sz)).take Rp.i64.sz)) ⟨rfl, trivial⟩) (Nat.le_refl _) (by decide)
          have SC : (Rp.slice (Rp.slice Rp.ck)).K wx any [LL] [.slice (some ⟨s + 1 + 1, 0, none⟩) 1 1] := slice_of_blk (d := Rp.slice Rp.ck) (xs := [LL]) KCx trivial (show 1 * 1 ≤ 1 by decide) (one_elem (p := fun i y => (Rp.slice Rp.ck).K wx any y ((([.slice A9 LL.length c9] : List Value).drop (i * 1)).take 1)) SL) (Nat.le_refl _) (by decide)
          have SH : (Rp.slice Rp.hs).K wx any (h :: ms) [.slice AH nH cH] := (Rp.slice Rp.hs).toAny hOH.out.slice
          have R1 : Hid (∀ W', Ext wx W' → Rp.rd.K W' any (onceR h ps []) [.slice (some ⟨s, 0, none⟩) 1 1, .slice (some ⟨s + 1, 0, none⟩) 1 1, .slice (some ⟨s + 1 + 1, 0, none⟩) 1 1]) := Lib.hid (fun W' e9 => by
            refine ⟨_, _, rfl, (Rp.slice Rp.hs).ext' e9 SA, _, _, rfl, (Rp.slice Rp.i64).ext' e9 SB, ?_⟩
            have := (Rp.slice (Rp.slice Rp.ck)).ext' e9 SC
            rw [HLL.out] at this; exact this)
          have R2 : Hid (∀ W', Ext wx W' → Rp.rd.K W' any (onceR h ps ms) [.slice AH nH cH, .slice (some ⟨s + 1, 0, none⟩) 1 1, .slice (some ⟨s + 1 + 1, 0, none⟩) 1 1]) := Lib.hid (fun W' e9 => by
            refine ⟨_, _, rfl, (Rp.slice Rp.hs).ext' e9 SH, _, _, rfl, (Rp.slice Rp.i64).ext' e9 SB, ?_⟩
            have := (Rp.slice (Rp.slice Rp.ck)).ext' e9 SC
            rw [HLL.out] at this; exact this)
          have t0 := KDx.cell (o := 0) rfl
          have t1 := KDx.cell (o := 1) rfl
          have t2 := KDx.cell (o := 2) rfl
          have n1 := hKN.out.cell (o := 1) rfl
          have n2 := hKN.out.cell (o := 2) rfl
          have HE9 := Lib.hid EWx
          have hxl : w.heap.size < wx.heap.size := KHx.lt
          have HOK : Hid (∀ r ∈ [onceR h ps [], onceR h ps ms, onceR h ps []], RdOk own (allSame r) (allSame r) ((fun _ _ => []) r) r) := Lib.hid (fun r hr => by
            rcases List.mem_cons.1 hr with rfl | hr
            · exact once_ok own h ps [] hl (by simp) (by simp)
            rcases List.mem_cons.1 hr with rfl | hr
            · exact once_ok own h ps ms hl hml HMR.out
            · obtain rfl := List.mem_singleton.1 hr
              exact once_ok own h ps [] hl (by simp) (by simp))
          clear htk hms2 hmr hcomp hU XX hbe hb0e KAx KBx KCx KDx SL SA SB SC SH him
          go_wp2_with fail
          have S9 : (Rp.slice Rp.rd).K (wx.alloc (.cells #[.slice (some ⟨s, 0, none⟩) 1 1, .slice (some ⟨s + 1, 0, none⟩) 1 1, .slice (some ⟨s + 1 + 1, 0, none⟩) 1 1, .slice AH nH cH, .slice (some ⟨s + 1, 0, none⟩) 1 1, .slice (some ⟨s + 1 + 1, 0, none⟩) 1 1, .slice (some ⟨s, 0, none⟩) 1 1, .slice (some ⟨s + 1, 0, none⟩) 1 1, .slice (some ⟨s + 1 + 1, 0, none⟩) 1 1] 34)) any [onceR h ps [], onceR h ps ms, onceR h ps []] [.slice (some ⟨wx.heap.size, 0, none⟩) 3 3] :=
            slice_of_blk (d := Rp.rd) (xs := [onceR h ps [], onceR h ps ms, onceR h ps []]) (Blk.new wx _ _) trivial (show 3 * 3 ≤ 9 by decide) (fun i x hx => by
              match i, hx with
              | 0, hx => obtain rfl := Option.some.inj hx; exact R1.out _ ((Ext.refl _).alloc _)
              | 1, hx => obtain rfl := Option.some.inj hx; exact R2.out _ ((Ext.refl _).alloc _)
              | 2, hx => obtain rfl := Option.some.inj hx; exact R1.out _ ((Ext.refl _).alloc _)) (Nat.le_refl _) (by decide)
          refine (compactCheck_any own allSame allSame (fun _ _ => []) [onceR h ps [], onceR h ps ms, onceR h ps []] _ _ S9 (by simp) HOK).mono ?_
          rintro e w9 ⟨v1, v2, rfl, hv1, hv2, E9⟩
          have E19 := ((Ext.refl wx).alloc _).trans E9
          rw [HCOMP.out] at hv1 hv2
          obtain ⟨A1, c1, he1, q1, q2, q3, row1⟩ := hv1
          obtain ⟨A2', c2, he2, q4, q5, q6, row2⟩ := hv2
          simp only [List.cons.injEq, and_true] at he1 he2
          subst he1 he2
          obtain ⟨ba, oa, rfl, _⟩ := row1.addr (by simp)
          obtain ⟨bb, ob, rfl, _⟩ := row2.addr (by simp)
          obtain ⟨X1, y1, a0', _, _, _⟩ := rows_at row1 rfl (k := 0) rfl (Ext.refl w9)
          obtain ⟨X2, y2, a1', _, _, _⟩ := rows_at row1 rfl (k := 1) rfl (Ext.refl w9)
          obtain ⟨X3, y3, a2', _, _, _⟩ := rows_at row1 rfl (k := 2) rfl (Ext.refl w9)
          have a0 : w9.cell? ⟨ba, oa, none⟩ = some (.slice X1 0 y1) := a0'
          have a1 : w9.cell? ⟨ba, oa + 1, none⟩ = some (.slice X2 0 y2) := a1'
          have a2 : w9.cell? ⟨ba, oa + 2, none⟩ = some (.slice X3 0 y3) := a2'
          obtain ⟨B1, e1, b0', _, _, kb0⟩ := rows_at row2 rfl (k := 0) rfl (Ext.refl w9)
          obtain ⟨B2, e2, b1', _, _, kb1⟩ := rows_at row2 rfl (k := 1) rfl (Ext.refl w9)
          obtain ⟨B3, e3, b2', _, _, _⟩ := rows_at row2 rfl (k := 2) rfl (Ext.refl w9)
          have b0 : w9.cell? ⟨bb, ob, none⟩ = some (.slice B1 1 e1) := b0'
          have b1 : w9.cell? ⟨bb, ob + 1, none⟩ = some (.slice B2 WL.length e2) := b1'
          have b2 : w9.cell? ⟨bb, ob + 2, none⟩ = some (.slice B3 0 e3) := b2'
          have hK9 : Hid ((Rp.slice Rp.i64).K w9 any WL [.slice AW WL.length cW]) := Lib.hid ((Rp.slice Rp.i64).toAny ((Rp.slice Rp.i64).ext' E19 hWL.out))
          have HB1 := Lib.hid kb0
          have HB2 := Lib.hid kb1
          have KH9 := KHx.ext E19
          have d2 := KH9.cell (o := 2) rfl
          clear a0' a1' a2' b0' b1' b2' row1 row2 q1 q2 q3 q4 q5 q6 kb0 kb1 S9 E9 t0 t1 t2 n1 n2 k0
          go_wp2_with fail
          refine once35 _ _ _ _ _ _ _ _ _ _ _ _ _ _ _ _ _ _ _ _ _ _ _ _ _ _ _ _ _ _ _ _ _ _ _ _ _ _ _ _ _ _ _ _ _ _ _ _ _ _ _ _ _ _ _ _ _ _ _ _ _ _ _ _ _ _ _ _ _ _ _ _ _ _ _ _ _ _ _ _ _ _ _ _ _ _ _ _ _ _ _ _ _ _ _ _ _ _ _ _ _ _ _ _ _ _ _ _ _ _ _ _ _ _ _ _ _ _ _ _ _ _ _ _ _ _ _ _ _ _ _ _ _ _ _ _ _ _ _ _ _ _ _ _ _ _ _ _ _ _ _ _ _ _ _ _ _ _ _ _ _ _ _ _ _ _ _ _ _ _ _ _ _ _ _ _ _ _ _ _ _ _ _ _ _ _ _ _ _ _ _ _ _ _ _ _ _ _ _ _ _ _ _ _ _ _ _ _ _ _ _ _ _ (fun _ _ d _ _ h => by cases d <;> exact h) _ w.heap.size ba oa bb ob c1 c2 cW e1 e2 e3 y1 y2 y3 h.rev WL AW X1 X2 X3 B1 B2 B3 a0 a1 a2 b0 b1 b2 d2 hK9 HB1 HB2 (Lib.hid ?_)
          intro u166 u167 u168 u169 u170 u171 u172 u173 u174 u175 u176 u177 u178 u179 u180 u181 u182 u183 u184 u185 u186 u187 u188 u189 u190 u191 u192 u193 u194 u195 u196 u197 u198 u199 u200 u201 u202 u203 u204 u205 u206 u207 u208 u209 u210 u211 u212 u213 u214 u215 u216 wf ef
          change Exit.then _ _ _ _ _
          go_wp2_with fail
          go_ret
          exact ⟨rfl, (HE9.out.trans E19).trans ef⟩
end Go.Proofs.Ythnhgfpkmbgkdaa
