/-
  The hashes of one revision compared where two of three agree: an alarm for the third.
-/
import Derived.Test.YthnhgfpkmbgkdaaDd
import Derived.Deep.DeepCutAuto
import Derived.LoopN
namespace Go.Proofs.Ythnhgfpkmbgkdaa
open Go.RowKit
set_option linter.unusedSimpArgs false
set_option linter.unusedVariables false

theorem shape2 {gs : List (Int × Value × List Int)} {k1 k2 : Int} {l1 l2 : List Int} (h : shapeG gs = [(k1, l1), (k2, l2)]) : ∃ va vb, gs = [(k1, va, l1), (k2, vb, l2)] := by
  match gs, h with
  | [(a, va, la), (b, vb, lb)], h =>
    simp only [shapeG, List.map_cons, List.map_nil, List.cons.injEq, Prod.mk.injEq, and_true] at h
    obtain ⟨⟨rfl, rfl⟩, rfl, rfl⟩ := h
    exact ⟨va, vb, rfl⟩
  | [], h => simp [shapeG] at h
  | [_], h => simp [shapeG] at h
  | _ :: _ :: _ :: _, h => simp [shapeG] at h
set_option maxRecDepth 40000 in
set_option maxHeartbeats 8000000 in
theorem check_awake (c b B : Nat) (x : HSt) (al rl : List Int) (latest : Int) (h : HsD) (ps : List CkD) (kA kB i1 i2 i3 : Int) (v : Value) (w : World) (hK : CkAt w c b latest) (hH : HAt w b B x al rl) (hp : (Rp.slice Rp.pp).K w (fun k => k ≠ c) ps [v]) (hlp : ps.length = 2) (hg : groupOf x.own h ps = [(kA, [i1, i2]), (kB, [i3])]) (hal : al.length ≤ 900) (hcb : ¬ HPriv b x c) :
    Calls Try.prog 40 #[.pointer (some ⟨c, 0, none⟩), hsV h, v] w (ChkAns c b B x al rl latest h true false [i3] w) := by
  have hl : ps.length ≤ 12 := by omega
  replace hg := Lib.hid hg
  replace hlp := Lib.hid hlp
  obtain ⟨A, cap, hv, p1, p2, p3, hrow⟩ := hp
  simp only [List.cons.injEq, and_true] at hv
  subst hv
  have HR := Lib.hid hrow
  have hbw : b < w.heap.size := hH.lt
  have hcw : c < w.heap.size := Blk.lt hK
  have k1 : w.cell? ⟨c, 1, none⟩ = some (.iface 69 (.pointer (some ⟨b, 0, none⟩))) := Blk.cell hK rfl
  obtain ⟨W, hW⟩ : ∃ W, W = w.alloc (.cells (hsCells h).toArray 55) := ⟨_, rfl⟩
  have E0 : Ext w W := by rw [hW]; exact (Ext.refl w).alloc _
  have KH : Blk W w.heap.size 55 (hsCells h) := by rw [hW]; exact Blk.new w _ _
  have k1 := E0.cellS k1
  have h0 := KH.cell (o := 0) rfl
  have HH := Lib.hid hH
  have HK := Lib.hid hK
  have HKH := Lib.hid KH
  have HW := Lib.hid hW
  clear hrow hH hK KH hW
  have hmm := @run_makeMap Try.prog
  have hwW : w.heap.size < W.heap.size := HKH.out.lt
  clear p3
  obtain ⟨m, hm⟩ : ∃ m, m = W.heap.size := ⟨_, rfl⟩
  have EM : Ext W ((W.alloc (.map #[] 0)).alloc (.cells #[.int .u64 x.own] 70)) := ((Ext.refl W).alloc _).alloc _
  have G0 : Grp ((W.alloc (.map #[] 0)).alloc (.cells #[.int .u64 x.own] 70)) m m [] := ⟨(by rw [hm]; exact (MapL.new W).ext ((Ext.refl _).alloc _)), fun g hg => by simp at hg, List.Pairwise.nil, Nat.le_refl _⟩
  have O0 : OwnP Rp.u64 ((W.alloc (.map #[] 0)).alloc (.cells #[.int .u64 x.own] 70)) (fun k => k ≠ m) m 70 (.slice (some ⟨W.heap.size + 1, 0, none⟩) 1 1) [x.own] := own_lit (blk_at _ _ _ _ (by simp)) (by omega) (by omega)
  obtain ⟨w2, hput, G2, X2, s2⟩ := G0.add keyU32 Try.underlying133 (x := h.hash) (by simp) O0 (fun g hg => by simp at hg)
  have HG2 := Lib.hid G2
  have E2 : Ext W w2 := ((EM.toX (fun k => k = m)).trans X2).toExt (fun k hk => by have hk : k = m := hk; omega)
  rw [hm] at hput
  replace hm := Lib.hid hm
  clear G0 O0 G2 EM X2
  go_enter Try.func40, Try.ntmps40
  go_wp2_with fail
  change Calls _ _ _ (w.alloc (.cells (hsCells h).toArray 55)) _
  rw [← HW.out]
  refine (memberID_any b B x al rl W (HH.out.ext E0)).mono ?_
  rintro e w1 ⟨rfl, rfl⟩
  go_wp2_with fail
  go_loopw [9, 37] (fun n i wr => ∃ (k : Nat) (gs : List (Int × Value × List Int)), i = .int .i64 k ∧ k ≤ ps.length ∧ n = .int .i64 (cntOf h (ps.take k) : Nat) ∧ Hid (Grp wr m m gs) ∧ Hid (shapeG gs = groupOf x.own h (ps.take k)) ∧ Ext W wr) (fun _ i _ => ps.length - (intOf i).toNat)
  case atStart => exact ⟨0, _, rfl, Nat.zero_le _, rfl, HG2, Lib.hid rfl, E2⟩
  case round =>
    obtain ⟨k, gs, rfl, hk, rfl, hG, hS, hE⟩ := hrel
    have E2 := E0.trans hE
    by_cases hlt : k < ps.length
    · obtain ⟨p, hp⟩ : ∃ p, ps[k]? = some p := ⟨_, List.getElem?_eq_getElem hlt⟩
      obtain ⟨ba, o, rfl, _⟩ := HR.out.addr (List.ne_nil_of_length_pos (by omega))
      obtain ⟨cs, _, ⟨be, rfl, hpp⟩, hc⟩ := HR.out.at rfl hp
      have cE : wr.cell? ⟨ba, o + k, none⟩ = some (.pointer (some ⟨be, 0, none⟩)) := E2.cellS (by simpa [Rp.pp] using hc 0 (by decide))
      have HPW := Lib.hid hpp.lt
      have HP := Lib.hid hp
      have HG : Hid (Grp wr W.heap.size W.heap.size gs) := Lib.hid (by have := hG.out; rw [hm.out] at this; exact this)
      have GS : Hid (groupOf x.own h (ps.take (k + 1)) = gstep h (groupOf x.own h (ps.take k)) p) := Lib.hid (groupOf_snoc HP.out)
      have CS : Hid (cntOf h (ps.take (k + 1)) = cntOf h (ps.take k) + if p.has && p.comp == h.comp then 1 else 0) := Lib.hid (cntOf_snoc HP.out)
      have hcl : cntOf h (ps.take k) ≤ 12 := by unfold cntOf; exact Nat.le_trans (List.length_filter_le _ _) (by rw [List.length_take]; omega)
      have HPP := Lib.hid (PpAt.heap (fun k hk => E2.2.2.2.2 k hk.2) hpp.lt)
      have KHR := HKH.out.ext hE
      have d1 := KHR.cell (o := 1) rfl
      have hWr := hE.size
      clear hp hc hpp hG KHR
      cases hh : p.has with
      | false =>
        have e2 := pp_no HPP.out hh
        have g1 : Hid (groupOf x.own h (ps.take (k + 1)) = groupOf x.own h (ps.take k)) := Lib.hid (by rw [GS.out]; unfold gstep; rw [hh]; rfl)
        have g2 : Hid (cntOf h (ps.take (k + 1)) = cntOf h (ps.take k)) := Lib.hid (by rw [CS.out, hh]; rfl)
        replace hh := Lib.hid hh
        go_wp2_with fail
        go_roundw
        case rel => exact ⟨k + 1, gs, by go_num, by omega, by rw [g2.out], Lib.hid (by rw [hm.out]; exact HG.out), Lib.hid (by rw [g1.out]; exact hS.out), hE⟩
        case measure => simp [intOf]; omega
      | true =>
        obtain ⟨b2, b3, e0, e2, f0, f1, f2, f3⟩ := pp_yes HPP.out hh
        by_cases hcc : p.comp = h.comp
        · have t1 : (p.comp != h.comp) = false := by simp [hcc]
          have t1' : (p.comp == h.comp) = true := by simp [hcc]
          have hcb : Hid ((p.has && p.comp == h.comp) = true) := Lib.hid (by rw [hh, t1']; rfl)
          have g2 : Hid (cntOf h (ps.take (k + 1)) = cntOf h (ps.take k) + 1) := Lib.hid (by rw [CS.out, hcb.out]; rfl)
          replace hcc := Lib.hid hcc
          replace hh := Lib.hid hh
          go_upto_region 14 with (go_quiet (fail))
          obtain ⟨wd, hwd⟩ : ∃ wd, wd = wr.drewN nq := ⟨_, rfl⟩
          have Ed : Ext wr wd := by rw [hwd]; exact (Ext.refl wr).drewN _
          change Code.wp _ _ _ _ (wr.drewN nq)
          rw [← hwd]
          clear hwd
          have e0 := Ed.cellS e0
          have e2 := Ed.cellS e2
          have f1 := Ed.cellS f1
          have HGd := Lib.hid (HG.out.ext Ed)
          have hbe : be < w.heap.size := HPW.out.1.2
          have hb2 : b2 < w.heap.size := by
            obtain ⟨_, h9⟩ := HPW.out
            rw [if_pos hh.out] at h9
            obtain ⟨b2', b3', o2, _, k1', _, _⟩ := h9
            have h8 := (E2.trans Ed).cellS (k1'.cell (o := 2) rfl)
            rw [e2] at h8
            simp only [Option.some.injEq, Value.pointer.injEq, Addr.mk.injEq, and_true] at h8
            rw [h8]; exact o2.2
          have hbe' : be ≠ W.heap.size := by omega
          have hb2' : b2 ≠ W.heap.size := by omega
          have hWd : W.heap.size ≤ wd.heap.size := Nat.le_trans hWr Ed.size
          have hmd : W.heap.size < wd.heap.size := HGd.out.map.lt
          have Ew : Ext W wd := hE.trans Ed
          have hcw1 : IntKind.i64.wrap ((cntOf h (ps.take k) : Nat) + 1 : Int) = (cntOf h (ps.take k) : Nat) + 1 := IntWalk.i64_in _ (by omega)
          rcases HGd.out.look keyU32 Try.underlying133 (zeroIds wd) p.hash with ⟨hx, hlk⟩ | ⟨v0, ids0, hg, hlk⟩
          · have hx := Lib.hid hx
            have gk : Hid (p.hash ∉ (shapeG gs).map (·.1)) := Lib.hid (by rw [Grp.shape_keys]; exact hx.out)
            have gn : Hid (groupOf x.own h (ps.take (k + 1)) = groupOf x.own h (ps.take k) ++ [(p.hash, [p.id])]) := Lib.hid (by rw [GS.out]; unfold gstep; rw [hcb.out, ← hS.out, if_neg gk.out]; rfl)
            go_wp2_with fail
            refine wp_region_sched (ops := ops_40_16) (ExtX (fun k => k = W.heap.size)) [14] (.quiet 0 (.quiet 1 (.quiet 2 (.quiet 3 (.quiet 4 (.quiet 5 (.quiet 6 (.quiet 7 (.quiet 8 (.quiet 9 (.quiet 10 (.quiet 11 (.quiet 12 (.loud 13 (.last 14 (.done)) (.stop))))))))))))))) (by kernel_rfl) (ExtX.refl (fun k => k = W.heap.size)) (fun _ _ _ => ExtX.trans) (by kernel_rfl) (fun _ _ d _ _ h => by cases d <;> exact h) ?_
            refine wpS_quiet (some 73) { dst := some 73, op := Op.move (Operand.tmp 8), type := _, pos := _, after := _, guard := none } _ rfl rfl (by rfl) (fun wE hE => by (go_simp; try with_reducible rfl)) ?_; simp only [Act.put, List.setIfInBounds_toArray, List.set_cons_zero, List.set_cons_succ]
            refine wpS_quiet (some 74) { dst := some 74, op := Op.move (Operand.tmp 11), type := _, pos := _, after := _, guard := none } _ rfl rfl (by rfl) (fun wE hE => by (go_simp; try with_reducible rfl)) ?_; simp only [Act.put, List.setIfInBounds_toArray, List.set_cons_zero, List.set_cons_succ]
            refine wpS_quiet (some 75) { dst := some 75, op := Op.nilCheck (Operand.tmp 74), type := _, pos := _, after := _, guard := none } _ rfl rfl (by rfl) (fun wE hE => by (go_simp; try with_reducible rfl)) ?_; simp only [Act.put, List.setIfInBounds_toArray, List.set_cons_zero, List.set_cons_succ]
            refine wpS_quiet (some 76) { dst := some 76, op := Op.fieldAddr 100 (Operand.tmp 75) 1, type := _, pos := _, after := _, guard := none } _ rfl rfl (by rfl) (fun wE hE => by (go_simp; try with_reducible rfl)) ?_; simp only [Act.put, List.setIfInBounds_toArray, List.set_cons_zero, List.set_cons_succ]
            refine wpS_quiet (some 77) { dst := some 77, op := Op.load 98 (Operand.tmp 76), type := _, pos := _, after := _, guard := none } _ rfl rfl (by rfl) (fun wE hE => by (have zk0 := hE.cellS (by first | exact hbe' | exact hb2') e0; have zk1 := hE.cellS (by first | exact hbe' | exact hb2') e2; have zk2 := hE.cellS (by first | exact hbe' | exact hb2') f1; go_simp; try with_reducible rfl)) ?_; simp only [Act.put, List.setIfInBounds_toArray, List.set_cons_zero, List.set_cons_succ]
            refine wpS_quiet (some 78) { dst := some 78, op := Op.nilCheck (Operand.tmp 77), type := _, pos := _, after := _, guard := none } _ rfl rfl (by rfl) (fun wE hE => by (go_simp; try with_reducible rfl)) ?_; simp only [Act.put, List.setIfInBounds_toArray, List.set_cons_zero, List.set_cons_succ]
            refine wpS_quiet (some 79) { dst := some 79, op := Op.fieldAddr 105 (Operand.tmp 78) 1, type := _, pos := _, after := _, guard := none } _ rfl rfl (by rfl) (fun wE hE => by (go_simp; try with_reducible rfl)) ?_; simp only [Act.put, List.setIfInBounds_toArray, List.set_cons_zero, List.set_cons_succ]
            refine wpS_quiet (some 80) { dst := some 80, op := Op.load 23 (Operand.tmp 79), type := _, pos := _, after := _, guard := none } _ rfl rfl (by rfl) (fun wE hE => by (have zk0 := hE.cellS (by first | exact hbe' | exact hb2') e0; have zk1 := hE.cellS (by first | exact hbe' | exact hb2') e2; have zk2 := hE.cellS (by first | exact hbe' | exact hb2') f1; go_simp; try with_reducible rfl)) ?_; simp only [Act.put, List.setIfInBounds_toArray, List.set_cons_zero, List.set_cons_succ]
            refine wpS_quiet (some 81) { dst := some 81, op := Op.move (Operand.tmp 11), type := _, pos := _, after := _, guard := none } _ rfl rfl (by rfl) (fun wE hE => by (go_simp; try with_reducible rfl)) ?_; simp only [Act.put, List.setIfInBounds_toArray, List.set_cons_zero, List.set_cons_succ]
            refine wpS_quiet (some 82) { dst := some 82, op := Op.nilCheck (Operand.tmp 81), type := _, pos := _, after := _, guard := none } _ rfl rfl (by rfl) (fun wE hE => by (go_simp; try with_reducible rfl)) ?_; simp only [Act.put, List.setIfInBounds_toArray, List.set_cons_zero, List.set_cons_succ]
            refine wpS_quiet (some 83) { dst := some 83, op := Op.fieldAddr 100 (Operand.tmp 82) 0, type := _, pos := _, after := _, guard := none } _ rfl rfl (by rfl) (fun wE hE => by (go_simp; try with_reducible rfl)) ?_; simp only [Act.put, List.setIfInBounds_toArray, List.set_cons_zero, List.set_cons_succ]
            refine wpS_quiet (some 84) { dst := some 84, op := Op.fieldAddr 97 (Operand.tmp 83) 0, type := _, pos := _, after := _, guard := none } _ rfl rfl (by rfl) (fun wE hE => by (go_simp; try with_reducible rfl)) ?_; simp only [Act.put, List.setIfInBounds_toArray, List.set_cons_zero, List.set_cons_succ]
            refine wpS_quiet (some 85) { dst := some 85, op := Op.load 70 (Operand.tmp 84), type := _, pos := _, after := _, guard := none } _ rfl rfl (by rfl) (fun wE hE => by (have zk0 := hE.cellS (by first | exact hbe' | exact hb2') e0; have zk1 := hE.cellS (by first | exact hbe' | exact hb2') e2; have zk2 := hE.cellS (by first | exact hbe' | exact hb2') f1; go_simp; try with_reducible rfl)) ?_; simp only [Act.put, List.setIfInBounds_toArray, List.set_cons_zero, List.set_cons_succ]
            refine wpS_make (some 86) { dst := some 86, op := Op.buildSlice 131 1 #[(0, Operand.tmp 85)], type := _, pos := _, after := _, guard := none } rfl rfl (by rfl) 70 [.int .u64 p.id] 1 (by go_simp; try rfl) (fun w' h => h.toX _) ?_ trivial
            intro bs wb hb9 eb KB
            simp only [Act.put, List.setIfInBounds_toArray, List.set_cons_zero, List.set_cons_succ]
            obtain rfl : bs = wd.heap.size := hb9
            obtain ⟨w5, hp5, G5, X5, s5⟩ := (HGd.out.ext eb.undrew).add keyU32 Try.underlying133 hx.out (own_lit KB (by omega) (by omega)) (fun g hg k hk he => by have h1 := ((HGd.out.own g hg).own k hk).2; simp [Value.ownBlock] at he; omega)
            refine wpS_lastK none { dst := none, op := Op.mapUpdate 133 (Operand.tmp 73) (Operand.tmp 80) (Operand.tmp 86), type := _, pos := _, after := _, guard := none } rfl rfl (by rfl) ?_
            refine ⟨w5, by (go_simp; try rfl), ?_⟩
            simp only [Act.put, List.setIfInBounds_toArray, List.set_cons_zero, List.set_cons_succ]
            change Exit.inBlock _ _ _ _ _
            have HG5 := Lib.hid G5
            have E5 : Ext W w5 := ((Ew.trans eb.undrew).toX (fun k => k = W.heap.size) |>.trans X5).toExt (fun k hk => Nat.le_of_eq (Eq.symm hk))
            clear G5 X5 hp5 KB eb e0 e2 f1 hlk
            go_wp2_with fail
            go_roundw
            case rel => exact ⟨k + 1, _, by go_num, by omega, by rw [g2.out]; go_num, Lib.hid (by rw [hm.out]; exact HG5.out), Lib.hid (by rw [gn.out, ← hS.out]; exact Grp.shape_add _ _ _), E5⟩
            case measure => simp [intOf]; omega
          · have hg := Lib.hid hg
            have gk : Hid (p.hash ∈ (shapeG gs).map (·.1)) := Lib.hid (by rw [Grp.shape_keys]; exact List.mem_map.2 ⟨_, hg.out, rfl⟩)
            have gn : Hid (groupOf x.own h (ps.take (k + 1)) = (groupOf x.own h (ps.take k)).map (fun g => if g.1 = p.hash then (p.hash, g.2 ++ [p.id]) else g)) := Lib.hid (by rw [GS.out]; unfold gstep; rw [hcb.out, ← hS.out, if_pos gk.out]; rfl)
            have hil : ids0.length ≤ 1000 := by
              have h9 : (p.hash, ids0) ∈ groupOf x.own h (ps.take k) := by rw [← hS.out]; exact List.mem_map.2 ⟨_, hg.out, rfl⟩
              have := groupOf_len x.own h (ps.take k) _ h9
              rw [List.length_take] at this
              simp only at this
              omega
            obtain ⟨i0, hi, hz0, hz1, hz2⟩ := info_parts3 infoId
            have HO9 := Lib.hid (HGd.out.own _ hg.out)
            have hown : Hid (∀ k, v0.ownBlock = some k → W.heap.size ≤ k ∧ k < wd.heap.size) := Lib.hid (fun k hk => HO9.out.own k hk)
            have hwW' := hwW
            go_wp2_with (at_builtin; refine wpList_app (d := Rp.u64) (base := W.heap.size) rfl (.tmp 87) (.tmp 93) 132 rfl 70 i0 _ 8 Try.underlying132 hi hz0 hz1 hz2 rfl (v := v0) rfl (HO9.out.ext ((Ext.refl wd).alloc _)) (fun q hq => by simp at hq; omega) ⟨wd.heap.size, 0, none⟩ 1 [.int .u64 p.id] [p.id] rfl rfl (lit_at _ _ _ _ (by simp)) (one_elem (p := fun i y => (Rp.u64).K _ (fun q => q ≠ W.heap.size ∧ some q ≠ Value.ownBlock v0) y (([.int .u64 p.id].drop (i * (Rp.u64).sz)).take (Rp.u64).sz)) ⟨rfl,trivial⟩) (by simp [maxLen]; omega) (by simp; omega) (by simp; omega) ?_; intro v2 w2 own2 g2 f2; have O2 := Lib.hid own2; have G2 := Lib.hid g2; have F2 := Lib.hid f2; clear own2 g2 f2; obtain ⟨A2, n2, cap2, rfl⟩ := own_shape O2.out; (have X2 : ExtX (fun q => some q = v0.ownBlock) wd w2 := (((Ext.refl wd).alloc _).toX _).grown G2.out (fun k h => h.symm); have hno : ∀ q, q < w.heap.size → ¬ some q = v0.ownBlock := (fun q hq he => by (have := (hown.out q he.symm).1; omega)); have e2 := ExtX.cellS (p := ⟨be, 2, none⟩) X2 (hno be hbe) e2; have f1 := ExtX.cellS (p := ⟨b2, 1, none⟩) X2 (hno b2 hb2) f1; have e0 := ExtX.cellS (p := ⟨be, 0, none⟩) X2 (hno be hbe) e0; obtain ⟨w5, hp5, G5, X5, s5, X6⟩ := HGd.out.put keyU32 Try.underlying133 hg.out X2 O2.out (F2.out.imp (fun h => h) (fun h g hg => by (have := h g hg; simp at this; omega))); have HG5 := Lib.hid G5; have HX5 := Lib.hid X5; clear G5 X5 X6 hno X2))
            have E5 : Ext W w5 := ((Ew.toX (fun k => k = W.heap.size ∨ some k = v0.ownBlock)).trans HX5.out).toExt (fun k hk => by rcases hk with hk | hk; exact Nat.le_of_eq (Eq.symm hk); exact (hown.out k hk.symm).1)
            go_roundw
            case rel => exact ⟨k + 1, _, by go_num, by omega, by rw [g2.out]; go_num, Lib.hid (by rw [hm.out]; exact HG5.out), Lib.hid (by rw [gn.out, ← hS.out]; exact Grp.shape_grow HGd.out.nodup hg.out), E5⟩
            case measure => simp [intOf]; omega
        · have t1 : (p.comp != h.comp) = true := by simp [hcc]
          have t1' : (p.comp == h.comp) = false := by simp [hcc]
          have g1 : Hid (groupOf x.own h (ps.take (k + 1)) = groupOf x.own h (ps.take k)) := Lib.hid (by rw [GS.out]; unfold gstep; rw [hh, t1']; rfl)
          have g2 : Hid (cntOf h (ps.take (k + 1)) = cntOf h (ps.take k)) := Lib.hid (by rw [CS.out, hh, t1']; rfl)
          replace hcc := Lib.hid hcc
          replace hh := Lib.hid hh
          go_wp2_with fail
          go_quiet (fail)
          go_wp2_with fail
          go_roundw
          case rel => exact ⟨k + 1, gs, by go_num, by omega, by rw [g2.out], Lib.hid (by rw [hm.out]; exact HG.out.ext ((Ext.refl _).drewN _)), Lib.hid (by rw [g1.out]; exact hS.out), hE.drewN _⟩
          case measure => simp [intOf]; omega
    · have hkn : Hid (k = ps.length) := Lib.hid (by omega)
      have htk : Hid (ps.take k = ps) := Lib.hid (by rw [hkn.out, List.take_length])
      rw [htk.out]
      have HG : Hid (Grp wr W.heap.size W.heap.size gs) := Lib.hid (by have := hG.out; rw [hm.out] at this; exact this)
      have hS : Hid (shapeG gs = groupOf x.own h ps) := Lib.hid (by rw [hS.out, htk.out])
      clear hG
      obtain ⟨va, vb, rfl⟩ := shape2 (hS.out.trans hg.out)
      have HM : MapL (Value.int .u32) wr W.heap.size [(kA, va), (kB, vb)] := HG.out.map
      have hlen2 : (Builtin.len_ #[133] 3 #[.map (some W.heap.size)]).run Try.prog wr = .ok (.int .i64 2) wr := HM.length (P := Try.prog) Try.underlying133 3
      have hoa : OwnP Rp.u64 wr (fun k => k ≠ W.heap.size) W.heap.size 70 va [i1, i2] := HG.out.own _ (List.mem_cons_self)
      have hob : OwnP Rp.u64 wr (fun k => k ≠ W.heap.size) W.heap.size 70 vb [i3] := HG.out.own _ (List.mem_cons_of_mem _ (List.mem_cons_self))
      obtain ⟨Aa, ca, hva, qa⟩ := hoa.shape
      obtain rfl : va = .slice Aa 2 ca := hva
      obtain ⟨Ab, cb, hvb, qb⟩ := hob.shape
      obtain rfl : vb = .slice Ab 1 cb := hvb
      obtain ⟨w5, hrg, HI, E5, s5⟩ := IterL.start (P := Try.prog) keyU32 HM Try.underlying133
      have HOB := Lib.hid hob
      clear hob hoa
      have hps2 : ps.length = 2 := hlp.out
      go_wp2_with fail
      clear hps2 hlen2 hrg
      refine wp_loop_rounds 3 ?_
      rw [rounds_succ]
      rcases HI.next (P := Try.prog) keyU32 0 with ⟨h0, _⟩ | ⟨k9, v9, w6, hk9, hkv, hnx, HI6, X6, s6, hen⟩
      · simp at h0
      have hkv2 : (kA = k9 ∧ .slice Aa 2 ca = v9) ∨ (kB = k9 ∧ .slice Ab 1 cb = v9) := by
        rcases List.mem_cons.1 hkv with h9 | h9
        · simp only [Prod.mk.injEq] at h9; exact .inl ⟨h9.1.symm, h9.2.symm⟩
        · have h9 := List.mem_singleton.1 h9; simp only [Prod.mk.injEq] at h9; exact .inr ⟨h9.1.symm, h9.2.symm⟩
      clear hkv hk9
      have hm7 : W.heap.size < wr.heap.size := HG.out.map.lt
      have hw7r0 := hm7
      have hABn : kA ≠ kB := by
        have := HM.nodup
        simp at this
        exact this
      have hfin : Hid (∀ w7, MapL (Value.int .u32) w7 W.heap.size (adel [(kA, Value.slice Aa 2 ca), (kB, Value.slice Ab 1 cb)] kA) → ExtX (fun k => k = W.heap.size ∨ k = wr.heap.size) wr w7 →
          MapL (Value.int .u32) w7 W.heap.size [(kB, Value.slice Ab 1 cb)] ∧ Ext w w7 ∧ OwnP Rp.u64 w7 any W.heap.size 70 (.slice Ab 1 cb) [i3]) := Lib.hid (fun w7 hm hx => by
        refine ⟨?_, ((E2.toX _).trans hx).toExt (fun k hk => by rcases hk with rfl | rfl <;> omega), ?_⟩
        · have : adel [(kA, Value.slice Aa 2 ca), (kB, Value.slice Ab 1 cb)] kA = [(kB, Value.slice Ab 1 cb)] := by simp [adel, Ne.symm hABn]
          rw [this] at hm; exact hm
        · refine HOB.out.flat' hx (fun k hk hm => ?_) (fun _ _ => trivial)
          have h1 := HOB.out.1 k hk
          have h2 := HOB.out.own k hk
          rcases hm with hm | hm <;> omega)
      replace hABn := Lib.hid hABn
      rcases hkv2 with ⟨rfl, rfl⟩ | ⟨rfl, rfl⟩
      · obtain ⟨w7, hdl, HD, X7, s7⟩ := HI6.del (P := Try.prog) keyU32 Try.underlying133 kA 0
        have X57 : ExtX (fun k => k = W.heap.size ∨ k = wr.heap.size) wr w7 := ((E5.toX _).trans (X6.mono fun _ _ h => .inr h)).trans (X7.mono fun _ _ h => .inl h)
        obtain ⟨HM7, E7, OB7⟩ := hfin.out w7 HD.map X57
        have hw7r : wr.heap.size ≤ w7.heap.size := X57.size
        clear HI HI6 X6 X7 HD X57 E5
        obtain ⟨w8, hrg, HI8, E8, s8⟩ := IterL.start (P := Try.prog) keyU32 HM7 Try.underlying133
        have HOB7 := Lib.hid (OB7.ext E8)
        have HH8 := Lib.hid (HH.out.ext (E7.trans E8))
        have HK8 := Lib.hid (Blk.ext HK.out (E7.trans E8))
        have E78 := E7.trans E8
        have hm7W : W.heap.size < w7.heap.size := HM7.lt
        clear OB7 HM7 s5 s6 s7 s8
        go_wp2_with fail
        clear hrg hdl hnx hen
        refine wp_loop_rounds 2 ?_
        rw [rounds_succ]
        rcases HI8.next (P := Try.prog) keyU32 0 with ⟨h0, _⟩ | ⟨k9, v9, w9, hk9, hkv, hnx, HI9, X9, s9, hen⟩
        · simp at h0
        have hkv2 : kB = k9 ∧ .slice Ab 1 cb = v9 := by
          have h9 := List.mem_singleton.1 hkv; simp only [Prod.mk.injEq] at h9; exact ⟨h9.1.symm, h9.2.symm⟩
        clear hkv hk9
        obtain ⟨rfl, rfl⟩ := hkv2
        have hnb : ∀ k, HPriv b x k → k < w.heap.size := fun k hk => (HH.out.priv hk).2
        have hw7 : w.heap.size ≤ w7.heap.size := E7.size
        have HH9 := Lib.hid (HH8.out.extX X9 (fun k hk hm => by have := hnb k hk; have hm : k = w7.heap.size := hm; omega))
        have HK9 : Hid (CkAt w9 c b latest) := Lib.hid (Blk.extX HK8.out X9 (fun hm => by have hm : c = w7.heap.size := hm; omega))
        have HO9 := Lib.hid (HOB7.out.flat' X9 (fun k hk hm => by have hm : k = w7.heap.size := hm; have h1 := HOB7.out.own k hk; have := HOB.out.own k hk; have h5 := E78.size; have h6 : wr.heap.size ≤ w7.heap.size := hw7r; omega) (ok' := any) (fun _ _ => trivial))
        have k1 := Blk.cell HK9.out (o := 1) rfl
        obtain ⟨Ax, capx, hvx, q1, q2, q3, hrow⟩ := HO9.out.slice
        simp only [List.cons.injEq, Value.slice.injEq, and_true] at hvx
        obtain ⟨rfl, q4, rfl⟩ := hvx
        clear q1 q2 q3 q4 s9
        obtain ⟨bq, oq, rfl, _⟩ := hrow.addr (by simp)
        obtain ⟨_, hcq⟩ := flat_at hrow rfl (k := 0) (x := i3) rfl (Ext.refl w9)
        have c0 := hcq 0 _ rfl
        simp only [Nat.add_zero, ← Nat.add_assoc, Nat.zero_mul] at c0
        clear hcq hrow
        go_wp2_with fail
        refine wp_loop_rounds 2 ?_
        rw [rounds_succ]
        clear hnx hen
        go_wp2_with (go_invoke)
        refine (trigger_any b B x al rl i3 _ HH9.out (by omega)).mono ?_
        rintro e wA ⟨vaa, rfl, hA, XA, hvA⟩
        have HHA := Lib.hid hA
        have HKA : Hid (CkAt wA c b latest) := Lib.hid (Blk.extX HK9.out XA (fun hm => by rcases hm with hm | hm; exact hcb (.inl hm); exact hcb (.inr (.inl hm))))
        have HIA := Lib.hid (HI9.extX XA (fun hm => by rcases hm with hm | hm; omega; have := hnb _ (.inr (.inl hm)); omega) (fun hm => by rcases hm with hm | hm; omega; have := hnb _ (.inr (.inl hm)); omega))
        have XwA : ExtX (fun k => k = c ∨ HPriv b x k) w wA := ((E78.toX (fun k => k = c ∨ HPriv b x k)).trans' X9 (fun k hk hm => by have hm : k = w7.heap.size := hm; omega)).trans' XA (fun k hk hm => .inr (by rcases hm with hm | hm; exact .inl hm; exact .inr (.inl hm)))
        have hprv : Hid (∀ k, HPriv b { x with alarms := vaa } k → HPriv b x k ∨ w.heap.size ≤ k) := Lib.hid (fun k hk => by
          rcases hk with hk | hk | hk
          · exact .inl (.inl hk)
          · rcases hvA with hv | hv
            · exact .inl (.inr (.inl (by rw [← hv]; exact hk)))
            · have h1 := hv k hk.symm; have h2 := X9.size; have h3 := E78.size; exact .inr (by omega)
          · exact .inl (.inr (.inr hk)))
        clear hA XA hvA HI9 k1 c0
        go_wp2_with fail
        rw [rounds_succ]
        go_wp2_with fail
        rw [rounds_succ]
        rcases HIA.out.next (P := Try.prog) keyU32 0 with ⟨h0, hnx⟩ | ⟨k9, v9, wB, hk9, _⟩
        rotate_left
        · simp at hk9
        clear h0
        go_wp2_with fail
        go_ret
        exact ⟨rfl, by unfold latestD; simpa using HKA.out, ⟨vaa, HHA.out, hprv.out⟩, XwA⟩
      · go_wp2_with fail
        rw [rounds_succ]
        clear hnx hen
        rcases HI6.next (P := Try.prog) keyU32 0 with ⟨h0, _⟩ | ⟨k9, v9, wS, hk9, hkv, hnx, HIS, XS, sS, hen⟩
        · exact absurd h0 (by simp [Ne.symm hABn.out, hABn.out])
        have hkv2 : kA = k9 ∧ .slice Aa 2 ca = v9 := by
          rcases List.mem_cons.1 hkv with h9 | h9
          · simp only [Prod.mk.injEq] at h9; exact ⟨h9.1.symm, h9.2.symm⟩
          · have h9 := List.mem_singleton.1 h9; simp only [Prod.mk.injEq] at h9; have := (List.mem_filter.1 hk9).2; simp at this; exact absurd h9.1 this
        clear hkv hk9
        obtain ⟨rfl, rfl⟩ := hkv2
        obtain ⟨w7, hdl, HD, X7, s7⟩ := HIS.del (P := Try.prog) keyU32 Try.underlying133 kA 0
        have X57 : ExtX (fun k => k = W.heap.size ∨ k = wr.heap.size) wr w7 := (((E5.toX _).trans (X6.mono fun _ _ h => .inr h)).trans (XS.mono fun _ _ h => .inr h)).trans (X7.mono fun _ _ h => .inl h)
        obtain ⟨HM7, E7, OB7⟩ := hfin.out w7 HD.map X57
        have hw7r : wr.heap.size ≤ w7.heap.size := X57.size
        clear HI HI6 X6 X7 HD X57 E5 HIS XS sS
        obtain ⟨w8, hrg, HI8, E8, s8⟩ := IterL.start (P := Try.prog) keyU32 HM7 Try.underlying133
        have HOB7 := Lib.hid (OB7.ext E8)
        have HH8 := Lib.hid (HH.out.ext (E7.trans E8))
        have HK8 := Lib.hid (Blk.ext HK.out (E7.trans E8))
        have E78 := E7.trans E8
        have hm7W : W.heap.size < w7.heap.size := HM7.lt
        clear OB7 HM7 s5 s6 s7 s8
        go_wp2_with fail
        clear hrg hdl hnx hen
        refine wp_loop_rounds 2 ?_
        rw [rounds_succ]
        rcases HI8.next (P := Try.prog) keyU32 0 with ⟨h0, _⟩ | ⟨k9, v9, w9, hk9, hkv, hnx, HI9, X9, s9, hen⟩
        · simp at h0
        have hkv2 : kB = k9 ∧ .slice Ab 1 cb = v9 := by
          have h9 := List.mem_singleton.1 hkv; simp only [Prod.mk.injEq] at h9; exact ⟨h9.1.symm, h9.2.symm⟩
        clear hkv hk9
        obtain ⟨rfl, rfl⟩ := hkv2
        have hnb : ∀ k, HPriv b x k → k < w.heap.size := fun k hk => (HH.out.priv hk).2
        have hw7 : w.heap.size ≤ w7.heap.size := E7.size
        have HH9 := Lib.hid (HH8.out.extX X9 (fun k hk hm => by have := hnb k hk; have hm : k = w7.heap.size := hm; omega))
        have HK9 : Hid (CkAt w9 c b latest) := Lib.hid (Blk.extX HK8.out X9 (fun hm => by have hm : c = w7.heap.size := hm; omega))
        have HO9 := Lib.hid (HOB7.out.flat' X9 (fun k hk hm => by have hm : k = w7.heap.size := hm; have h1 := HOB7.out.own k hk; have := HOB.out.own k hk; have h5 := E78.size; have h6 : wr.heap.size ≤ w7.heap.size := hw7r; omega) (ok' := any) (fun _ _ => trivial))
        have k1 := Blk.cell HK9.out (o := 1) rfl
        obtain ⟨Ax, capx, hvx, q1, q2, q3, hrow⟩ := HO9.out.slice
        simp only [List.cons.injEq, Value.slice.injEq, and_true] at hvx
        obtain ⟨rfl, q4, rfl⟩ := hvx
        clear q1 q2 q3 q4 s9
        obtain ⟨bq, oq, rfl, _⟩ := hrow.addr (by simp)
        obtain ⟨_, hcq⟩ := flat_at hrow rfl (k := 0) (x := i3) rfl (Ext.refl w9)
        have c0 := hcq 0 _ rfl
        simp only [Nat.add_zero, ← Nat.add_assoc, Nat.zero_mul] at c0
        clear hcq hrow
        go_wp2_with fail
        refine wp_loop_rounds 2 ?_
        rw [rounds_succ]
        clear hnx hen
        go_wp2_with (go_invoke)
        refine (trigger_any b B x al rl i3 _ HH9.out (by omega)).mono ?_
        rintro e wA ⟨vaa, rfl, hA, XA, hvA⟩
        have HHA := Lib.hid hA
        have HKA : Hid (CkAt wA c b latest) := Lib.hid (Blk.extX HK9.out XA (fun hm => by rcases hm with hm | hm; exact hcb (.inl hm); exact hcb (.inr (.inl hm))))
        have HIA := Lib.hid (HI9.extX XA (fun hm => by rcases hm with hm | hm; omega; have := hnb _ (.inr (.inl hm)); omega) (fun hm => by rcases hm with hm | hm; omega; have := hnb _ (.inr (.inl hm)); omega))
        have XwA : ExtX (fun k => k = c ∨ HPriv b x k) w wA := ((E78.toX (fun k => k = c ∨ HPriv b x k)).trans' X9 (fun k hk hm => by have hm : k = w7.heap.size := hm; omega)).trans' XA (fun k hk hm => .inr (by rcases hm with hm | hm; exact .inl hm; exact .inr (.inl hm)))
        have hprv : Hid (∀ k, HPriv b { x with alarms := vaa } k → HPriv b x k ∨ w.heap.size ≤ k) := Lib.hid (fun k hk => by
          rcases hk with hk | hk | hk
          · exact .inl (.inl hk)
          · rcases hvA with hv | hv
            · exact .inl (.inr (.inl (by rw [← hv]; exact hk)))
            · have h1 := hv k hk.symm; have h2 := X9.size; have h3 := E78.size; exact .inr (by omega)
          · exact .inl (.inr (.inr hk)))
        clear hA XA hvA HI9 k1 c0
        go_wp2_with fail
        rw [rounds_succ]
        go_wp2_with fail
        rw [rounds_succ]
        rcases HIA.out.next (P := Try.prog) keyU32 0 with ⟨h0, hnx⟩ | ⟨k9, v9, wB, hk9, _⟩
        rotate_left
        · simp at hk9
        clear h0
        go_wp2_with fail
        go_ret
        exact ⟨rfl, by unfold latestD; simpa using HKA.out, ⟨vaa, HHA.out, hprv.out⟩, XwA⟩
end Go.Proofs.Ythnhgfpkmbgkdaa
