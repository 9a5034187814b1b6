/-
  FnLruRecent, walked.
-/
import Derived.Test.YtphhkphibdiahaaLw
namespace Go.Proofs.Ytphhkphibdiahaa
open Go.RowKit Go.Sort
set_option linter.unusedSimpArgs false
set_option linter.unusedVariables false

abbrev lastOps : List OpD := [⟨5, 0, 0⟩, ⟨6, 0, 0⟩]
theorem ans_at {size : Int} {ops : List OpD} {k : Nat} {o : OpD} (h : ops[k]? = some o) : (ansP size (ops ++ lastOps) [])[k]? = some (doP size (stP size (ops.take k)) o).2 := by
  have hk := (List.getElem?_eq_some_iff.1 h).1
  have h1 : (ops ++ lastOps)[k]? = some o := by rw [List.getElem?_append_left hk]; exact h
  rw [ansP_get h1, List.take_append_of_le_length (by omega)]; rfl
theorem ans_len {size : Int} {ops : List OpD} : (ansP size (ops ++ lastOps) [])[ops.length]? = some ⟨false, (stP size ops).length, []⟩ := by
  have h1 : (ops ++ lastOps)[ops.length]? = some ⟨5, 0, 0⟩ := by simp
  rw [ansP_get h1, List.take_left']
  · rfl
  · rfl
theorem ans_clear {size : Int} {ops : List OpD} : (ansP size (ops ++ lastOps) [])[ops.length + 1]? = some ⟨false, 0, sortP (stP size ops)⟩ := by
  have h1 : (ops ++ lastOps)[ops.length + 1]? = some ⟨6, 0, 0⟩ := by simp
  rw [ansP_get h1, show (ops ++ lastOps).take (ops.length + 1) = ops ++ [⟨5, 0, 0⟩] by rw [List.take_append, List.take_of_length_le (by omega), show ops.length + 1 - ops.length = 1 by omega]; rfl, show (ops ++ [(⟨5, 0, 0⟩ : OpD)]).foldl (fun L o => (doP size L o).1) [] = stP size (ops ++ [⟨5, 0, 0⟩]) from rfl, stP_snoc]
  rfl
theorem ops2 (w : World) (b : Nat) (hb : Blk w b 32 (opCells ⟨5, 0, 0⟩ ++ opCells ⟨6, 0, 0⟩)) : (Rp.slice Rp.op).K w (fun q => q = b) lastOps [.slice (some ⟨b, 0, none⟩) 2 2] :=
  slice_of_blk (d := Rp.op) (ok := fun q => q = b) (cap := 2) (xs := lastOps) hb rfl (by decide) (fun i x hx => by
      match i, hx with
      | 0, hx => simp at hx; subst hx; exact ⟨rfl, trivial⟩
      | 1, hx => simp at hx; subst hx; exact ⟨rfl, trivial⟩
      | i + 2, hx => simp at hx) (by decide) (by decide)
theorem ExtB.ofGrown {w w' : World} {row : Option Nat} {B : Nat} (h : w.grownBy w' row) (hr : ∀ k, row = some k → B ≤ k) (hB : B ≤ w.heap.size) : ExtB B w w' :=
  ⟨h.os, h.tape, h.output, h.size, fun k hk => h.block k (by omega) (fun e => by have := hr k e.symm; omega)⟩
set_option maxRecDepth 20000 in
set_option maxHeartbeats 2000000 in
theorem walk_LruRecent (size : Int) (ops : List OpD) (v : Value) (w : World) (h : (Rp.slice Rp.op).K w any ops [v]) :
    Calls Try.prog 4 #[.int .i64 size, v] w fun e w' => e = .returned (.bool true) ∧ Ext w w' := by
  have HH := Lib.hid h
  have HGA := Lib.hid (good_any size 2 ops v w h)
  obtain ⟨i0, hi, hz0, hz1, hz2⟩ := info_parts3 infoOp
  obtain ⟨j0, hj, hy0, hy1, hy2⟩ := info_parts3 infoI
  obtain ⟨A, cap, hv, p1, p2, p3, hrow⟩ := h
  simp only [List.cons.injEq, and_true] at hv
  subst hv
  clear hrow
  go_enter Try.func4, Try.ntmps4
  by_cases hbig : (2147483647 : Int) < ops.length
  · have d0 : decide ((2147483647 : Int) < ops.length) = true := decide_eq_true hbig
    go_wp2_with fail
    go_ret
    exact ⟨rfl, Ext.refl _⟩
  have d0 : decide ((2147483647 : Int) < ops.length) = false := decide_eq_false hbig
  go_wp2_with fail
  refine HGA.out.mono ?_
  rintro e w1 ⟨b, rfl, hg, e1⟩
  have HE1 := Lib.hid e1
  clear e1
  cases b with
  | false =>
    clear hg
    go_wp2_with fail
    refine (live_any _).mono ?_
    rintro e w2 ⟨rfl, e2⟩
    have HE2 := Lib.hid e2
    clear e2
    go_wp2_with fail
    go_ret
    exact ⟨rfl, HE1.out.trans HE2.out⟩
  | true =>
  have HG := Lib.hid (hg rfl)
  clear hg
  by_cases hs : size < 1
  · have ds : decide (size < 1) = true := decide_eq_true hs
    go_wp2_with fail
    refine (live_any _).mono ?_
    rintro e w2 ⟨rfl, e2⟩
    have HE2 := Lib.hid e2
    clear e2
    go_wp2_with fail
    go_ret
    exact ⟨rfl, HE1.out.trans HE2.out⟩
  have ds : decide (size < 1) = false := decide_eq_false hs
  have hl4 : ops.length ≤ 400 := HG.out.2.2.1
  go_wp2_with fail
  refine (cloneOp_any ops _ w1 ((Rp.slice Rp.op).ext' HE1.out HH.out) hl4).mono ?_
  rintro e w2 ⟨vc, rfl, oc, e2⟩
  have HOC := Lib.hid oc
  have HE2 := Lib.hid e2
  obtain ⟨Ac, nc, cc, rfl⟩ := own_shape oc
  clear oc e2
  have HR : Hid (∃ v' w', (Builtin.append_ #[22, 22] 22 #[.slice Ac nc cc, .slice (some ⟨w2.heap.size, 0, none⟩) 2 2]).run Try.prog (w2.alloc (.cells (opCells ⟨5, 0, 0⟩ ++ opCells ⟨6, 0, 0⟩).toArray 32)) = .ok v' w' ∧ Hid (OwnP Rp.op w' any w1.heap.size 32 v' (ops ++ lastOps) ∧ Ext w1 w')) := by
    have E0 := (Ext.refl w2).alloc (.cells (opCells ⟨5, 0, 0⟩ ++ opCells ⟨6, 0, 0⟩).toArray 32)
    have K0 := Blk.new w2 32 (opCells ⟨5, 0, 0⟩ ++ opCells ⟨6, 0, 0⟩)
    have oc := HOC.out
    obtain ⟨v', w', hr, ho, hg⟩ := run_app_own (d := Rp.op) 22 22 32 i0 _ 24 Try.underlying22 hi hz0 hz1 hz2 rfl (oc.ext E0) (ops2 _ _ K0) (fun k hk he => by have := (oc.own k he.symm).2; omega) (by simp [maxLen]; omega) (by simp; omega) (Nat.le_trans HE2.out.size E0.size)
    exact Lib.hid ⟨v', w', hr, Lib.hid ⟨ho, (((HE2.out.trans E0).toB (Nat.le_refl _)).trans (ExtB.ofGrown hg (fun k hk => (oc.own k hk).1) (Nat.le_trans HE2.out.size E0.size))).ext⟩⟩
  go_wp2_with (at_builtin; refine wpList_run rfl _ _ 22 rfl rfl rfl HR.out ?_)
  intro v' w' hoe
  have HOE := Lib.hid hoe.out.1
  have HE3 := Lib.hid (HE1.out.trans hoe.out.2)
  obtain ⟨A3, n3, c3, rfl⟩ := own_shape HOE.out
  clear hoe
  have HL := Lib.hid (implLru_any size (ops ++ lastOps) _ w' HOE.out.slice (by simp; omega) HG.out.1 HG.out.2.1 (Lib.hid fun o ho => by
    rcases List.mem_append.1 ho with ho | ho
    · have := HG.out.2.2.2 o ho; omega
    · simp [lastOps] at ho; rcases ho with rfl | rfl <;> simp))
  go_wp2_with fail
  refine HL.out.mono ?_
  rintro e w4 ⟨v4, rfl, ow, e4⟩
  have HE4 := Lib.hid (HE3.out.trans e4)
  have HOW := Lib.hid ow
  obtain ⟨A4, c4, rfl, _⟩ := ow.shape
  rw [ansP_length, show (ops ++ lastOps).length = ops.length + 2 from by simp] at HOW ⊢
  clear ow e4
  go_wp2_with fail
  obtain ⟨sz, hsz⟩ : ∃ sz : Nat, size = (sz : Int) := ⟨size.toNat, by omega⟩
  subst hsz
  have hst := st_inv HG.out.1 ops
  have hkl : (ksP (stP (sz : Int) ops)).length ≤ sz := by have := hst.most (by omega); simp at this ⊢; omega
  have HST := Lib.hid hst
  have HKL := Lib.hid hkl
  clear hst hkl
  go_loopw [6, 7] (fun u i wr => ∃ (k : Nat) (R : List Int), i = .int .i64 ((k : Int) - 1) ∧ k ≤ ops.length ∧ Hid (R.length ≤ sz) ∧ Hid (R.length ≤ ops.length - k) ∧ Hid (fP sz R (ksP (stP (sz : Int) (ops.take k))) = ksP (stP (sz : Int) ops)) ∧ Hid (OwnP Rp.iv wr any w4.heap.size 3 u R) ∧ Ext w4 wr) (fun _ i _ => (intOf i + 1).toNat)
  case atStart => exact ⟨ops.length, [], rfl, Nat.le_refl _, Lib.hid (by simp), Lib.hid (by simp), Lib.hid (by rw [List.take_length]; exact fP_start HKL.out), Lib.hid (OwnP.nil _ _ _ _ _), Ext.refl _⟩
  case round =>
    rename_i u6 u7
    obtain ⟨k, R, rfl, hk, hRs, hRl, hF, hO, hE⟩ := hrel
    obtain ⟨Ar, cr, hur, _⟩ := hO.out.shape
    subst hur
    rcases k with _ | j
    · have hR : ksP (stP (sz : Int) ops) = R := by rw [← hF.out]; exact fP_nil hRs.out
      rw [show ((0 : Nat) : Int) - 1 = -1 from rfl]
      have HRR := Lib.hid hR
      have hr2 : R.length ≤ 2000 := by have := hRl.out; omega
      have HSO := Lib.hid (slicesSort_any _ _ R wr hO.out hr2)
      clear hR hr2
      go_wp2_with fail
      refine HSO.out.mono ?_
      rintro e w5 ⟨rfl, o5, x5⟩
      have E45 : Ext w4 w5 := ((hE.toB (Nat.le_refl _)).trans (x5.toB (fun k hk => (hO.out.own k hk).1) hE.size)).ext
      obtain ⟨bg, og, v1, v2, rfl, _, a1, _, _, _, _⟩ := an_at ((Rp.slice Rp.an).ext' E45 HOW.out.slice) (ans_len (size := (sz : Int)) (ops := ops))
      obtain ⟨bg', og', u1, u2, hA, _, _, e2, _, k1, _⟩ := an_at ((Rp.slice Rp.an).ext' E45 HOW.out.slice) (ans_clear (size := (sz : Int)) (ops := ops))
      simp only [Option.some.injEq, Addr.mk.injEq, and_true] at hA
      obtain ⟨rfl, rfl⟩ := hA
      rw [show (stP (sz : Int) ops).length = R.length from by rw [← HRR.out]; simp] at a1
      have hq : Hid (Calls Try.prog 13 #[u1, .slice Ar R.length cr] w5 fun e w' => e = .returned (.bool true) ∧ Ext w5 w') := Lib.hid ((equal_read _ _ _ _ w5 k1 o5.slice).mono (fun e w' h => by
        rw [show outK (sortP (stP (sz : Int) ops)) = srt R from by rw [srt_keys HST.out.nd, HRR.out]] at h
        simpa using h))
      have HE5 := Lib.hid E45
      obtain ⟨Au, cu, hu1, _⟩ := slice_shape k1
      generalize (outK (sortP (stP (sz : Int) ops))).length = nu at hu1
      subst hu1
      clear o5 x5 E45 k1
      go_wp2_with fail
      refine hq.out.mono ?_
      rintro e w6 ⟨rfl, e6⟩
      have HE6 := Lib.hid e6
      clear e6
      go_wp2_with fail
      refine (live_any _).mono ?_
      rintro e w7 ⟨rfl, e7⟩
      have HE7 := Lib.hid e7
      clear e7
      go_wp2_with fail
      go_ret
      exact ⟨rfl, ((HE4.out.trans HE5.out).trans HE6.out).trans HE7.out⟩
    rw [show ((j + 1 : Nat) : Int) - 1 = (j : Int) by omega]
    by_cases hfull : R.length < sz
    · have dlt : decide ((R.length : Int) < (sz : Int)) = true := decide_eq_true (by omega)
      have hjl : j < ops.length := by omega
      have hjz : (0 : Int) ≤ (j : Int) := by omega
      have djz : decide ((0 : Int) ≤ (j : Int)) = true := decide_eq_true hjz
      obtain ⟨o, ho⟩ : ∃ o, ops[j]? = some o := ⟨_, List.getElem?_eq_getElem hjl⟩
      obtain ⟨A', cap', hv, _, _, _, hrow⟩ := HH.out
      simp only [List.cons.injEq, Value.slice.injEq, and_true, true_and] at hv
      obtain ⟨rfl, rfl⟩ := hv
      obtain ⟨ba, off, rfl, _⟩ := hrow.addr (List.ne_nil_of_length_pos (by omega))
      obtain ⟨_, hc⟩ := flat_at (hrow.ext' (HE4.out.trans hE)) rfl ho
      have c0 := hc 0 _ rfl
      have c1 := hc 1 _ rfl
      simp only [Nat.add_zero, ← Nat.add_assoc] at c0 c1
      obtain ⟨bg, og, v1, v2, rfl, a0, _, _, _, _, _⟩ := an_at ((Rp.slice Rp.an).ext' hE HOW.out.slice) (ans_at ho)
      have hkd := HG.out.2.2.2 o (List.mem_of_getElem? ho)
      have hinv := st_inv HG.out.1 (ops.take j)
      have hjl2 : (j : Int) < (ops.length : Int) := by omega
      have hjl3 : (j : Int) < ((ops.length + 2 : Nat) : Int) := by omega
      by_cases hu : o.kind = 1 ∨ (o.kind = 2 ∧ (doP (sz : Int) (stP (sz : Int) (ops.take j)) o).2.ok = true)
      · have hstep : Hid (fP sz (if o.key ∈ R then R else R ++ [o.key]) (ksP (stP (sz : Int) (ops.take j))) = ksP (stP (sz : Int) ops)) := Lib.hid (by
          rw [← fP_use (by omega) hinv hu, ← stP_take ho]; exact hF.out)
        rcases hu with hu | ⟨hu, hok⟩
        · have t1 : (o.kind == 1) = true := by simp [hu]
          clear hu hkd hinv ho hc hrow
          by_cases hc : o.key ∈ R
          · have tc : R.contains o.key = true := by simpa using hc
            have hF2 : Hid (fP sz R (ksP (stP (sz : Int) (ops.take j))) = ksP (stP (sz : Int) ops)) := Lib.hid (by have := hstep.out; rwa [if_pos hc] at this)
            have hRl2 : Hid (R.length ≤ ops.length - j) := Lib.hid (by have := hRl.out; omega)
            clear hc
            go_wp2_with fail
            refine (contains_read R _ o.key _ hO.out.slice).mono ?_
            rintro e w5 ⟨rfl, rfl⟩
            rw [tc]
            clear tc
            go_wp2_with fail
            go_roundw
            case rel => exact ⟨j, R, rfl, by omega, hRs, hRl2, hF2, hO, hE⟩
            case measure => simp [intOf]
          · have tc : R.contains o.key = false := by simpa using hc
            have hF2 : Hid (fP sz (R ++ [o.key]) (ksP (stP (sz : Int) (ops.take j))) = ksP (stP (sz : Int) ops)) := Lib.hid (by have := hstep.out; rwa [if_neg hc] at this)
            have hRl2 : Hid ((R ++ [o.key]).length ≤ ops.length - j) := Lib.hid (by have := hRl.out; simp; omega)
            have hRs2 : Hid ((R ++ [o.key]).length ≤ sz) := Lib.hid (by simp; omega)
            have HR2 : Hid (∃ v' w', (Builtin.append_ #[34, 34] 34 #[.slice Ar R.length cr, .slice (some ⟨wr.heap.size, 0, none⟩) 1 1]).run Try.prog (wr.alloc (.cells #[.int .i64 o.key] 3)) = .ok v' w' ∧ Hid (OwnP Rp.iv w' any w4.heap.size 3 v' (R ++ [o.key]) ∧ Ext w4 w')) := by
              have E0 := (Ext.refl wr).alloc (.cells #[.int .i64 o.key] 3)
              have K0 : Blk (wr.alloc (.cells #[.int .i64 o.key] 3)) wr.heap.size 3 [.int .i64 o.key] := Blk.new wr 3 [.int .i64 o.key]
              have oc := hO.out
              have hrl := hRl.out
              obtain ⟨v', w', hr, ho, hg⟩ := run_app_own (d := Rp.iv) 34 34 3 j0 _ 8 Try.underlying34 hj hy0 hy1 hy2 rfl (oc.ext E0) (slice_of_blk (d := Rp.iv) (ok := fun q => q = wr.heap.size) (cap := 1) (xs := [o.key]) K0 rfl (show 1 * 1 ≤ 1 by decide) (one_elem (p := fun i y => Rp.iv.K _ (fun q => q = wr.heap.size) y ((([.int .i64 o.key] : List Value).drop (i * Rp.iv.sz)).take Rp.iv.sz)) ⟨rfl, trivial⟩) (Nat.le_refl _) (by decide)) (fun k hk he => by have := (oc.own k he.symm).2; omega) (by simp [maxLen]; omega) (by simp; omega) (Nat.le_trans hE.size E0.size)
              exact Lib.hid ⟨v', w', hr, Lib.hid ⟨ho, (((hE.trans E0).toB (Nat.le_refl _)).trans (ExtB.ofGrown hg (fun k hk => (oc.own k hk).1) (Nat.le_trans hE.size E0.size))).ext⟩⟩
            clear hc
            go_wp2_with fail
            refine (contains_read R _ o.key _ hO.out.slice).mono ?_
            rintro e w5 ⟨rfl, rfl⟩
            rw [tc]
            clear tc
            go_wp2_with (at_builtin; refine wpList_run rfl _ _ 34 rfl rfl rfl HR2.out ?_)
            intro v' w' hoe
            have HOE := Lib.hid hoe.out.1
            have HE6 := hoe.out.2
            obtain ⟨A6, n6, c6, rfl⟩ := own_shape HOE.out
            clear hoe
            go_wp2_with fail
            go_roundw
            case rel => exact ⟨j, R ++ [o.key], rfl, by omega, hRs2, hRl2, hF2, HOE, HE6⟩
            case measure => simp [intOf]
        · have t1 : (o.kind == 1) = false := by simp [hu]
          rw [hok] at a0
          clear hu hok hkd hinv ho hc hrow
          by_cases hc : o.key ∈ R
          · have tc : R.contains o.key = true := by simpa using hc
            have hF2 : Hid (fP sz R (ksP (stP (sz : Int) (ops.take j))) = ksP (stP (sz : Int) ops)) := Lib.hid (by have := hstep.out; rwa [if_pos hc] at this)
            have hRl2 : Hid (R.length ≤ ops.length - j) := Lib.hid (by have := hRl.out; omega)
            clear hc
            go_wp2_with fail
            refine (contains_read R _ o.key _ hO.out.slice).mono ?_
            rintro e w5 ⟨rfl, rfl⟩
            rw [tc]
            clear tc
            go_wp2_with fail
            go_roundw
            case rel => exact ⟨j, R, rfl, by omega, hRs, hRl2, hF2, hO, hE⟩
            case measure => simp [intOf]
          · have tc : R.contains o.key = false := by simpa using hc
            have hF2 : Hid (fP sz (R ++ [o.key]) (ksP (stP (sz : Int) (ops.take j))) = ksP (stP (sz : Int) ops)) := Lib.hid (by have := hstep.out; rwa [if_neg hc] at this)
            have hRl2 : Hid ((R ++ [o.key]).length ≤ ops.length - j) := Lib.hid (by have := hRl.out; simp; omega)
            have hRs2 : Hid ((R ++ [o.key]).length ≤ sz) := Lib.hid (by simp; omega)
            have HR2 : Hid (∃ v' w', (Builtin.append_ #[34, 34] 34 #[.slice Ar R.length cr, .slice (some ⟨wr.heap.size, 0, none⟩) 1 1]).run Try.prog (wr.alloc (.cells #[.int .i64 o.key] 3)) = .ok v' w' ∧ Hid (OwnP Rp.iv w' any w4.heap.size 3 v' (R ++ [o.key]) ∧ Ext w4 w')) := by
              have E0 := (Ext.refl wr).alloc (.cells #[.int .i64 o.key] 3)
              have K0 : Blk (wr.alloc (.cells #[.int .i64 o.key] 3)) wr.heap.size 3 [.int .i64 o.key] := Blk.new wr 3 [.int .i64 o.key]
              have oc := hO.out
              have hrl := hRl.out
              obtain ⟨v', w', hr, ho, hg⟩ := run_app_own (d := Rp.iv) 34 34 3 j0 _ 8 Try.underlying34 hj hy0 hy1 hy2 rfl (oc.ext E0) (slice_of_blk (d := Rp.iv) (ok := fun q => q = wr.heap.size) (cap := 1) (xs := [o.key]) K0 rfl (show 1 * 1 ≤ 1 by decide) (one_elem (p := fun i y => Rp.iv.K _ (fun q => q = wr.heap.size) y ((([.int .i64 o.key] : List Value).drop (i * Rp.iv.sz)).take Rp.iv.sz)) ⟨rfl, trivial⟩) (Nat.le_refl _) (by decide)) (fun k hk he => by have := (oc.own k he.symm).2; omega) (by simp [maxLen]; omega) (by simp; omega) (Nat.le_trans hE.size E0.size)
              exact Lib.hid ⟨v', w', hr, Lib.hid ⟨ho, (((hE.trans E0).toB (Nat.le_refl _)).trans (ExtB.ofGrown hg (fun k hk => (oc.own k hk).1) (Nat.le_trans hE.size E0.size))).ext⟩⟩
            clear hc
            go_wp2_with fail
            refine (contains_read R _ o.key _ hO.out.slice).mono ?_
            rintro e w5 ⟨rfl, rfl⟩
            rw [tc]
            clear tc
            go_wp2_with (at_builtin; refine wpList_run rfl _ _ 34 rfl rfl rfl HR2.out ?_)
            intro v' w' hoe
            have HOE := Lib.hid hoe.out.1
            have HE6 := hoe.out.2
            obtain ⟨A6, n6, c6, rfl⟩ := own_shape HOE.out
            clear hoe
            go_wp2_with fail
            go_roundw
            case rel => exact ⟨j, R ++ [o.key], rfl, by omega, hRs2, hRl2, hF2, HOE, HE6⟩
            case measure => simp [intOf]
      · have h2 : o.kind = 2 := by omega
        have hok : (doP (sz : Int) (stP (sz : Int) (ops.take j)) o).2.ok = false := by
          cases hq : (doP (sz : Int) (stP (sz : Int) (ops.take j)) o).2.ok with
          | false => rfl
          | true => exact absurd (.inr ⟨h2, hq⟩) hu
        have t1 : (o.kind == 1) = false := by simp [h2]
        have hF2 : Hid (fP sz R (ksP (stP (sz : Int) (ops.take j))) = ksP (stP (sz : Int) ops)) := Lib.hid (by rw [← hF.out, stP_take ho, ks_not h2 hok])
        have hRl2 : Hid (R.length ≤ ops.length - j) := Lib.hid (by have := hRl.out; omega)
        rw [hok] at a0
        clear hu h2 hok hkd hinv ho hc hrow
        go_wp2_with fail
        go_roundw
        case rel => exact ⟨j, R, rfl, by omega, hRs, hRl2, hF2, hO, hE⟩
        case measure => simp [intOf]
    · have dlt : decide ((R.length : Int) < (sz : Int)) = false := decide_eq_false (by omega)
      have hR : ksP (stP (sz : Int) ops) = R := by rw [← hF.out]; exact fP_full (by have := hRs.out; omega)
      have HRR := Lib.hid hR
      have hr2 : R.length ≤ 2000 := by have := hRl.out; omega
      have HSO := Lib.hid (slicesSort_any _ _ R wr hO.out hr2)
      clear hR hr2
      go_wp2_with fail
      refine HSO.out.mono ?_
      rintro e w5 ⟨rfl, o5, x5⟩
      have E45 : Ext w4 w5 := ((hE.toB (Nat.le_refl _)).trans (x5.toB (fun k hk => (hO.out.own k hk).1) hE.size)).ext
      obtain ⟨bg, og, v1, v2, rfl, _, a1, _, _, _, _⟩ := an_at ((Rp.slice Rp.an).ext' E45 HOW.out.slice) (ans_len (size := (sz : Int)) (ops := ops))
      obtain ⟨bg', og', u1, u2, hA, _, _, e2, _, k1, _⟩ := an_at ((Rp.slice Rp.an).ext' E45 HOW.out.slice) (ans_clear (size := (sz : Int)) (ops := ops))
      simp only [Option.some.injEq, Addr.mk.injEq, and_true] at hA
      obtain ⟨rfl, rfl⟩ := hA
      rw [show (stP (sz : Int) ops).length = R.length from by rw [← HRR.out]; simp] at a1
      have hq : Hid (Calls Try.prog 13 #[u1, .slice Ar R.length cr] w5 fun e w' => e = .returned (.bool true) ∧ Ext w5 w') := Lib.hid ((equal_read _ _ _ _ w5 k1 o5.slice).mono (fun e w' h => by
        rw [show outK (sortP (stP (sz : Int) ops)) = srt R from by rw [srt_keys HST.out.nd, HRR.out]] at h
        simpa using h))
      have HE5 := Lib.hid E45
      obtain ⟨Au, cu, hu1, _⟩ := slice_shape k1
      generalize (outK (sortP (stP (sz : Int) ops))).length = nu at hu1
      subst hu1
      clear o5 x5 E45 k1
      go_wp2_with fail
      refine hq.out.mono ?_
      rintro e w6 ⟨rfl, e6⟩
      have HE6 := Lib.hid e6
      clear e6
      go_wp2_with fail
      refine (live_any _).mono ?_
      rintro e w7 ⟨rfl, e7⟩
      have HE7 := Lib.hid e7
      clear e7
      go_wp2_with fail
      go_ret
      exact ⟨rfl, ((HE4.out.trans HE5.out).trans HE6.out).trans HE7.out⟩
end Go.Proofs.Ytphhkphibdiahaa
