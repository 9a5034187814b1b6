/-
  The hashes of one revision compared (checkPeerHashes).
-/
import Derived.Test.YthnhgfpkmbgkdaaCg
import Derived.Deep.DeepCutAuto
namespace Go.Proofs.Ythnhgfpkmbgkdaa
open Go.RowKit
set_option linter.unusedSimpArgs false
set_option linter.unusedVariables false

section
variable {P : Program} {ops : Array Oper} {Q : Exit → Act → World → Prop} {R : World → World → Prop} {a : Act} {w : World}
theorem wpS_skip {i : Nat} {r more : Sched} (d : Option Tmp) (o : Oper) (ho : ops[i]? = some o) (hd : o.dst = d) (hw : Region.wanted o (yielded ops a.tmps) = true)
    (h : ∃ w', (execOp a.eval o).run P w = .ok .skip w' ∧ R w w' ∧ wpS P ops Q R r (a.put d undef) w') (hm : wpS P ops Q R more a w) : wpS P ops Q R (.loud i r more) a w := by
  obtain ⟨w', he, hR, h⟩ := h
  exact wpS_val d o undef w' ho hd hw (.inr ⟨rfl, he⟩) hR h hm
end
theorem keyU32 : KeyCls Try.prog 23 (Value.int .u32) := KeyCls.int Try.underlying23
theorem zeroIds (w : World) : (zeroValue 132).run Try.prog w = .ok (.slice none 0 0) w := by kernel_rfl
theorem infoId : (Try.prog.info? 70).map (fun i => (i.zero, i.size, i.bytes)) = some (some (.int .u64 0), 1, 8) := by kernel_rfl
/-- members by their hash -/
def gstep (h : HsD) (gl : List (Int × List Int)) (p : CkD) : List (Int × List Int) :=
  if p.has && p.comp == h.comp then (if p.hash ∈ gl.map (·.1) then gl.map (fun g => if g.1 = p.hash then (p.hash, g.2 ++ [p.id]) else g) else gl ++ [(p.hash, [p.id])]) else gl
def groupOf (own : Int) (h : HsD) (ps : List CkD) : List (Int × List Int) := ps.foldl (gstep h) [(h.hash, [own])]
/-- how many were compared -/
def cntOf (h : HsD) (ps : List CkD) : Nat := (ps.filter (fun p => p.has && p.comp == h.comp)).length
theorem groupOf_snoc {own : Int} {h : HsD} {ps : List CkD} {k : Nat} {p : CkD} (hp : ps[k]? = some p) : groupOf own h (ps.take (k + 1)) = gstep h (groupOf own h (ps.take k)) p := by
  rw [take_snoc' hp]; unfold groupOf; rw [List.foldl_append]; rfl
theorem cntOf_snoc {h : HsD} {ps : List CkD} {k : Nat} {p : CkD} (hp : ps[k]? = some p) : cntOf h (ps.take (k + 1)) = cntOf h (ps.take k) + if p.has && p.comp == h.comp then 1 else 0 := by
  rw [take_snoc' hp]; unfold cntOf; rw [List.filter_append, List.length_append]; congr 1
  cases hc : (p.has && p.comp == h.comp) <;> simp [List.filter_cons, hc]
theorem groupOf_len (own : Int) (h : HsD) (ps : List CkD) : ∀ g ∈ groupOf own h ps, g.2.length ≤ ps.length + 1 := by
  have key : ∀ (ps : List CkD) (gl : List (Int × List Int)) (n : Nat), 1 ≤ n → (∀ g ∈ gl, g.2.length ≤ n) → ∀ g ∈ ps.foldl (gstep h) gl, g.2.length ≤ ps.length + n := by
    intro ps
    induction ps with
    | nil => intro gl n _ hg g hm; have := hg g hm; simpa using this
    | cons p ps ih =>
      intro gl n hn hg g hm
      rw [List.foldl_cons] at hm
      have := ih (gstep h gl p) (n + 1) (by omega) (fun g' hg' => ?_) g hm
      · rw [List.length_cons]; omega
      · unfold gstep at hg'
        split at hg'
        · split at hg'
          · obtain ⟨g0, hg0, rfl⟩ := List.mem_map.1 hg'
            have := hg g0 hg0
            split
            · simp; omega
            · omega
          · rcases List.mem_append.1 hg' with h1 | h1
            · have := hg g' h1; omega
            · rw [List.mem_singleton] at h1; subst h1; simp
        · have := hg g' hg'; omega
  exact key ps _ 1 (Nat.le_refl _) (fun g hg => by rw [List.mem_singleton] at hg; subst hg; simp)
theorem quiet_one (own : Int) (h : HsD) (ps : List CkD) (hq : ∀ p ∈ ps, p.has = true → p.comp = h.comp → p.hash = h.hash) : ∃ ids, groupOf own h ps = [(h.hash, ids)] := by
  have key : ∀ (ps : List CkD) (ids : List Int), (∀ p ∈ ps, p.has = true → p.comp = h.comp → p.hash = h.hash) → ∃ ids', ps.foldl (gstep h) [(h.hash, ids)] = [(h.hash, ids')] := by
    intro ps
    induction ps with
    | nil => intro ids _; exact ⟨ids, rfl⟩
    | cons p ps ih =>
      intro ids hq
      rw [List.foldl_cons]
      have hstep : ∃ ids2, gstep h [(h.hash, ids)] p = [(h.hash, ids2)] := by
        unfold gstep
        by_cases hc : (p.has && p.comp == h.comp) = true
        · rw [if_pos hc]
          simp only [Bool.and_eq_true, beq_iff_eq] at hc
          have := hq p (by simp) hc.1 hc.2
          rw [this]
          exact ⟨ids ++ [p.id], by simp⟩
        · rw [if_neg hc]; exact ⟨ids, rfl⟩
      obtain ⟨ids2, h2⟩ := hstep
      rw [h2]
      exact ih ids2 (fun p' hp' => hq p' (by simp [hp']))
  exact key ps [own] hq
abbrev shapeG (gs : List (Int × Value × List Int)) : List (Int × List Int) := gs.map (fun g => (g.1, g.2.2))
/-- a slice literal of one ID -/
theorem own_lit {w : World} {m : Nat} {x : Int} {b : Nat} (K : Blk w b 70 [.int .u64 x]) (hm : m ≤ b) (hne : b ≠ m) : OwnP Rp.u64 w (fun k => k ≠ m) m 70 (.slice (some ⟨b, 0, none⟩) 1 1) [x] := by
  refine ⟨fun g hg => by simp [Value.ownBlock] at hg; omega, [.int .u64 x], ⟨rfl, .inr ⟨b, 1, #[.int .u64 x], rfl, hm, K, Nat.le_refl _, by decide, rfl, rfl⟩⟩, fun i y hy => ?_⟩
  cases i with
  | zero => simp at hy; subst hy; exact ⟨rfl, trivial⟩
  | succ n => simp at hy
noncomputable def ops_40_16 : Array Oper := opsAt Try.f40 16
noncomputable def ops_40_18 : Array Oper := opsAt Try.f40 18
set_option maxRecDepth 40000 in
set_option maxHeartbeats 8000000 in
theorem check_quiet (c b B : Nat) (x : HSt) (al rl : List Int) (latest : Int) (h : HsD) (ps : List CkD) (v : Value) (w : World) (hK : CkAt w c b latest) (hH : HAt w b B x al rl) (hp : (Rp.slice Rp.pp).K w (fun k => k ≠ c) ps [v]) (hl : ps.length ≤ 12)
    (hq : ∀ p ∈ ps, p.has = true → p.comp = h.comp → p.hash = h.hash) :
    Calls Try.prog 40 #[.pointer (some ⟨c, 0, none⟩), hsV h, v] w (HandAns w c b latest h.rev (cntOf h ps) ps.length) := by
  replace hq := Lib.hid hq
  obtain ⟨A, cap, hv, p1, p2, p3, hrow⟩ := hp
  simp only [List.cons.injEq, and_true] at hv
  subst hv
  have HR := Lib.hid hrow
  have hbw : b < w.heap.size := hH.lt
  have hcw : c < w.heap.size := Blk.lt hK
  have k1 : w.cell? ⟨c, 1, none⟩ = some (.iface 69 (.pointer (some ⟨b, 0, none⟩))) := Blk.cell hK rfl
  obtain ⟨W, hW⟩ : ∃ W, W = w.alloc (.cells (hsCells h).toArray 55) := ⟨_, rfl⟩
  have E0 : Ext w W := by rw [hW]; exact (Ext.refl w).alloc _
  have KH : Blk W w.heap.size 55 (hsCells h) := by rw [hW]; exact Blk.new w _ _
  have k1 := E0.cellS k1
  have h0 := KH.cell (o := 0) rfl
  have HH := Lib.hid hH
  have HK := Lib.hid hK
  have HKH := Lib.hid KH
  have HW := Lib.hid hW
  clear hrow hH hK KH hW
  have hmm := @run_makeMap Try.prog
  have hwW : w.heap.size < W.heap.size := HKH.out.lt
  clear p3
  obtain ⟨m, hm⟩ : ∃ m, m = W.heap.size := ⟨_, rfl⟩
  have EM : Ext W ((W.alloc (.map #[] 0)).alloc (.cells #[.int .u64 x.own] 70)) := ((Ext.refl W).alloc _).alloc _
  have G0 : Grp ((W.alloc (.map #[] 0)).alloc (.cells #[.int .u64 x.own] 70)) m m [] := ⟨(by rw [hm]; exact (MapL.new W).ext ((Ext.refl _).alloc _)), fun g hg => by simp at hg, List.Pairwise.nil, Nat.le_refl _⟩
  have O0 : OwnP Rp.u64 ((W.alloc (.map #[] 0)).alloc (.cells #[.int .u64 x.own] 70)) (fun k => k ≠ m) m 70 (.slice (some ⟨W.heap.size + 1, 0, none⟩) 1 1) [x.own] := own_lit (blk_at _ _ _ _ (by simp)) (by omega) (by omega)
  obtain ⟨w2, hput, G2, X2, s2⟩ := G0.add keyU32 Try.underlying133 (x := h.hash) (by simp) O0 (fun g hg => by simp at hg)
  have HG2 := Lib.hid G2
  have E2 : Ext W w2 := ((EM.toX (fun k => k = m)).trans X2).toExt (fun k hk => by have hk : k = m := hk; omega)
  rw [hm] at hput
  replace hm := Lib.hid hm
  clear G0 O0 G2 EM X2
  go_enter Try.func40, Try.ntmps40
  go_wp2_with fail
  change Calls _ _ _ (w.alloc (.cells (hsCells h).toArray 55)) _
  rw [← HW.out]
  refine (memberID_any b B x al rl W (HH.out.ext E0)).mono ?_
  rintro e w1 ⟨rfl, rfl⟩
  go_wp2_with fail
  go_loopw [9, 37] (fun n i wr => ∃ (k : Nat) (gs : List (Int × Value × List Int)), i = .int .i64 k ∧ k ≤ ps.length ∧ n = .int .i64 (cntOf h (ps.take k) : Nat) ∧ Hid (Grp wr m m gs) ∧ Hid (shapeG gs = groupOf x.own h (ps.take k)) ∧ Ext W wr) (fun _ i _ => ps.length - (intOf i).toNat)
  case atStart => exact ⟨0, _, rfl, Nat.zero_le _, rfl, HG2, Lib.hid rfl, E2⟩
  case round =>
    obtain ⟨k, gs, rfl, hk, rfl, hG, hS, hE⟩ := hrel
    have E2 := E0.trans hE
    by_cases hlt : k < ps.length
    · obtain ⟨p, hp⟩ : ∃ p, ps[k]? = some p := ⟨_, List.getElem?_eq_getElem hlt⟩
      obtain ⟨ba, o, rfl, _⟩ := HR.out.addr (List.ne_nil_of_length_pos (by omega))
      obtain ⟨cs, _, ⟨be, rfl, hpp⟩, hc⟩ := HR.out.at rfl hp
      have cE : wr.cell? ⟨ba, o + k, none⟩ = some (.pointer (some ⟨be, 0, none⟩)) := E2.cellS (by simpa [Rp.pp] using hc 0 (by decide))
      have HPW := Lib.hid hpp.lt
      have HP := Lib.hid hp
      have HG : Hid (Grp wr W.heap.size W.heap.size gs) := Lib.hid (by have := hG.out; rw [hm.out] at this; exact this)
      have GS : Hid (groupOf x.own h (ps.take (k + 1)) = gstep h (groupOf x.own h (ps.take k)) p) := Lib.hid (groupOf_snoc HP.out)
      have CS : Hid (cntOf h (ps.take (k + 1)) = cntOf h (ps.take k) + if p.has && p.comp == h.comp then 1 else 0) := Lib.hid (cntOf_snoc HP.out)
      have hcl : cntOf h (ps.take k) ≤ 12 := by unfold cntOf; exact Nat.le_trans (List.length_filter_le _ _) (by rw [List.length_take]; omega)
      have HPP := Lib.hid (PpAt.heap (fun k hk => E2.2.2.2.2 k hk.2) hpp.lt)
      have KHR := HKH.out.ext hE
      have d1 := KHR.cell (o := 1) rfl
      have hWr := hE.size
      clear hp hc hpp hG KHR
      cases hh : p.has with
      | false =>
        have e2 := pp_no HPP.out hh
        have g1 : Hid (groupOf x.own h (ps.take (k + 1)) = groupOf x.own h (ps.take k)) := Lib.hid (by rw [GS.out]; unfold gstep; rw [hh]; rfl)
        have g2 : Hid (cntOf h (ps.take (k + 1)) = cntOf h (ps.take k)) := Lib.hid (by rw [CS.out, hh]; rfl)
        replace hh := Lib.hid hh
        go_wp2_with fail
        go_roundw
        case rel => exact ⟨k + 1, gs, by go_num, by omega, by rw [g2.out], Lib.hid (by rw [hm.out]; exact HG.out), Lib.hid (by rw [g1.out]; exact hS.out), hE⟩
        case measure => simp [intOf]; omega
      | true =>
        obtain ⟨b2, b3, e0, e2, f0, f1, f2, f3⟩ := pp_yes HPP.out hh
        by_cases hcc : p.comp = h.comp
        · have t1 : (p.comp != h.comp) = false := by simp [hcc]
          have t1' : (p.comp == h.comp) = true := by simp [hcc]
          have hcb : Hid ((p.has && p.comp == h.comp) = true) := Lib.hid (by rw [hh, t1']; rfl)
          have g2 : Hid (cntOf h (ps.take (k + 1)) = cntOf h (ps.take k) + 1) := Lib.hid (by rw [CS.out, hcb.out]; rfl)
          replace hcc := Lib.hid hcc
          replace hh := Lib.hid hh
          go_upto_region 14 with (go_quiet (fail))
          obtain ⟨wd, hwd⟩ : ∃ wd, wd = wr.drewN nq := ⟨_, rfl⟩
          have Ed : Ext wr wd := by rw [hwd]; exact (Ext.refl wr).drewN _
          change Code.wp _ _ _ _ (wr.drewN nq)
          rw [← hwd]
          clear hwd
          have e0 := Ed.cellS e0
          have e2 := Ed.cellS e2
          have f1 := Ed.cellS f1
          have HGd := Lib.hid (HG.out.ext Ed)
          have hbe : be < w.heap.size := HPW.out.1.2
          have hb2 : b2 < w.heap.size := by
            obtain ⟨_, h9⟩ := HPW.out
            rw [if_pos hh.out] at h9
            obtain ⟨b2', b3', o2, _, k1', _, _⟩ := h9
            have h8 := (E2.trans Ed).cellS (k1'.cell (o := 2) rfl)
            rw [e2] at h8
            simp only [Option.some.injEq, Value.pointer.injEq, Addr.mk.injEq, and_true] at h8
            rw [h8]; exact o2.2
          have hbe' : be ≠ W.heap.size := by omega
          have hb2' : b2 ≠ W.heap.size := by omega
          have hWd : W.heap.size ≤ wd.heap.size := Nat.le_trans hWr Ed.size
          have hmd : W.heap.size < wd.heap.size := HGd.out.map.lt
          have Ew : Ext W wd := hE.trans Ed
          have hcw1 : IntKind.i64.wrap ((cntOf h (ps.take k) : Nat) + 1 : Int) = (cntOf h (ps.take k) : Nat) + 1 := IntWalk.i64_in _ (by omega)
          rcases HGd.out.look keyU32 Try.underlying133 (zeroIds wd) p.hash with ⟨hx, hlk⟩ | ⟨v0, ids0, hg, hlk⟩
          · have hx := Lib.hid hx
            have gk : Hid (p.hash ∉ (shapeG gs).map (·.1)) := Lib.hid (by rw [Grp.shape_keys]; exact hx.out)
            have gn : Hid (groupOf x.own h (ps.take (k + 1)) = groupOf x.own h (ps.take k) ++ [(p.hash, [p.id])]) := Lib.hid (by rw [GS.out]; unfold gstep; rw [hcb.out, ← hS.out, if_neg gk.out]; rfl)
            go_wp2_with fail
            refine wp_region_sched (ops := ops_40_16) (ExtX (fun k => k = W.heap.size)) [14] (.quiet 0 (.quiet 1 (.quiet 2 (.quiet 3 (.quiet 4 (.quiet 5 (.quiet 6 (.quiet 7 (.quiet 8 (.quiet 9 (.quiet 10 (.quiet 11 (.quiet 12 (.loud 13 (.last 14 (.done)) (.stop))))))))))))))) (by kernel_rfl) (ExtX.refl (fun k => k = W.heap.size)) (fun _ _ _ => ExtX.trans) (by kernel_rfl) (fun _ _ d _ _ h => by cases d <;> exact h) ?_
            refine wpS_quiet (some 73) { dst := some 73, op := Op.move (Operand.tmp 8), type := _, pos := _, after := _, guard := none } _ rfl rfl (by rfl) (fun wE hE => by (go_simp; try with_reducible rfl)) ?_; simp only [Act.put, List.setIfInBounds_toArray, List.set_cons_zero, List.set_cons_succ]
            refine wpS_quiet (some 74) { dst := some 74, op := Op.move (Operand.tmp 11), type := _, pos := _, after := _, guard := none } _ rfl rfl (by rfl) (fun wE hE => by (go_simp; try with_reducible rfl)) ?_; simp only [Act.put, List.setIfInBounds_toArray, List.set_cons_zero, List.set_cons_succ]
            refine wpS_quiet (some 75) { dst := some 75, op := Op.nilCheck (Operand.tmp 74), type := _, pos := _, after := _, guard := none } _ rfl rfl (by rfl) (fun wE hE => by (go_simp; try with_reducible rfl)) ?_; simp only [Act.put, List.setIfInBounds_toArray, List.set_cons_zero, List.set_cons_succ]
            refine wpS_quiet (some 76) { dst := some 76, op := Op.fieldAddr 100 (Operand.tmp 75) 1, type := _, pos := _, after := _, guard := none } _ rfl rfl (by rfl) (fun wE hE => by (go_simp; try with_reducible rfl)) ?_; simp only [Act.put, List.setIfInBounds_toArray, List.set_cons_zero, List.set_cons_succ]
            refine wpS_quiet (some 77) { dst := some 77, op := Op.load 98 (Operand.tmp 76), type := _, pos := _, after := _, guard := none } _ rfl rfl (by rfl) (fun wE hE => by (have zk0 := hE.cellS (by first | exact hbe' | exact hb2') e0; have zk1 := hE.cellS (by first | exact hbe' | exact hb2') e2; have zk2 := hE.cellS (by first | exact hbe' | exact hb2') f1; go_simp; try with_reducible rfl)) ?_; simp only [Act.put, List.setIfInBounds_toArray, List.set_cons_zero, List.set_cons_succ]
            refine wpS_quiet (some 78) { dst := some 78, op := Op.nilCheck (Operand.tmp 77), type := _, pos := _, after := _, guard := none } _ rfl rfl (by rfl) (fun wE hE => by (go_simp; try with_reducible rfl)) ?_; simp only [Act.put, List.setIfInBounds_toArray, List.set_cons_zero, List.set_cons_succ]
            refine wpS_quiet (some 79) { dst := some 79, op := Op.fieldAddr 105 (Operand.tmp 78) 1, type := _, pos := _, after := _, guard := none } _ rfl rfl (by rfl) (fun wE hE => by (go_simp; try with_reducible rfl)) ?_; simp only [Act.put, List.setIfInBounds_toArray, List.set_cons_zero, List.set_cons_succ]
            refine wpS_quiet (some 80) { dst := some 80, op := Op.load 23 (Operand.tmp 79), type := _, pos := _, after := _, guard := none } _ rfl rfl (by rfl) (fun wE hE => by (have zk0 := hE.cellS (by first | exact hbe' | exact hb2') e0; have zk1 := hE.cellS (by first | exact hbe' | exact hb2') e2; have zk2 := hE.cellS (by first | exact hbe' | exact hb2') f1; go_simp; try with_reducible rfl)) ?_; simp only [Act.put, List.setIfInBounds_toArray, List.set_cons_zero, List.set_cons_succ]
            refine wpS_quiet (some 81) { dst := some 81, op := Op.move (Operand.tmp 11), type := _, pos := _, after := _, guard := none } _ rfl rfl (by rfl) (fun wE hE => by (go_simp; try with_reducible rfl)) ?_; simp only [Act.put, List.setIfInBounds_toArray, List.set_cons_zero, List.set_cons_succ]
            refine wpS_quiet (some 82) { dst := some 82, op := Op.nilCheck (Operand.tmp 81), type := _, pos := _, after := _, guard := none } _ rfl rfl (by rfl) (fun wE hE => by (go_simp; try with_reducible rfl)) ?_; simp only [Act.put, List.setIfInBounds_toArray, List.set_cons_zero, List.set_cons_succ]
            refine wpS_quiet (some 83) { dst := some 83, op := Op.fieldAddr 100 (Operand.tmp 82) 0, type := _, pos := _, after := _, guard := none } _ rfl rfl (by rfl) (fun wE hE => by (go_simp; try with_reducible rfl)) ?_; simp only [Act.put, List.setIfInBounds_toArray, List.set_cons_zero, List.set_cons_succ]
            refine wpS_quiet (some 84) { dst := some 84, op := Op.fieldAddr 97 (Operand.tmp 83) 0, type := _, pos := _, after := _, guard := none } _ rfl rfl (by rfl) (fun wE hE => by (go_simp; try with_reducible rfl)) ?_; simp only [Act.put, List.setIfInBounds_toArray, List.set_cons_zero, List.set_cons_succ]
            refine wpS_quiet (some 85) { dst := some 85, op := Op.load 70 (Operand.tmp 84), type := _, pos := _, after := _, guard := none } _ rfl rfl (by rfl) (fun wE hE => by (have zk0 := hE.cellS (by first | exact hbe' | exact hb2') e0; have zk1 := hE.cellS (by first | exact hbe' | exact hb2') e2; have zk2 := hE.cellS (by first | exact hbe' | exact hb2') f1; go_simp; try with_reducible rfl)) ?_; simp only [Act.put, List.setIfInBounds_toArray, List.set_cons_zero, List.set_cons_succ]
            refine wpS_make (some 86) { dst := some 86, op := Op.buildSlice 131 1 #[(0, Operand.tmp 85)], type := _, pos := _, after := _, guard := none } rfl rfl (by rfl) 70 [.int .u64 p.id] 1 (by go_simp; try rfl) (fun w' h => h.toX _) ?_ trivial
            intro bs wb hb9 eb KB
            simp only [Act.put, List.setIfInBounds_toArray, List.set_cons_zero, List.set_cons_succ]
            obtain rfl : bs = wd.heap.size := hb9
            obtain ⟨w5, hp5, G5, X5, s5⟩ := (HGd.out.ext eb.undrew).add keyU32 Try.underlying133 hx.out (own_lit KB (by omega) (by omega)) (fun g hg k hk he => by have h1 := ((HGd.out.own g hg).own k hk).2; simp [Value.ownBlock] at he; omega)
            refine wpS_lastK none { dst := none, op := Op.mapUpdate 133 (Operand.tmp 73) (Operand.tmp 80) (Operand.tmp 86), type := _, pos := _, after := _, guard := none } rfl rfl (by rfl) ?_
            refine ⟨w5, by (go_simp; try rfl), ?_⟩
            simp only [Act.put, List.setIfInBounds_toArray, List.set_cons_zero, List.set_cons_succ]
            change Exit.inBlock _ _ _ _ _
            have HG5 := Lib.hid G5
            have E5 : Ext W w5 := ((Ew.trans eb.undrew).toX (fun k => k = W.heap.size) |>.trans X5).toExt (fun k hk => Nat.le_of_eq (Eq.symm hk))
            clear G5 X5 hp5 KB eb e0 e2 f1 hlk
            go_wp2_with fail
            go_roundw
            case rel => exact ⟨k + 1, _, by go_num, by omega, by rw [g2.out]; go_num, Lib.hid (by rw [hm.out]; exact HG5.out), Lib.hid (by rw [gn.out, ← hS.out]; exact Grp.shape_add _ _ _), E5⟩
            case measure => simp [intOf]; omega
          · have hg := Lib.hid hg
            have gk : Hid (p.hash ∈ (shapeG gs).map (·.1)) := Lib.hid (by rw [Grp.shape_keys]; exact List.mem_map.2 ⟨_, hg.out, rfl⟩)
            have gn : Hid (groupOf x.own h (ps.take (k + 1)) = (groupOf x.own h (ps.take k)).map (fun g => if g.1 = p.hash then (p.hash, g.2 ++ [p.id]) else g)) := Lib.hid (by rw [GS.out]; unfold gstep; rw [hcb.out, ← hS.out, if_pos gk.out]; rfl)
            have hil : ids0.length ≤ 1000 := by
              have h9 : (p.hash, ids0) ∈ groupOf x.own h (ps.take k) := by rw [← hS.out]; exact List.mem_map.2 ⟨_, hg.out, rfl⟩
              have := groupOf_len x.own h (ps.take k) _ h9
              rw [List.length_take] at this
              simp only at this
              omega
            obtain ⟨i0, hi, hz0, hz1, hz2⟩ := info_parts3 infoId
            have HO9 := Lib.hid (HGd.out.own _ hg.out)
            have hown : Hid (∀ k, v0.ownBlock = some k → W.heap.size ≤ k ∧ k < wd.heap.size) := Lib.hid (fun k hk => HO9.out.own k hk)
            have hwW' := hwW
            go_wp2_with (at_builtin; refine wpList_app (d := Rp.u64) (base := W.heap.size) rfl (.tmp 87) (.tmp 93) 132 rfl 70 i0 _ 8 Try.underlying132 hi hz0 hz1 hz2 rfl (v := v0) rfl (HO9.out.ext ((Ext.refl wd).alloc _)) (fun q hq => by simp at hq; omega) ⟨wd.heap.size, 0, none⟩ 1 [.int .u64 p.id] [p.id] rfl rfl (lit_at _ _ _ _ (by simp)) (one_elem (p := fun i y => (Rp.u64).K _ (fun q => q ≠ W.heap.size ∧ some q ≠ Value.ownBlock v0) y (([.int .u64 p.id].drop (i * (Rp.u64).sz)).take (Rp.u64).sz)) ⟨rfl,trivial⟩) (by simp [maxLen]; omega) (by simp; omega) (by simp; omega) ?_; intro v2 w2 own2 g2 f2; have O2 := Lib.hid own2; have G2 := Lib.hid g2; have F2 := Lib.hid f2; clear own2 g2 f2; obtain ⟨A2, n2, cap2, rfl⟩ := own_shape O2.out; (have X2 : ExtX (fun q => some q = v0.ownBlock) wd w2 := (((Ext.refl wd).alloc _).toX _).grown G2.out (fun k h => h.symm); have hno : ∀ q, q < w.heap.size → ¬ some q = v0.ownBlock := (fun q hq he => by (have := (hown.out q he.symm).1; omega)); have e2 := ExtX.cellS (p := ⟨be, 2, none⟩) X2 (hno be hbe) e2; have f1 := ExtX.cellS (p := ⟨b2, 1, none⟩) X2 (hno b2 hb2) f1; have e0 := ExtX.cellS (p := ⟨be, 0, none⟩) X2 (hno be hbe) e0; obtain ⟨w5, hp5, G5, X5, s5, X6⟩ := HGd.out.put keyU32 Try.underlying133 hg.out X2 O2.out (F2.out.imp (fun h => h) (fun h g hg => by (have := h g hg; simp at this; omega))); have HG5 := Lib.hid G5; have HX5 := Lib.hid X5; clear G5 X5 X6 hno X2))
            have E5 : Ext W w5 := ((Ew.toX (fun k => k = W.heap.size ∨ some k = v0.ownBlock)).trans HX5.out).toExt (fun k hk => by rcases hk with hk | hk; exact Nat.le_of_eq (Eq.symm hk); exact (hown.out k hk.symm).1)
            go_roundw
            case rel => exact ⟨k + 1, _, by go_num, by omega, by rw [g2.out]; go_num, Lib.hid (by rw [hm.out]; exact HG5.out), Lib.hid (by rw [gn.out, ← hS.out]; exact Grp.shape_grow HGd.out.nodup hg.out), E5⟩
            case measure => simp [intOf]; omega
        · have t1 : (p.comp != h.comp) = true := by simp [hcc]
          have t1' : (p.comp == h.comp) = false := by simp [hcc]
          have g1 : Hid (groupOf x.own h (ps.take (k + 1)) = groupOf x.own h (ps.take k)) := Lib.hid (by rw [GS.out]; unfold gstep; rw [hh, t1']; rfl)
          have g2 : Hid (cntOf h (ps.take (k + 1)) = cntOf h (ps.take k)) := Lib.hid (by rw [CS.out, hh, t1']; rfl)
          replace hcc := Lib.hid hcc
          replace hh := Lib.hid hh
          go_wp2_with fail
          go_quiet (fail)
          go_wp2_with fail
          go_roundw
          case rel => exact ⟨k + 1, gs, by go_num, by omega, by rw [g2.out], Lib.hid (by rw [hm.out]; exact HG.out.ext ((Ext.refl _).drewN _)), Lib.hid (by rw [g1.out]; exact hS.out), hE.drewN _⟩
          case measure => simp [intOf]; omega
    · have hkn : Hid (k = ps.length) := Lib.hid (by omega)
      have htk : Hid (ps.take k = ps) := Lib.hid (by rw [hkn.out, List.take_length])
      rw [htk.out]
      have HG : Hid (Grp wr W.heap.size W.heap.size gs) := Lib.hid (by have := hG.out; rw [hm.out] at this; exact this)
      have hS : Hid (shapeG gs = groupOf x.own h ps) := Lib.hid (by rw [hS.out, htk.out])
      clear hG
      obtain ⟨ids, hids⟩ := quiet_one x.own h ps hq.out
      have hlen : ∀ ty, (Builtin.len_ #[133] ty #[.map (some W.heap.size)]).run Try.prog wr = .ok (.int .i64 1) wr := fun ty => by
        have h1 := HG.out.map.length (P := Try.prog) Try.underlying133 ty
        have h2 : gs.length = 1 := by have := congrArg List.length (hS.out.trans hids); simpa [shapeG] using this
        rw [List.length_map, h2] at h1
        exact h1
      have hcl : cntOf h ps ≤ 12 := by unfold cntOf; exact Nat.le_trans (List.length_filter_le _ _) hl
      have KHR := HKH.out.ext hE
      have d0 := KHR.cell (o := 0) rfl
      have d1 := KHR.cell (o := 1) rfl
      have d2 := KHR.cell (o := 2) rfl
      replace hids := Lib.hid hids
      clear KHR
      go_wp2_with fail
      refine (handle_any c b latest h (cntOf h ps : Nat) (ps.length : Nat) wr (Blk.ext HK.out E2)).mono ?_
      rintro e w9 ⟨rfl, hK9, X9⟩
      have H9 := Lib.hid hK9
      have HX9 := Lib.hid X9
      clear hK9 X9 hlen d0 d1 d2
      go_wp2_with fail
      go_ret
      exact ⟨rfl, H9.out, (E2.toX _).trans HX9.out⟩
end Go.Proofs.Ythnhgfpkmbgkdaa
