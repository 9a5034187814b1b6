/-
  FnPeriodicLies walked: one peer lies.
-/
import Derived.Test.YthnhgfpkmbgkdaaDj
import Derived.Handy
import Derived.Deep.Cut
namespace Go.Proofs.Ythnhgfpkmbgkdaa
open Go.RowKit
set_option linter.unusedSimpArgs false
set_option linter.unusedVariables false

/-- how a peer answers: honestly, but for the one at k -/
def lieD (h : HsD) (rev : Int) (k q : Nat) (bz : Int) (i : Nat) (p : CkD) : CkD :=
  if i = k then
    { id := p.id, has := true, err := p.err
      rev := if q % 3 = 0 then rev + 1 else (if rev < p.rev then rev else p.rev)
      comp := if q % 3 = 1 then h.comp + 1 else h.comp
      hash := if q % 3 = 0 then h.hash else if q % 3 = 1 then h.hash else IntKind.u32.wrap (h.hash + bz) }
  else { id := p.id, has := p.has, err := p.err, rev := if rev < p.rev then rev else p.rev, comp := h.comp, hash := h.hash }
def liesD (h : HsD) (rev : Int) (k q : Nat) (bz : Int) (ps : List CkD) : List CkD := ps.mapIdx (lieD h rev k q bz)
theorem lies_snoc {h : HsD} {rev : Int} {k q : Nat} {bz : Int} {ps : List CkD} {j : Nat} {p : CkD} (hp : ps[j]? = some p) : liesD h rev k q bz (ps.take (j + 1)) = liesD h rev k q bz (ps.take j) ++ [lieD h rev k q bz j p] := by
  have hl : (ps.take j).length = j := by rw [List.length_take, Nat.min_eq_left (Nat.le_of_lt (List.getElem?_eq_some_iff.1 hp).1)]
  rw [take_snoc' hp]; unfold liesD; rw [List.mapIdx_concat, hl]
theorem u32_bounds {n : Int} (h : (Lit.int .u32 n).wf = true) : 0 ≤ n ∧ n < 4294967296 := by
  simp [Lit.wf, IntKind.min, IntKind.max, IntKind.signed, IntKind.bits] at h; omega
theorem i64_bounds {n : Int} (h : (Lit.int .i64 n).wf = true) : -9223372036854775808 ≤ n ∧ n < 9223372036854775808 := by
  simp [Lit.wf, IntKind.min, IntKind.max, IntKind.signed, IntKind.bits] at h; omega
theorem lies_find {h : HsD} {rev : Int} {k q : Nat} {bz : Int} (hh : 0 ≤ h.hash ∧ h.hash < 4294967296) (hb : 0 < bz ∧ bz < 4294967296) {ps : List CkD} {pk : CkD} (hk : ps[k]? = some pk) (own : Int) :
    periodicD h h rev own (liesD h rev k q bz ps) = [pk.id] := by
  have hself : selfQ h h = false := by simp [selfQ]
  have hbad : ∀ i p, badQ h h rev (lieD h rev k q bz i p) = decide (i = k) := by
    intro i p
    unfold lieD
    by_cases hik : i = k
    · rw [if_pos hik]
      unfold badQ
      simp only [hik, decide_true, Bool.true_and]
      by_cases h0 : q % 3 = 0
      · simp [h0]; omega
      · by_cases h1 : q % 3 = 1
        · simp [h1]; right; omega
        · simp only [h0, h1, if_false]
          have : IntKind.u32.wrap (h.hash + bz) ≠ h.hash := by simp only [IntKind.wrap_u32]; omega
          simp [this]
    · rw [if_neg hik]
      unfold badQ
      simp only [hik, decide_false]
      have : ¬ (rev < if rev < p.rev then rev else p.rev) := by split <;> omega
      simp [this]
  have key : ∀ (ps : List CkD) (n : Nat), k ≥ n → ∀ pk, ps[k - n]? = some pk → ((ps.mapIdx (fun i p => lieD h rev k q bz (i + n) p)).find? (badQ h h rev)) = some (lieD h rev k q bz k pk) := by
    intro ps
    induction ps with
    | nil => intro n _ pk hpk; simp at hpk
    | cons p ps ih =>
      intro n hn pk hpk
      rw [List.mapIdx_cons, List.find?_cons, Nat.zero_add, hbad]
      by_cases hkn : n = k
      · subst hkn
        rw [Nat.sub_self] at hpk
        simp at hpk
        subst hpk
        simp
      · have h1 : k - n = (k - (n + 1)) + 1 := by omega
        rw [h1] at hpk
        simp only [List.getElem?_cons_succ] at hpk
        simp only [hkn, decide_false]
        have := ih (n + 1) (by omega) pk hpk
        have hfun : (fun i p => lieD h rev k q bz (i + 1 + n) p) = (fun i p => lieD h rev k q bz (i + (n + 1)) p) := by funext i p; congr 1; omega
        rw [hfun]; exact this
  have hf := key ps 0 (by omega) pk (by simpa using hk)
  unfold periodicD liesD
  rw [hself]
  simp only [Nat.add_zero] at hf
  simp only [Bool.false_eq_true, if_false]
  rw [hf]
  simp [lieD]
theorem infoCk : (Try.prog.info? 30).map (fun i => (i.zero, i.size, i.bytes)) = some (some (.agg #[.int .u64 0, .bool false, .int .u32 0, .int .i64 0, .int .i64 0, .int .i64 0]), 6, 40) := by kernel_rfl
theorem lieD_wf {h : HsD} {rev : Int} {k q : Nat} {bz : Int} (hw : h.wf) (hr : (Lit.int .i64 rev).wf = true) (hr2 : rev ≤ 4611686018427387904) (hc2 : h.comp ≤ 4611686018427387904) {p : CkD} (hp : p.wf) (i : Nat) : (lieD h rev k q bz i p).wf := by
  obtain ⟨w1, w2, w3⟩ := hw
  obtain ⟨p1, p2, p3, p4, p5⟩ := hp
  have b2 := i64_bounds w2
  have br := i64_bounds hr
  have bp := i64_bounds p4
  have hmin : (Lit.int .i64 (if rev < p.rev then rev else p.rev)).wf = true := WalkArith.wf_i64 (by split <;> omega)
  unfold lieD
  split
  · refine ⟨p1, ?_, ?_, ?_, p5⟩
    · show (Lit.int .u32 (if q % 3 = 0 then h.hash else if q % 3 = 1 then h.hash else IntKind.u32.wrap (h.hash + bz))).wf = true
      split
      · exact w1
      · split
        · exact w1
        · exact WalkArith.wf_u32 (by simp only [IntKind.wrap_u32]; omega)
    · show (Lit.int .i64 (if q % 3 = 1 then h.comp + 1 else h.comp)).wf = true
      split
      · exact WalkArith.wf_i64 (by omega)
      · exact w2
    · show (Lit.int .i64 (if q % 3 = 0 then rev + 1 else (if rev < p.rev then rev else p.rev))).wf = true
      split
      · exact WalkArith.wf_i64 (by omega)
      · exact hmin
  · exact ⟨p1, w1, w2, hmin, p5⟩
noncomputable def ops_7_10 : Array Oper := opsAt Try.f7 10
noncomputable def ops_7_21 : Array Oper := opsAt Try.f7 21
set_option maxRecDepth 40000 in
set_option maxHeartbeats 8000000 in
theorem walk_PeriodicLies (h : HsD) (rev own : Int) (ps : List CkD) (v : Value) (who how bz : Int) (w : World) (hp : (Rp.slice Rp.ck).K w any ps [v]) (hw : h.wf) (hr : (Lit.int .i64 rev).wf = true) (hwho : (Lit.int .i64 who).wf = true) (hhow : (Lit.int .i64 how).wf = true) (hbz : (Lit.int .u32 bz).wf = true) :
    Calls Try.prog 7 #[hsV h, .int .i64 rev, .int .u64 own, v, .int .i64 who, .int .i64 how, .int .u32 bz] w fun e w' => e = .returned (.bool true) ∧ Ext w w' := by
  have HP := Lib.hid hp
  obtain ⟨A, cap, hv, p1, p2, p3, hrow⟩ := id hp
  simp only [List.cons.injEq, and_true] at hv
  subst hv
  have HR := Lib.hid hrow
  clear hp hrow p3
  have b1 := i64_bounds hr
  have b2 := i64_bounds hwho
  have b3 := i64_bounds hhow
  have b4 := u32_bounds hbz
  have bh := u32_bounds hw.1
  have bc := i64_bounds hw.2.1
  have HW := Lib.hid hw
  have HRW := Lib.hid hr
  clear hw hr hwho hhow hbz
  obtain ⟨W, hW⟩ : ∃ W, W = w.alloc (.cells (hsCells h).toArray 25) := ⟨_, rfl⟩
  have E0 : Ext w W := by rw [hW]; exact (Ext.refl w).alloc _
  have KH : Blk W w.heap.size 25 (hsCells h) := by rw [hW]; exact Blk.new w _ _
  have HWW := Lib.hid hW
  clear hW
  go_enter Try.func7, Try.ntmps7
  by_cases hbig : (2147483647 : Int) < ps.length
  · go_wp2_with fail
    go_ret
    exact ⟨rfl, (Ext.refl w).alloc _⟩
  have hsm : decide ((2147483647 : Int) < ps.length) = false := decide_eq_false hbig
  go_wp2_with fail
  change Calls _ _ _ (w.alloc (.cells (hsCells h).toArray 25)) _
  rw [← HWW.out]
  refine (peersGood_any own ps _ W ((Rp.slice Rp.ck).ext' E0 HP.out)).mono ?_
  rintro e w1 ⟨c, rfl, hg, E1⟩
  have HG := Lib.hid hg
  have E01 := E0.trans E1
  clear hg hbig hsm
  cases c with
  | false =>
    go_wp2_with fail
    go_ret
    exact ⟨rfl, E01⟩
  | true =>
    have hl : ps.length ≤ 1000 := by have := HG.out rfl; omega
    have KH1 := KH.ext E1
    have k1 := KH1.cell (o := 1) rfl
    by_cases h0 : ps.length = 0
    · have g0 : ((ps.length : Int) == 0) = true := by simp [h0]
      go_wp2_with fail
      go_ret
      exact ⟨rfl, E01⟩
    have g0 : ((ps.length : Int) == 0) = false := beq_eq_false_iff_ne.2 (fun h => h0 (by omega))
    by_cases h1 : who < 0
    · have g1 : decide (who < 0) = true := decide_eq_true h1
      go_wp2_with fail
      go_ret
      exact ⟨rfl, E01⟩
    have g1 : decide (who < 0) = false := decide_eq_false h1
    by_cases h2 : how < 0
    · have g2 : decide (how < 0) = true := decide_eq_true h2
      go_wp2_with fail
      go_ret
      exact ⟨rfl, E01⟩
    have g2 : decide (how < 0) = false := decide_eq_false h2
    by_cases h3 : bz = 0
    · have g3 : (bz == 0) = true := by simp [h3]
      replace h3 := Lib.hid h3
      go_wp2_with fail
      go_ret
      exact ⟨rfl, E01⟩
    have g3 : (bz == 0) = false := by simp [h3]
    by_cases h4 : 4611686018427387904 < rev
    · have g4 : decide (4611686018427387904 < rev) = true := decide_eq_true h4
      go_wp2_with fail
      go_ret
      exact ⟨rfl, E01⟩
    have g4 : decide (4611686018427387904 < rev) = false := decide_eq_false h4
    by_cases h5 : 4611686018427387904 < h.comp
    · have g5 : decide (4611686018427387904 < h.comp) = true := decide_eq_true h5
      go_wp2_with fail
      go_ret
      exact ⟨rfl, E01⟩
    have g5 : decide (4611686018427387904 < h.comp) = false := decide_eq_false h5
    obtain ⟨m, rfl⟩ := Int.eq_ofNat_of_zero_le (by omega : 0 ≤ who)
    obtain ⟨q, rfl⟩ := Int.eq_ofNat_of_zero_le (by omega : 0 ≤ how)
    have hkl : m % ps.length < ps.length := Nat.mod_lt _ (by omega)
    have hkk : ((m : Int) % (ps.length : Int)) = ((m % ps.length : Nat) : Int) := by omega
    obtain ⟨kk, hkd⟩ : ∃ kk, kk = m % ps.length := ⟨_, rfl⟩
    rw [← hkd] at hkl hkk
    replace hkd := Lib.hid hkd
    have HKK := Lib.hid hkk
    clear hkk k1 g0 g1 g2 g3 g4 g5
    have K1x := KH1.cell (o := 1) rfl
    have hb0 : (bz == 0) = false := by simp [h3]
    have hn0 : ((ps.length : Int) == 0) = false := beq_eq_false_iff_ne.2 (fun h => h0 (by omega))
    go_wp2_with fail
    clear hb0 hn0 K1x
    have hw1 : w.heap.size < w1.heap.size := KH1.lt
    go_loopw [16, 58] (fun o i wr => ∃ j : Nat, i = .int .i64 j ∧ j ≤ ps.length ∧ Hid (OwnP Rp.ck wr (fun k => w1.heap.size ≤ k) w1.heap.size 30 o (liesD h rev kk q bz (ps.take j))) ∧ Ext w1 wr) (fun _ i _ => ps.length - (intOf i).toNat)
    case atStart => exact ⟨0, rfl, Nat.zero_le _, Lib.hid (OwnP.nil _ _ _ _ _), Ext.refl _⟩
    case round =>
      obtain ⟨j, rfl, hj, hO, hE⟩ := hrel
      by_cases hlt : j < ps.length
      · obtain ⟨p, hp⟩ : ∃ p, ps[j]? = some p := ⟨_, List.getElem?_eq_getElem hlt⟩
        obtain ⟨ba, o, rfl, _⟩ := HR.out.addr (List.ne_nil_of_length_pos (by omega))
        obtain ⟨hpw, hc⟩ := flat_at HR.out rfl hp (E01.trans hE)
        have c0 := hc 0 _ rfl
        have c1 := hc 1 _ rfl
        have c2 := hc 2 _ rfl
        have c3 := hc 3 _ rfl
        have c4 := hc 4 _ rfl
        have c5 := hc 5 _ rfl
        simp only [Nat.add_zero, ← Nat.add_assoc] at c0 c1 c2 c3 c4 c5
        have HPJ := Lib.hid hp
        have HPW := Lib.hid hpw
        have KHr := KH1.ext hE
        clear hp hc hpw
        have hwr := hE.size
        go_upto_region 10 with fail
        obtain ⟨W2, hW2⟩ : ∃ W, W = wr.alloc (.cells (ckCells p).toArray 30) := ⟨_, rfl⟩
        have E2 : Ext wr W2 := by rw [hW2]; exact (Ext.refl wr).alloc _
        have K2 : Blk W2 wr.heap.size 30 (ckCells p) := by rw [hW2]; exact Blk.new wr _ _
        change Code.wp _ _ _ _ (wr.alloc (.cells (ckCells p).toArray 30))
        rw [← hW2]
        clear hW2 c0 c1 c2 c3 c4 c5
        have d0 := (KHr.ext E2).cell (o := 0) rfl
        have d1 := (KHr.ext E2).cell (o := 1) rfl
        have s4 := K2.cell (o := 4) rfl
        have hne : ¬ (w.heap.size = wr.heap.size) := by omega
        refine wp_region_sched (ops := ops_7_10) (ExtX (fun k => k = wr.heap.size)) [13] (.quiet 0 (.quiet 2 (.quiet 4 (.quiet 5 (.quiet 6 (.quiet 7 (.loud 1 (.loud 3 (.quiet 8 (.loud 9 (.quiet 10 (.loud 11 (.quiet 12 (.last 13 (.done))) (.stop))) (.stop))) (.stop)) (.stop)))))))) (by kernel_rfl) (ExtX.refl (fun k => k = wr.heap.size)) (fun _ _ _ => ExtX.trans) (by kernel_rfl) (fun _ _ d _ _ h => by cases d <;> exact h) ?_
        refine wpS_quiet (some 63) { dst := some 63, op := Op.fieldAddr 30 (Operand.tmp 18) 4, type := _, pos := _, after := _, guard := none } _ rfl rfl (by rfl) (fun wE hE => by (go_simp; try with_reducible rfl)) ?_; simp only [Act.put, List.setIfInBounds_toArray, List.set_cons_zero, List.set_cons_succ]
        refine wpS_quiet (some 65) { dst := some 65, op := Op.move (Operand.tmp 1), type := _, pos := _, after := _, guard := none } _ rfl rfl (by rfl) (fun wE hE => by (go_simp; try with_reducible rfl)) ?_; simp only [Act.put, List.setIfInBounds_toArray, List.set_cons_zero, List.set_cons_succ]
        refine wpS_quiet (some 67) { dst := some 67, op := Op.fieldAddr 25 (Operand.tmp 7) 1, type := _, pos := _, after := _, guard := none } _ rfl rfl (by rfl) (fun wE hE => by (go_simp; try with_reducible rfl)) ?_; simp only [Act.put, List.setIfInBounds_toArray, List.set_cons_zero, List.set_cons_succ]
        refine wpS_quiet (some 68) { dst := some 68, op := Op.load 2 (Operand.tmp 67), type := _, pos := _, after := _, guard := none } _ rfl rfl (by rfl) (fun wE hE => by (have zk0 := hE.cellS hne d0; have zk1 := hE.cellS hne d1; go_simp; try with_reducible rfl)) ?_; simp only [Act.put, List.setIfInBounds_toArray, List.set_cons_zero, List.set_cons_succ]
        refine wpS_quiet (some 69) { dst := some 69, op := Op.fieldAddr 25 (Operand.tmp 7) 0, type := _, pos := _, after := _, guard := none } _ rfl rfl (by rfl) (fun wE hE => by (go_simp; try with_reducible rfl)) ?_; simp only [Act.put, List.setIfInBounds_toArray, List.set_cons_zero, List.set_cons_succ]
        refine wpS_quiet (some 70) { dst := some 70, op := Op.load 23 (Operand.tmp 69), type := _, pos := _, after := _, guard := none } _ rfl rfl (by rfl) (fun wE hE => by (have zk0 := hE.cellS hne d0; have zk1 := hE.cellS hne d1; go_simp; try with_reducible rfl)) ?_; simp only [Act.put, List.setIfInBounds_toArray, List.set_cons_zero, List.set_cons_succ]
        refine wpS_upd (some 64) { dst := some 64, op := Op.load 2 (Operand.tmp 63), type := _, pos := _, after := _, guard := none } rfl rfl (by rfl) ?_ trivial
        refine ⟨.int .i64 p.rev, W2.drew, by go_simp; try rfl, ExtX.refl _ _, ?_⟩
        simp only [Act.put, List.setIfInBounds_toArray, List.set_cons_zero, List.set_cons_succ]
        refine wpS_upd (some 66) { dst := some 66, op := Op.call { callee := Callee.builtin Builtin.min, args := #[Operand.tmp 64, Operand.tmp 65], argTypes := #[2, 2] }, type := _, pos := _, after := _, guard := none } rfl rfl (by rfl) ?_ trivial
        refine ⟨.int .i64 (if rev < p.rev then rev else p.rev), W2.drew, by go_simp; try rfl, ExtX.refl _ _, ?_⟩
        simp only [Act.put, List.setIfInBounds_toArray, List.set_cons_zero, List.set_cons_succ]
        refine wpS_quiet (some 71) { dst := some 71, op := Op.fieldAddr 30 (Operand.tmp 18) 4, type := _, pos := _, after := _, guard := none } _ rfl rfl (by rfl) (fun wE hE => by (go_simp; try with_reducible rfl)) ?_; simp only [Act.put, List.setIfInBounds_toArray, List.set_cons_zero, List.set_cons_succ]
        refine wpS_storeL none { dst := none, op := Op.store 2 (Operand.tmp 71) (Operand.tmp 66), type := _, pos := _, after := _, guard := none } rfl rfl (by rfl) (.tmp 71) (.tmp 66) 2 rfl rfl rfl rfl K2.drew rfl (Nat.le_of_ble_eq_true rfl) rfl (fun w' x => x) ?_ trivial
        intro wA KA xA
        simp only [Act.put, List.setIfInBounds_toArray, List.set_cons_zero, List.set_cons_succ]
        refine wpS_quiet (some 72) { dst := some 72, op := Op.fieldAddr 30 (Operand.tmp 18) 3, type := _, pos := _, after := _, guard := none } _ rfl rfl (by rfl) (fun wE hE => by (go_simp; try with_reducible rfl)) ?_; simp only [Act.put, List.setIfInBounds_toArray, List.set_cons_zero, List.set_cons_succ]
        refine wpS_storeL none { dst := none, op := Op.store 2 (Operand.tmp 72) (Operand.tmp 68), type := _, pos := _, after := _, guard := none } rfl rfl (by rfl) (.tmp 72) (.tmp 68) 2 rfl rfl rfl rfl KA rfl (Nat.le_of_ble_eq_true rfl) rfl (fun w' x => x) ?_ trivial
        intro wB KB xB
        simp only [Act.put, List.setIfInBounds_toArray, List.set_cons_zero, List.set_cons_succ]
        refine wpS_quiet (some 73) { dst := some 73, op := Op.fieldAddr 30 (Operand.tmp 18) 2, type := _, pos := _, after := _, guard := none } _ rfl rfl (by rfl) (fun wE hE => by (go_simp; try with_reducible rfl)) ?_; simp only [Act.put, List.setIfInBounds_toArray, List.set_cons_zero, List.set_cons_succ]
        refine wpS_store none { dst := none, op := Op.store 23 (Operand.tmp 73) (Operand.tmp 70), type := _, pos := _, after := _, guard := none } rfl rfl (by rfl) (.tmp 73) (.tmp 70) 23 rfl rfl rfl rfl KB rfl (Nat.le_of_ble_eq_true rfl) rfl ?_
        intro wC KCx xC
        simp only [Act.put, List.setIfInBounds_toArray, List.set_cons_zero, List.set_cons_succ]
        change Exit.then _ _ _ _ _
        obtain ⟨y, hy⟩ : ∃ y : CkD, y = { id := p.id, has := p.has, err := p.err, rev := if rev < p.rev then rev else p.rev, comp := h.comp, hash := h.hash } := ⟨_, rfl⟩
        have KC : Blk wC wr.heap.size 30 (ckCells y) := by rw [hy]; exact KCx
        have X2C : ExtX (fun k => k = wr.heap.size) W2 wC := (xA.trans xB).trans xC
        have E2C : Ext wr wC := ((E2.toX (fun k => k = wr.heap.size)).trans X2C).toExt (fun k hk => by have hk : k = wr.heap.size := hk; omega)
        have KHC := KHr.ext E2C
        clear KCx xA xB xC KA KB X2C s4 d0 d1
        have hpf : Hid (∀ q, wr.heap.size ≤ q → w1.heap.size ≤ q) := Lib.hid (fun q hq => Nat.le_trans hwr hq)
        have hO16 := Lib.hid (fun q (hq : u16.ownBlock = some q) => hO.out.own q hq)
        have hll : (liesD h rev kk q bz (ps.take j)).length ≤ 1000 := by unfold liesD; rw [List.length_mapIdx, List.length_take]; omega
        obtain ⟨i0, hi, hz0, hz1, hz2⟩ := info_parts3 infoCk
        by_cases hjk : j = kk
        · have t1 : ((j : Int) == (m : Int) % (ps.length : Int)) = true := by rw [HKK.out, hjk]; simp
          have f1 := KC.frozen 1
          have f2 := KC.frozen 2
          have f3 := KC.frozen 3
          have f4 := KC.frozen 4
          have y1 := KC.cell (o := 1) rfl
          have y2 := KC.cell (o := 2) rfl
          have y3 : wC.cell? ⟨wr.heap.size, 3, none⟩ = some (.int .i64 h.comp) := by rw [hy] at KC; exact KC.cell (o := 3) rfl
          have y4 := KC.cell (o := 4) rfl
          have d0 := KHC.cell (o := 0) rfl
          have d1 := KHC.cell (o := 1) rfl
          have HJK := Lib.hid hjk
          clear hjk
          have hy0 := hy
          replace hy := Lib.hid hy
          by_cases hq0 : q % 3 = 0
          · have t2 : ((q : Int) % 3 == 0) = true := by simp; omega
            have HQ := Lib.hid hq0
            clear hq0 hy0
            go_upto_region 19 with fail
            replace hy := hy.out
            obtain ⟨z, hz⟩ : ∃ z : CkD, z = lieD h rev kk q bz j p := ⟨_, rfl⟩
            obtain ⟨wD, hwD⟩ : ∃ W, W = ((wC.setCell ⟨wr.heap.size, 1, none⟩ (.bool true)).setCell ⟨wr.heap.size, 4, none⟩ (.int .i64 (rev + 1))) := ⟨_, rfl⟩
            have hzv : z = ({ id := p.id, has := true, err := p.err, rev := rev + 1, comp := h.comp, hash := h.hash } : CkD) := by rw [hz, (by unfold lieD; rw [if_pos HJK.out]; simp [HQ.out] : lieD h rev kk q bz j p = { id := p.id, has := true, err := p.err, rev := rev + 1, comp := h.comp, hash := h.hash })]
            have KD : Blk wD wr.heap.size 30 (ckCells z) := by rw [hwD, hzv]; exact ((hy ▸ KC).setCell 1 (.bool true)).setCell 4 (.int .i64 (rev + 1))
            have XD : ExtX (fun k => k = wr.heap.size) wC wD := by rw [hwD]; exact (ExtX.setCell (M := fun k => k = wr.heap.size) (ExtX.setCell (M := fun k => k = wr.heap.size) (ExtX.refl _ wC) (p := ⟨wr.heap.size, 1, none⟩) rfl _) (p := ⟨wr.heap.size, 4, none⟩) rfl _)
            change Code.wp _ _ _ _ (((wC.setCell ⟨wr.heap.size, 1, none⟩ (.bool true)).setCell ⟨wr.heap.size, 4, none⟩ (.int .i64 (rev + 1))))
            rw [← hwD]
            have HZ := Lib.hid hz
            have ED : Ext wr wD := ((E2C.toX (fun k => k = wr.heap.size)).trans XD).toExt (fun k hk => by have hk : k = wr.heap.size := hk; omega)
            have HED := Lib.hid ED
            have HZW : Hid z.wf := Lib.hid (by rw [hz]; exact lieD_wf HW.out HRW.out (by omega) (by omega) HPW.out j)
            have hwd := ED.size
            clear hwD hz hzv XD ED f1 f2 f3 f4 y1 y2 y3 y4 d0 d1
            have s0 := KD.cell (o := 0) rfl
            have s1 := KD.cell (o := 1) rfl
            have s2 := KD.cell (o := 2) rfl
            have s3 := KD.cell (o := 3) rfl
            have s4 := KD.cell (o := 4) rfl
            have s5 := KD.cell (o := 5) rfl
            go_wp2_with (at_builtin; refine wpList_app (d := Rp.ck) (base := w1.heap.size) rfl (.tmp 96) (.tmp 98) 26 rfl 30 i0 _ 40 Try.underlying26 hi hz0 hz1 hz2 rfl (v := u16) rfl (hO.out.ext (HED.out.trans ((Ext.refl wD).alloc _))) (fun q hq => by simp at hq; omega) ⟨wD.heap.size, 0, none⟩ 1 (ckCells z) [z] rfl rfl (lit_at _ _ _ _ (by simp)) (one_elem (p := fun i y => (Rp.ck).K _ (fun q => (w1.heap.size ≤ q) ∧ some q ≠ Value.ownBlock u16) y (((ckCells z).drop (i * (Rp.ck).sz)).take (Rp.ck).sz)) ⟨rfl,HZW.out⟩) (by simp [maxLen]; omega) (by simp; omega) (by simp; omega) ?_; intro v2 w2 own2 g2 f2; have O2 := Lib.hid own2; have G2 := Lib.hid g2; have F2 := Lib.hid f2; clear own2 g2 f2; obtain ⟨A2, n2, cap2, rfl⟩ := own_shape O2.out; skip)
            have E3 : Ext w1 w2 := ext_app hE (HED.out.trans ((Ext.refl wD).alloc _)) (fun k hk => (hO16.out k hk).1) G2.out
            go_wp2_with fail
            go_roundw
            case rel => exact ⟨j + 1, by go_num, by omega, Lib.hid (by rw [lies_snoc HPJ.out, ← HZ.out]; exact O2.out), E3⟩
            case measure => simp [intOf]; omega
          · have t2 : ((q : Int) % 3 == 0) = false := beq_eq_false_iff_ne.2 (by omega)
            have HQ := Lib.hid hq0
            by_cases hq1 : q % 3 = 1
            · have t3 : ((q : Int) % 3 == 1) = true := by simp; omega
              replace HQ := Lib.hid hq1
              clear hq0 hq1 hy0
              go_upto_region 19 with fail
              replace hy := hy.out
              obtain ⟨z, hz⟩ : ∃ z : CkD, z = lieD h rev kk q bz j p := ⟨_, rfl⟩
              obtain ⟨wD, hwD⟩ : ∃ W, W = ((wC.setCell ⟨wr.heap.size, 1, none⟩ (.bool true)).setCell ⟨wr.heap.size, 3, none⟩ (.int .i64 (h.comp + 1))) := ⟨_, rfl⟩
              have hzv : z = ({ id := p.id, has := true, err := p.err, rev := if rev < p.rev then rev else p.rev, comp := h.comp + 1, hash := h.hash } : CkD) := by rw [hz, (by unfold lieD; rw [if_pos HJK.out]; simp [HQ.out] : lieD h rev kk q bz j p = { id := p.id, has := true, err := p.err, rev := if rev < p.rev then rev else p.rev, comp := h.comp + 1, hash := h.hash })]
              have KD : Blk wD wr.heap.size 30 (ckCells z) := by rw [hwD, hzv]; exact ((hy ▸ KC).setCell 1 (.bool true)).setCell 3 (.int .i64 (h.comp + 1))
              have XD : ExtX (fun k => k = wr.heap.size) wC wD := by rw [hwD]; exact (ExtX.setCell (M := fun k => k = wr.heap.size) (ExtX.setCell (M := fun k => k = wr.heap.size) (ExtX.refl _ wC) (p := ⟨wr.heap.size, 1, none⟩) rfl _) (p := ⟨wr.heap.size, 3, none⟩) rfl _)
              change Code.wp _ _ _ _ (((wC.setCell ⟨wr.heap.size, 1, none⟩ (.bool true)).setCell ⟨wr.heap.size, 3, none⟩ (.int .i64 (h.comp + 1))))
              rw [← hwD]
              have HZ := Lib.hid hz
              have ED : Ext wr wD := ((E2C.toX (fun k => k = wr.heap.size)).trans XD).toExt (fun k hk => by have hk : k = wr.heap.size := hk; omega)
              have HED := Lib.hid ED
              have HZW : Hid z.wf := Lib.hid (by rw [hz]; exact lieD_wf HW.out HRW.out (by omega) (by omega) HPW.out j)
              have hwd := ED.size
              clear hwD hz hzv XD ED f1 f2 f3 f4 y1 y2 y3 y4 d0 d1
              have s0 := KD.cell (o := 0) rfl
              have s1 := KD.cell (o := 1) rfl
              have s2 := KD.cell (o := 2) rfl
              have s3 := KD.cell (o := 3) rfl
              have s4 := KD.cell (o := 4) rfl
              have s5 := KD.cell (o := 5) rfl
              go_wp2_with (at_builtin; refine wpList_app (d := Rp.ck) (base := w1.heap.size) rfl (.tmp 96) (.tmp 98) 26 rfl 30 i0 _ 40 Try.underlying26 hi hz0 hz1 hz2 rfl (v := u16) rfl (hO.out.ext (HED.out.trans ((Ext.refl wD).alloc _))) (fun q hq => by simp at hq; omega) ⟨wD.heap.size, 0, none⟩ 1 (ckCells z) [z] rfl rfl (lit_at _ _ _ _ (by simp)) (one_elem (p := fun i y => (Rp.ck).K _ (fun q => (w1.heap.size ≤ q) ∧ some q ≠ Value.ownBlock u16) y (((ckCells z).drop (i * (Rp.ck).sz)).take (Rp.ck).sz)) ⟨rfl,HZW.out⟩) (by simp [maxLen]; omega) (by simp; omega) (by simp; omega) ?_; intro v2 w2 own2 g2 f2; have O2 := Lib.hid own2; have G2 := Lib.hid g2; have F2 := Lib.hid f2; clear own2 g2 f2; obtain ⟨A2, n2, cap2, rfl⟩ := own_shape O2.out; skip)
              have E3 : Ext w1 w2 := ext_app hE (HED.out.trans ((Ext.refl wD).alloc _)) (fun k hk => (hO16.out k hk).1) G2.out
              go_wp2_with fail
              go_roundw
              case rel => exact ⟨j + 1, by go_num, by omega, Lib.hid (by rw [lies_snoc HPJ.out, ← HZ.out]; exact O2.out), E3⟩
              case measure => simp [intOf]; omega
            · have t3 : ((q : Int) % 3 == 1) = false := beq_eq_false_iff_ne.2 (by omega)
              have HQ1 := Lib.hid hq1
              clear hq0 hq1 hy0
              go_upto_region 19 with fail
              replace hy := hy.out
              obtain ⟨z, hz⟩ : ∃ z : CkD, z = lieD h rev kk q bz j p := ⟨_, rfl⟩
              obtain ⟨wD, hwD⟩ : ∃ W, W = ((wC.setCell ⟨wr.heap.size, 1, none⟩ (.bool true)).setCell ⟨wr.heap.size, 2, none⟩ (.int .u32 (IntKind.u32.wrap (h.hash + bz)))) := ⟨_, rfl⟩
              have hzv : z = ({ id := p.id, has := true, err := p.err, rev := if rev < p.rev then rev else p.rev, comp := h.comp, hash := IntKind.u32.wrap (h.hash + bz) } : CkD) := by rw [hz, (by unfold lieD; rw [if_pos HJK.out]; simp [HQ.out, HQ1.out] : lieD h rev kk q bz j p = { id := p.id, has := true, err := p.err, rev := if rev < p.rev then rev else p.rev, comp := h.comp, hash := IntKind.u32.wrap (h.hash + bz) })]
              have KD : Blk wD wr.heap.size 30 (ckCells z) := by rw [hwD, hzv]; exact ((hy ▸ KC).setCell 1 (.bool true)).setCell 2 (.int .u32 (IntKind.u32.wrap (h.hash + bz)))
              have XD : ExtX (fun k => k = wr.heap.size) wC wD := by rw [hwD]; exact (ExtX.setCell (M := fun k => k = wr.heap.size) (ExtX.setCell (M := fun k => k = wr.heap.size) (ExtX.refl _ wC) (p := ⟨wr.heap.size, 1, none⟩) rfl _) (p := ⟨wr.heap.size, 2, none⟩) rfl _)
              change Code.wp _ _ _ _ (((wC.setCell ⟨wr.heap.size, 1, none⟩ (.bool true)).setCell ⟨wr.heap.size, 2, none⟩ (.int .u32 (IntKind.u32.wrap (h.hash + bz)))))
              rw [← hwD]
              have HZ := Lib.hid hz
              have ED : Ext wr wD := ((E2C.toX (fun k => k = wr.heap.size)).trans XD).toExt (fun k hk => by have hk : k = wr.heap.size := hk; omega)
              have HED := Lib.hid ED
              have HZW : Hid z.wf := Lib.hid (by rw [hz]; exact lieD_wf HW.out HRW.out (by omega) (by omega) HPW.out j)
              have hwd := ED.size
              clear hwD hz hzv XD ED f1 f2 f3 f4 y1 y2 y3 y4 d0 d1
              have s0 := KD.cell (o := 0) rfl
              have s1 := KD.cell (o := 1) rfl
              have s2 := KD.cell (o := 2) rfl
              have s3 := KD.cell (o := 3) rfl
              have s4 := KD.cell (o := 4) rfl
              have s5 := KD.cell (o := 5) rfl
              go_wp2_with (at_builtin; refine wpList_app (d := Rp.ck) (base := w1.heap.size) rfl (.tmp 96) (.tmp 98) 26 rfl 30 i0 _ 40 Try.underlying26 hi hz0 hz1 hz2 rfl (v := u16) rfl (hO.out.ext (HED.out.trans ((Ext.refl wD).alloc _))) (fun q hq => by simp at hq; omega) ⟨wD.heap.size, 0, none⟩ 1 (ckCells z) [z] rfl rfl (lit_at _ _ _ _ (by simp)) (one_elem (p := fun i y => (Rp.ck).K _ (fun q => (w1.heap.size ≤ q) ∧ some q ≠ Value.ownBlock u16) y (((ckCells z).drop (i * (Rp.ck).sz)).take (Rp.ck).sz)) ⟨rfl,HZW.out⟩) (by simp [maxLen]; omega) (by simp; omega) (by simp; omega) ?_; intro v2 w2 own2 g2 f2; have O2 := Lib.hid own2; have G2 := Lib.hid g2; have F2 := Lib.hid f2; clear own2 g2 f2; obtain ⟨A2, n2, cap2, rfl⟩ := own_shape O2.out; skip)
              have E3 : Ext w1 w2 := ext_app hE (HED.out.trans ((Ext.refl wD).alloc _)) (fun k hk => (hO16.out k hk).1) G2.out
              go_wp2_with fail
              go_roundw
              case rel => exact ⟨j + 1, by go_num, by omega, Lib.hid (by rw [lies_snoc HPJ.out, ← HZ.out]; exact O2.out), E3⟩
              case measure => simp [intOf]; omega
        · have t1 : ((j : Int) == (m : Int) % (ps.length : Int)) = false := by rw [HKK.out]; exact beq_eq_false_iff_ne.2 (by omega)
          have HJK := Lib.hid hjk
          clear hjk
          have hy0 := Lib.hid hy
          clear hy
          go_upto_region 19 with fail
          have hy := hy0.out
          obtain ⟨z, hz⟩ : ∃ z : CkD, z = lieD h rev kk q bz j p := ⟨_, rfl⟩
          obtain ⟨wD, hwD⟩ : ∃ W, W = wC := ⟨_, rfl⟩
          have hzv : z = y := by rw [hz, (by unfold lieD; rw [if_neg HJK.out]; exact hy.symm : lieD h rev kk q bz j p = y)]
          have KD : Blk wD wr.heap.size 30 (ckCells z) := by rw [hwD, hzv]; exact KC
          have XD : ExtX (fun k => k = wr.heap.size) wC wD := by rw [hwD]; exact (ExtX.refl _ wC)
          change Code.wp _ _ _ _ (wC)
          rw [← hwD]
          have HZ := Lib.hid hz
          have ED : Ext wr wD := ((E2C.toX (fun k => k = wr.heap.size)).trans XD).toExt (fun k hk => by have hk : k = wr.heap.size := hk; omega)
          have HED := Lib.hid ED
          have HZW : Hid z.wf := Lib.hid (by rw [hz]; exact lieD_wf HW.out HRW.out (by omega) (by omega) HPW.out j)
          have hwd := ED.size
          clear hwD hz hzv XD ED HJK
          have s0 := KD.cell (o := 0) rfl
          have s1 := KD.cell (o := 1) rfl
          have s2 := KD.cell (o := 2) rfl
          have s3 := KD.cell (o := 3) rfl
          have s4 := KD.cell (o := 4) rfl
          have s5 := KD.cell (o := 5) rfl
          go_wp2_with (at_builtin; refine wpList_app (d := Rp.ck) (base := w1.heap.size) rfl (.tmp 96) (.tmp 98) 26 rfl 30 i0 _ 40 Try.underlying26 hi hz0 hz1 hz2 rfl (v := u16) rfl (hO.out.ext (HED.out.trans ((Ext.refl wD).alloc _))) (fun q hq => by simp at hq; omega) ⟨wD.heap.size, 0, none⟩ 1 (ckCells z) [z] rfl rfl (lit_at _ _ _ _ (by simp)) (one_elem (p := fun i y => (Rp.ck).K _ (fun q => (w1.heap.size ≤ q) ∧ some q ≠ Value.ownBlock u16) y (((ckCells z).drop (i * (Rp.ck).sz)).take (Rp.ck).sz)) ⟨rfl,HZW.out⟩) (by simp [maxLen]; omega) (by simp; omega) (by simp; omega) ?_; intro v2 w2 own2 g2 f2; have O2 := Lib.hid own2; have G2 := Lib.hid g2; have F2 := Lib.hid f2; clear own2 g2 f2; obtain ⟨A2, n2, cap2, rfl⟩ := own_shape O2.out; skip)
          have E3 : Ext w1 w2 := ext_app hE (HED.out.trans ((Ext.refl wD).alloc _)) (fun k hk => (hO16.out k hk).1) G2.out
          go_wp2_with fail
          go_roundw
          case rel => exact ⟨j + 1, by go_num, by omega, Lib.hid (by rw [lies_snoc HPJ.out, ← HZ.out]; exact O2.out), E3⟩
          case measure => simp [intOf]; omega
      · have hjn : Hid (ps.take j = ps) := Lib.hid (by rw [show j = ps.length by omega, List.take_length])
        have hOw : OwnP Rp.ck wr (fun k => w1.heap.size ≤ k) w1.heap.size 30 u16 (liesD h rev kk q bz ps) := by have := hO.out; rw [hjn.out] at this; exact this
        have hsl := (Rp.slice Rp.ck).toAny hOw.slice
        have HSL := Lib.hid hsl
        obtain ⟨Al, nl, capl, rfl⟩ := own_shape hOw
        clear hOw hsl
        obtain ⟨pk, hpk⟩ : ∃ pk, ps[kk]? = some pk := ⟨_, List.getElem?_eq_getElem hkl⟩
        obtain ⟨ba, o, rfl, _⟩ := HR.out.addr (List.ne_nil_of_length_pos (by omega))
        have Ewr := E01.trans hE
        obtain ⟨_, hc⟩ := flat_at HR.out rfl hpk Ewr
        have c0 := hc 0 _ rfl
        simp only [Nat.add_zero, ← Nat.add_assoc] at c0
        have hres : Hid (periodicD h h rev own (liesD h rev kk q bz ps) = [pk.id]) := Lib.hid (lies_find ⟨by omega, by omega⟩ ⟨by omega, by omega⟩ hpk own)
        have hll : (liesD h rev kk q bz ps).length ≤ 1000 := by unfold liesD; rw [List.length_mapIdx]; omega
        have KHr := KH1.ext hE
        have d0 := KHr.cell (o := 0) rfl
        have d1 := KHr.cell (o := 1) rfl
        have d2 := KHr.cell (o := 2) rfl
        clear hc hpk
        go_wp2_with fail
        rw [HKK.out]
        have E : Ext wr wr.drew := (Ext.refl wr).drew
        refine wp_region_sched (ops := ops_7_21) Ext [] (.quiet 0 (.quiet 1 (.quiet 2 (.quiet 3 (.quiet 4 (.quiet 6 (.quiet 7 (.quiet 8 (.quiet 9 (.quiet 10 (.loud 5 (.loud 11 (.loud 12 (.quiet 13 (.loud 14 (.quiet 15 (.quiet 16 (.done))) (.stop))) (.stop)) (.stop)) (.loud 11 (.loud 5 (.loud 12 (.quiet 13 (.loud 14 (.quiet 15 (.quiet 16 (.done))) (.stop))) (.stop)) (.stop)) (.stop))))))))))))) (by kernel_rfl) ext_refl ext_trans (by kernel_rfl) (fun _ _ d _ _ h => by cases d <;> exact h) ?_
        refine wpS_quiet (some 101) { dst := some 101, op := Op.load 25 (Operand.tmp 7), type := _, pos := _, after := _, guard := none } _ rfl rfl (by rfl) (fun wE hE => by (have zk0 := hE.cellS d0; have zk1 := hE.cellS d1; have zk2 := hE.cellS d2; have zk3 := hE.cellS c0; go_simp; try with_reducible rfl)) ?_; simp only [Act.put, List.setIfInBounds_toArray, List.set_cons_zero, List.set_cons_succ]
        refine wpS_quiet (some 102) { dst := some 102, op := Op.load 25 (Operand.tmp 7), type := _, pos := _, after := _, guard := none } _ rfl rfl (by rfl) (fun wE hE => by (have zk0 := hE.cellS d0; have zk1 := hE.cellS d1; have zk2 := hE.cellS d2; have zk3 := hE.cellS c0; go_simp; try with_reducible rfl)) ?_; simp only [Act.put, List.setIfInBounds_toArray, List.set_cons_zero, List.set_cons_succ]
        refine wpS_quiet (some 103) { dst := some 103, op := Op.move (Operand.tmp 1), type := _, pos := _, after := _, guard := none } _ rfl rfl (by rfl) (fun wE hE => by (go_simp; try with_reducible rfl)) ?_; simp only [Act.put, List.setIfInBounds_toArray, List.set_cons_zero, List.set_cons_succ]
        refine wpS_quiet (some 104) { dst := some 104, op := Op.move (Operand.tmp 2), type := _, pos := _, after := _, guard := none } _ rfl rfl (by rfl) (fun wE hE => by (go_simp; try with_reducible rfl)) ?_; simp only [Act.put, List.setIfInBounds_toArray, List.set_cons_zero, List.set_cons_succ]
        refine wpS_quiet (some 105) { dst := some 105, op := Op.move (Operand.tmp 16), type := _, pos := _, after := _, guard := none } _ rfl rfl (by rfl) (fun wE hE => by (go_simp; try with_reducible rfl)) ?_; simp only [Act.put, List.setIfInBounds_toArray, List.set_cons_zero, List.set_cons_succ]
        refine wpS_quiet (some 107) { dst := some 107, op := Op.move (Operand.tmp 3), type := _, pos := _, after := _, guard := none } _ rfl rfl (by rfl) (fun wE hE => by (go_simp; try with_reducible rfl)) ?_; simp only [Act.put, List.setIfInBounds_toArray, List.set_cons_zero, List.set_cons_succ]
        refine wpS_quiet (some 108) { dst := some 108, op := Op.move (Operand.tmp 15), type := _, pos := _, after := _, guard := none } _ rfl rfl (by rfl) (fun wE hE => by (go_simp; try with_reducible rfl)) ?_; simp only [Act.put, List.setIfInBounds_toArray, List.set_cons_zero, List.set_cons_succ]
        refine wpS_quiet (some 109) { dst := some 109, op := Op.indexAddr 26 (Operand.tmp 107) (Operand.tmp 108), type := _, pos := _, after := _, guard := none } _ rfl rfl (by rfl) (fun wE hE => by (go_simp; try with_reducible rfl)) ?_; simp only [Act.put, List.setIfInBounds_toArray, List.set_cons_zero, List.set_cons_succ]
        refine wpS_quiet (some 110) { dst := some 110, op := Op.fieldAddr 30 (Operand.tmp 109) 0, type := _, pos := _, after := _, guard := none } _ rfl rfl (by rfl) (fun wE hE => by (go_simp; try with_reducible rfl)) ?_; simp only [Act.put, List.setIfInBounds_toArray, List.set_cons_zero, List.set_cons_succ]
        refine wpS_quiet (some 111) { dst := some 111, op := Op.load 22 (Operand.tmp 110), type := _, pos := _, after := _, guard := none } _ rfl rfl (by rfl) (fun wE hE => by (have zk0 := hE.cellS d0; have zk1 := hE.cellS d1; have zk2 := hE.cellS d2; have zk3 := hE.cellS c0; go_simp; try with_reducible rfl)) ?_; simp only [Act.put, List.setIfInBounds_toArray, List.set_cons_zero, List.set_cons_succ]
        refine wpS_callm (some 106) { dst := some 106, op := Op.call { callee := Callee.value (Operand.func 17), args := #[Operand.tmp 101, Operand.tmp 102, Operand.tmp 103, Operand.tmp 104, Operand.tmp 105], argTypes := #[25, 25, 2, 22, 26] }, type := _, pos := _, after := _, guard := none } 17 _ rfl rfl (by rfl) (by go_simp; try with_reducible rfl) ?_ ?_
        rotate_right
        · skip
          refine wpS_make (some 112) { dst := some 112, op := Op.buildSlice 41 1 #[(0, Operand.tmp 111)], type := _, pos := _, after := _, guard := none } rfl rfl (by rfl) 22 [.int .u64 pk.id] 1 (by go_simp; try rfl) (fun w' h => h) ?_ trivial
          intro bs wb hb eb KB
          have KS := slice_of_blk (d := Rp.u64) (ok := any) (cap := 1) (xs := [pk.id]) KB trivial (show 1 * 1 ≤ 1 by decide) (one_elem (p := fun i y => Rp.u64.K _ any y ((([.int .u64 pk.id] : List Value).drop (i * Rp.u64.sz)).take Rp.u64.sz)) ⟨rfl, trivial⟩) (Nat.le_refl _) (by decide)
          clear hb
          have E := E.trans eb
          (try replace ha := (Rp.slice Rp.u64).ext' eb ha)
          simp only [Act.put, List.setIfInBounds_toArray, List.set_cons_zero, List.set_cons_succ]
          refine wpS_callm (some 106) { dst := some 106, op := Op.call { callee := Callee.value (Operand.func 17), args := #[Operand.tmp 101, Operand.tmp 102, Operand.tmp 103, Operand.tmp 104, Operand.tmp 105], argTypes := #[25, 25, 2, 22, 26] }, type := _, pos := _, after := _, guard := none } 17 _ rfl rfl (by rfl) (by go_simp; try with_reducible rfl) ?_ trivial
          refine (implPeriodic_any h h rev own _ _ wb ((Rp.slice Rp.ck).ext' E HSL.out) hll).mono ?_
          rintro e wa ⟨va, rfl, ha, ea⟩
          rw [hres.out] at ha
          obtain ⟨Aa, ca, hva, _⟩ := id ha
          simp only [List.cons.injEq, and_true] at hva
          subst hva
          refine ⟨_, rfl, ea, ?_⟩
          have E := E.trans ea
          (try replace KS := (Rp.slice Rp.u64).ext' ea KS)
          simp only [Act.put, List.setIfInBounds_toArray, List.set_cons_zero, List.set_cons_succ]
          refine wpS_callm (some 113) { dst := some 113, op := Op.call { callee := Callee.value (Operand.func 16), args := #[Operand.tmp 106, Operand.tmp 112], argTypes := #[41, 41] }, type := _, pos := _, after := _, guard := none } 16 _ rfl rfl (by rfl) (by go_simp; try with_reducible rfl) ?_ trivial
          refine (ckIDs_same [pk.id] _ _ wa ha KS).mono ?_
          rintro e wc' ⟨rfl, ec⟩
          refine ⟨_, rfl, ec, ?_⟩
          have E := E.trans ec
          simp only [Act.put, List.setIfInBounds_toArray, List.set_cons_zero, List.set_cons_succ]
          refine wpS_quiet (some 114) { dst := some 114, op := Op.move (Operand.tmp 113), type := _, pos := _, after := _, guard := none } _ rfl rfl (by rfl) (fun wE hE => by (go_simp; try with_reducible rfl)) ?_; simp only [Act.put, List.setIfInBounds_toArray, List.set_cons_zero, List.set_cons_succ]
          refine wpS_callm (some 115) { dst := some 115, op := Op.call { callee := Callee.value (Operand.func 11), args := #[], argTypes := #[] }, type := _, pos := _, after := _, guard := some (13, true) } 11 _ rfl rfl (by rfl) (by go_simp; try with_reducible rfl) ?_ trivial
          refine (ckAwake_any wc').mono ?_
          rintro e wd ⟨rfl, ed⟩
          refine ⟨_, rfl, ed, ?_⟩
          have E := E.trans ed
          simp only [Act.put, List.setIfInBounds_toArray, List.set_cons_zero, List.set_cons_succ]
          refine wpS_quiet (some 116) { dst := some 116, op := Op.pick (Operand.tmp 114) (Operand.tmp 115) (Operand.const (Value.bool false)), type := _, pos := _, after := _, guard := none } _ rfl rfl (by rfl) (fun wE hE => by (go_simp; try with_reducible rfl)) ?_; simp only [Act.put, List.setIfInBounds_toArray, List.set_cons_zero, List.set_cons_succ]
          refine wpS_quiet (some 14) { dst := some 14, op := Op.assign (Operand.tmp 116), type := _, pos := _, after := _, guard := none } _ rfl rfl (by rfl) (fun wE hE => by (go_simp; try with_reducible rfl)) ?_; simp only [Act.put, List.setIfInBounds_toArray, List.set_cons_zero, List.set_cons_succ]
          change Exit.then _ _ _ _ _
          go_wp2
          go_ret
          exact ⟨rfl, Ewr.trans E⟩
        refine (implPeriodic_any h h rev own _ _ wr.drew ((Rp.slice Rp.ck).ext' E HSL.out) hll).mono ?_
        rintro e wa ⟨va, rfl, ha, ea⟩
        rw [hres.out] at ha
        obtain ⟨Aa, ca, hva, _⟩ := id ha
        simp only [List.cons.injEq, and_true] at hva
        subst hva
        refine ⟨_, rfl, ea, ?_⟩
        have E := E.trans ea
        (try replace KS := (Rp.slice Rp.u64).ext' ea KS)
        simp only [Act.put, List.setIfInBounds_toArray, List.set_cons_zero, List.set_cons_succ]
        refine wpS_make (some 112) { dst := some 112, op := Op.buildSlice 41 1 #[(0, Operand.tmp 111)], type := _, pos := _, after := _, guard := none } rfl rfl (by rfl) 22 [.int .u64 pk.id] 1 (by go_simp; try rfl) (fun w' h => h) ?_ trivial
        intro bs wb hb eb KB
        have KS := slice_of_blk (d := Rp.u64) (ok := any) (cap := 1) (xs := [pk.id]) KB trivial (show 1 * 1 ≤ 1 by decide) (one_elem (p := fun i y => Rp.u64.K _ any y ((([.int .u64 pk.id] : List Value).drop (i * Rp.u64.sz)).take Rp.u64.sz)) ⟨rfl, trivial⟩) (Nat.le_refl _) (by decide)
        clear hb
        have E := E.trans eb
        (try replace ha := (Rp.slice Rp.u64).ext' eb ha)
        simp only [Act.put, List.setIfInBounds_toArray, List.set_cons_zero, List.set_cons_succ]
        refine wpS_callm (some 113) { dst := some 113, op := Op.call { callee := Callee.value (Operand.func 16), args := #[Operand.tmp 106, Operand.tmp 112], argTypes := #[41, 41] }, type := _, pos := _, after := _, guard := none } 16 _ rfl rfl (by rfl) (by go_simp; try with_reducible rfl) ?_ trivial
        refine (ckIDs_same [pk.id] _ _ wb ha KS).mono ?_
        rintro e wc' ⟨rfl, ec⟩
        refine ⟨_, rfl, ec, ?_⟩
        have E := E.trans ec
        simp only [Act.put, List.setIfInBounds_toArray, List.set_cons_zero, List.set_cons_succ]
        refine wpS_quiet (some 114) { dst := some 114, op := Op.move (Operand.tmp 113), type := _, pos := _, after := _, guard := none } _ rfl rfl (by rfl) (fun wE hE => by (go_simp; try with_reducible rfl)) ?_; simp only [Act.put, List.setIfInBounds_toArray, List.set_cons_zero, List.set_cons_succ]
        refine wpS_callm (some 115) { dst := some 115, op := Op.call { callee := Callee.value (Operand.func 11), args := #[], argTypes := #[] }, type := _, pos := _, after := _, guard := some (13, true) } 11 _ rfl rfl (by rfl) (by go_simp; try with_reducible rfl) ?_ trivial
        refine (ckAwake_any wc').mono ?_
        rintro e wd ⟨rfl, ed⟩
        refine ⟨_, rfl, ed, ?_⟩
        have E := E.trans ed
        simp only [Act.put, List.setIfInBounds_toArray, List.set_cons_zero, List.set_cons_succ]
        refine wpS_quiet (some 116) { dst := some 116, op := Op.pick (Operand.tmp 114) (Operand.tmp 115) (Operand.const (Value.bool false)), type := _, pos := _, after := _, guard := none } _ rfl rfl (by rfl) (fun wE hE => by (go_simp; try with_reducible rfl)) ?_; simp only [Act.put, List.setIfInBounds_toArray, List.set_cons_zero, List.set_cons_succ]
        refine wpS_quiet (some 14) { dst := some 14, op := Op.assign (Operand.tmp 116), type := _, pos := _, after := _, guard := none } _ rfl rfl (by rfl) (fun wE hE => by (go_simp; try with_reducible rfl)) ?_; simp only [Act.put, List.setIfInBounds_toArray, List.set_cons_zero, List.set_cons_succ]
        change Exit.then _ _ _ _ _
        go_wp2
        go_ret
        exact ⟨rfl, Ewr.trans E⟩
end Go.Proofs.Ythnhgfpkmbgkdaa
