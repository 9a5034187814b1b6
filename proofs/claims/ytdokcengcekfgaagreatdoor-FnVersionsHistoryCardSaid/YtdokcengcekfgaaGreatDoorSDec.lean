/-
  The specification's decisions (spec.ValidChange, spec.Decide, spec.DecideCancel).
-/
import Derived.Test.YtdokcengcekfgaaGreatDoorLeast
import Derived.Test.YtdokcengcekfgaaGreatDoorVSpec
namespace Go.Proofs.YtdokcengcekfgaaGreatDoor
open Go.RowKit Go.Maps
set_option linter.unusedSimpArgs false
set_option linter.unusedVariables false

theorem ext_via {w w1 w2 w3 : World} {s B : Nat} (hs : w.heap.size = s) (e : Ext w w1) (h : ExtB B w1 w2) (h' : ExtB B w2 w3) (hB : s ≤ B) : Ext w w3 := by
  subst hs
  exact ((e.toB (Nat.le_refl _)).trans ((h.trans h').mono hB)).ext
noncomputable def ops_37_1 : Array Oper := opsAt Tryz.f37 1
set_option maxRecDepth 20000 in
set_option maxHeartbeats 1000000 in
theorem specChange_any (a b c a' b' c' : Int) (w : World) :
    Calls Tryz.prog 37 #[vv a b c, vv a' b' c'] w fun e w' => e = .returned (.bool (vchange a b a' b')) ∧ Ext w w' := by
  go_enter Tryz.func37, Tryz.ntmps37
  go_wp2
  obtain ⟨w1, hw1⟩ : ∃ u : World, u = ((w.alloc (Obj.cells #[Value.int IntKind.i64 a, Value.int IntKind.i64 b, Value.int IntKind.i64 c] 29)).alloc
      (Obj.cells #[Value.int IntKind.i64 a', Value.int IntKind.i64 b', Value.int IntKind.i64 c'] 29)) := ⟨_, rfl⟩
  have e1 : Ext w w1 := by rw [hw1]; exact (((Ext.refl _).alloc _).alloc _)
  have KA : Blk w1 w.heap.size 29 [.int .i64 a, .int .i64 b, .int .i64 c] := by rw [hw1]; exact (Blk.new w _ _).ext ((Ext.refl _).alloc _)
  have KB : Blk w1 (w.heap.size + 1) 29 [.int .i64 a', .int .i64 b', .int .i64 c'] := by
    have h := Blk.new (w.alloc (Obj.cells #[Value.int IntKind.i64 a, Value.int IntKind.i64 b, Value.int IntKind.i64 c] 29)) 29 [.int .i64 a', .int .i64 b', .int .i64 c']
    rw [hw1]; simpa using h
  rw [← hw1]
  clear hw1
  generalize hsz : w.heap.size = s at *
  have a0 := KA.cell (o := 0) rfl
  have a1 := KA.cell (o := 1) rfl
  have a2 := KA.cell (o := 2) rfl
  have d0 := KB.cell (o := 0) rfl
  have d1 := KB.cell (o := 1) rfl
  have d2 := KB.cell (o := 2) rfl
  refine wp_region_sched (ops := ops_37_1) (ExtX (fun k => k = s)) [5] (.quiet 2 (.loud 0 (.loud 1 (.loud 3 (.loud 4 (.last 5 (.done)) (.stop)) (.stop)) (.stop)) (.stop))) (by kernel_rfl) (ExtX.refl (fun k => k = s)) (fun _ _ _ => ExtX.trans) (by kernel_rfl) (fun _ _ d _ _ h => by cases d <;> exact h) ?_
  refine wpS_quiet (some 7) { dst := some 7, op := Op.load 29 (Operand.tmp 3), type := _, pos := _, after := _, guard := none } _ rfl rfl (by rfl) (fun wE hE => by (have zk0 := hE.cellS (by show ¬ (s + 1 = s); omega) d0; have zk1 := hE.cellS (by show ¬ (s + 1 = s); omega) d1; have zk2 := hE.cellS (by show ¬ (s + 1 = s); omega) d2; go_simp; try with_reducible rfl)) ?_; simp only [Act.put, List.setIfInBounds_toArray, List.set_cons_zero, List.set_cons_succ]
  refine wpS_upd (some 5) { dst := some 5, op := Op.load 29 (Operand.tmp 2), type := _, pos := _, after := _, guard := none } rfl rfl (by rfl) ?_ trivial
  refine ⟨vv a b c, w1.drew, by go_simp; try rfl, ExtX.refl _ _, ?_⟩
  simp only [Act.put, List.setIfInBounds_toArray, List.set_cons_zero, List.set_cons_succ]
  refine wpS_call (some 6) { dst := some 6, op := Op.call { callee := Callee.value (Operand.func 34), args := #[Operand.tmp 5], argTypes := #[29] }, type := _, pos := _, after := _, guard := none } 34 _ rfl rfl (by rfl) (by go_simp; try first | with_reducible rfl | exact ⟨rfl, rfl⟩) ?_
  refine (specBase_any a b c _).mono ?_; rintro e w8 ⟨rfl, h8⟩; refine ⟨_, rfl, (h8.toX _), ?_⟩; simp only [Act.put, List.setIfInBounds_toArray, List.set_cons_zero, List.set_cons_succ]
  refine wpS_call (some 8) { dst := some 8, op := Op.call { callee := Callee.value (Operand.func 34), args := #[Operand.tmp 7], argTypes := #[29] }, type := _, pos := _, after := _, guard := none } 34 _ rfl rfl (by rfl) (by go_simp; try first | with_reducible rfl | exact ⟨rfl, rfl⟩) ?_
  refine (specBase_any a' b' c' _).mono ?_; rintro e w10 ⟨rfl, h10⟩; refine ⟨_, rfl, (h10.toX _), ?_⟩; simp only [Act.put, List.setIfInBounds_toArray, List.set_cons_zero, List.set_cons_succ]
  have e10 : Ext w1 w10 := h8.undrew.trans h10
  have KA10 := KA.ext e10
  have KB10 := KB.ext e10
  refine wpS_storeL none { dst := none, op := Op.store 29 (Operand.tmp 2) (Operand.tmp 6), type := _, pos := _, after := _, guard := none } rfl rfl (by rfl) (.tmp 2) (.tmp 6) 29 rfl rfl rfl rfl KA10 rfl (Nat.le_of_ble_eq_true rfl) rfl (fun w' x => x) ?_ trivial
  intro w7 KA7 x7
  simp only [Act.put, List.setIfInBounds_toArray, List.set_cons_zero, List.set_cons_succ]
  have KB7 := KB10.extX x7 (show ¬ (s + 1 = s) by omega)
  refine wpS_store none { dst := none, op := Op.store 29 (Operand.tmp 3) (Operand.tmp 8), type := _, pos := _, after := _, guard := none } rfl rfl (by rfl) (.tmp 3) (.tmp 8) 29 rfl rfl rfl rfl KB7 rfl (Nat.le_of_ble_eq_true rfl) rfl ?_
  intro w9 KB9 x9
  simp only [Act.put, List.setIfInBounds_toArray, List.set_cons_zero, List.set_cons_succ]
  change Exit.then _ _ _ _ _
  have KA9 : Blk w9 s 29 [.int .i64 a, .int .i64 b, .int .i64 0] := (show Blk w7 s 29 [.int .i64 a, .int .i64 b, .int .i64 0] from KA7).extX x9 (show ¬ (s = s + 1) by omega)
  have KB9' : Blk w9 (s + 1) 29 [.int .i64 a', .int .i64 b', .int .i64 0] := KB9
  have E9 : Ext w w9 := (((e1.trans e10).toX (fun k => k = s ∨ k = s + 1)).trans ((x7.mono (M' := fun k => k = s ∨ k = s + 1) (fun _ _ h => .inl h)).trans (x9.mono (fun _ _ h => .inr h)))).toExt (fun q hq => by omega)
  clear a0 a1 a2 d0 d1 d2
  have c0 := KA9.cell (o := 0) rfl
  have c1 := KA9.cell (o := 1) rfl
  have c2 := KA9.cell (o := 2) rfl
  have d0 := KB9'.cell (o := 0) rfl
  have d1 := KB9'.cell (o := 1) rfl
  have d2 := KB9'.cell (o := 2) rfl
  go_wp2_with fail
  refine (specDown_any a b 0 a' b' 0 w9).mono ?_
  rintro e wz ⟨rfl, hz⟩
  by_cases hd : vdown a b a' b' 0 = true
  · rw [hd]
    go_wp2
    go_ret
    exact ⟨by simp [vchange, hd], E9.trans hz⟩
  · have hd' : vdown a b a' b' 0 = false := by simpa using hd
    rw [hd']
    replace c0 := hz.cellS c0
    replace c1 := hz.cellS c1
    replace c2 := hz.cellS c2
    replace d0 := hz.cellS d0
    replace d1 := hz.cellS d1
    replace d2 := hz.cellS d2
    by_cases ha : a = a'
    · subst ha
      have hab : (a == a) = true := by simp
      go_wp2_with fail
      refine (specLess_any a b 0 a b' 0 wz).mono ?_
      rintro e wy ⟨rfl, hy⟩
      go_wp2
      go_ret
      exact ⟨by simp [vchange, hd'], (E9.trans hz).trans hy⟩
    · have hab : (a == a') = false := by simpa using ha
      go_wp2
      go_ret
      exact ⟨by simp [vchange, hd', hab], E9.trans hz⟩

/-- the least of members, where all are versions -/
theorem Least.ok {ms : List ByteArray} {v : VD} (h : Least (ms.map verOfD) (some v)) : v.ok := by
  obtain ⟨m, _, hm⟩ := List.mem_map.1 h.2.1
  exact (verOfD_some hm).1
set_option maxRecDepth 20000 in
set_option maxHeartbeats 4000000 in
theorem specDecide_any (g : GD) (A : Option Addr) (n cap : Nat) (w : World) (hn : n = g.members.length) (hm : (Rp.slice Rp.str).K w any g.members [.slice A n cap]) (hok : g.ok) :
    Calls Tryz.prog 12 #[gdV g A n cap] w (DecideAns g w) := by
  have lc : g.cluster.size ≤ 2147483647 := by have := hok.c.le; omega
  have lt : g.target.size ≤ 2147483647 := by have := hok.t; omega
  have HOK := Lib.hid hok
  have HM := Lib.hid hm
  have HN := Lib.hid hn
  clear hok hm hn
  go_enter Tryz.func12, Tryz.ntmps12
  go_wp2_with fail
  obtain ⟨W, hW⟩ : ∃ W, W = (w.alloc (.cells (gdCells g A n cap).toArray 24)).alloc (.cells (voteCells vote0).toArray 35) := ⟨_, rfl⟩
  have EW : Ext w W := by rw [hW]; exact ((Ext.refl w).alloc _).alloc _
  have KV : Blk W w.heap.size 24 (gdCells g A n cap) := by
    rw [hW]
    exact (Blk.new w 24 (gdCells g A n cap)).ext ((Ext.refl _).alloc _)
  have KR : Blk W (w.heap.size + 1) 35 (voteCells vote0) := by
    rw [hW]
    have := Blk.new (w.alloc (.cells (gdCells g A n cap).toArray 24)) 35 (voteCells vote0)
    rwa [World.size_alloc] at this
  change Calls _ _ _ ((w.alloc (.cells (gdCells g A n cap).toArray 24)).alloc (.cells (voteCells vote0).toArray 35)) _
  rw [← hW]
  clear hW
  refine (specLeast_any g.members _ W ((Rp.slice Rp.str).ext' EW HM.out) (fun m hm => (HOK.out.m m hm).le) HOK.out.n).mono ?_
  rintro e w1 ⟨l, hl, rfl, E1⟩
  have HL := Lib.hid hl
  clear hl
  obtain ⟨lv, hlv⟩ : ∃ lv, l.getD zeroV = lv := ⟨_, rfl⟩
  obtain ⟨kn, hkn⟩ : ∃ kn, l.isSome = kn := ⟨_, rfl⟩
  rw [hlv, hkn]
  have hs1 : w.heap.size + 1 < w1.heap.size := (KR.ext E1).lt
  have EA : Ext W (w1.alloc (.cells (verCells lv).toArray 29)) := E1.alloc _
  obtain ⟨s0, s1, s2, s3, s4, s5⟩ := gd_load (KV.ext EA)
  replace hlv := Lib.hid hlv
  replace hkn := Lib.hid hkn
  go_wp2_with fail
  obtain ⟨W1, hW1⟩ : ∃ W1, W1 = w1.alloc (.cells (verCells lv).toArray 29) := ⟨_, rfl⟩
  have KL1 : Blk W1 w1.heap.size 29 (verCells lv) := by rw [hW1]; exact Blk.new w1 _ _
  change Calls _ _ _ (w1.alloc (.cells (verCells lv).toArray 29)) _
  have EA' : Ext W W1 := by rw [hW1]; exact EA
  rw [← hW1]
  clear hW1 s0 s1 s2 s3 s4 s5 EA
  refine (verOf_any g.cluster W1 lc).mono ?_
  rintro e w2 ⟨rfl, E2⟩
  obtain ⟨cv, hcv⟩ : ∃ cv, (verOfD g.cluster).getD zeroV = cv := ⟨_, rfl⟩
  obtain ⟨is, his⟩ : ∃ is, (verOfD g.cluster).isSome = is := ⟨_, rfl⟩
  rw [hcv, his]
  have hl : Hid (l = if kn then some lv else none) := Lib.hid (by
    have h1 := hlv.out; have h2 := hkn.out
    cases l with
    | none => subst h2; rfl
    | some x => subst h2; subst h1; rfl)
  have hc : Hid (verOfD g.cluster = if is then some cv else none) := Lib.hid (by
    generalize verOfD g.cluster = o at *
    cases o with
    | none => subst his; rfl
    | some x => subst his; subst hcv; rfl)
  clear hcv his hlv hkn
  have E02 : Ext W (w2.alloc (.cells (verCells cv).toArray 29)) := (EA'.trans E2).alloc _
  have KC2 : Blk (w2.alloc (.cells (verCells cv).toArray 29)) w2.heap.size 29 (verCells cv) := Blk.new w2 _ _
  have KL2 : Blk (w2.alloc (.cells (verCells cv).toArray 29)) w1.heap.size 29 (verCells lv) := (KL1.ext E2).ext ((Ext.refl _).alloc _)
  have hs2 : w1.heap.size < w2.heap.size := (KL1.ext E2).lt
  obtain ⟨l0, l1, l2⟩ := V3.of KL2
  simp only [Nat.zero_add] at l1 l2
  have KR2 := KR.ext E02
  cases is with
  | false =>
    cases kn with
    | true =>
      have hlok : lv.ok := Least.ok (hl.out ▸ HL.out)
      go_wp2_with fail
      refine (specBase_any lv.maj lv.mnr lv.pat _).mono ?_
      rintro e w7 ⟨rfl, E7⟩
      go_wp2_with fail
      refine (verText_any (base lv) (base_ok hlok) w7).mono ?_
      rintro e w8 ⟨rfl, E8⟩
      have KR8 := (KR.ext E02).ext (E7.trans E8)
      go_wp2_with (refine wpList_store rfl rfl (.tmp 2) (.tmp 29) 35 rfl rfl rfl rfl KR8 rfl (Nat.le_of_ble_eq_true rfl) rfl ?_; intro w9 K9 x9)
      refine bodyPost_ret (results_cell_row rfl _ _ (w.heap.size + 1) _ _ (0, 0) _ rfl K9 Tryz.underlying35 rfl rfl) rfl ?_
      refine ⟨l, HL.out, ?_, ext_one EW ((((E02).trans (E7.trans E8)).toX _).trans x9) (by omega)⟩
      rw [hl.out, hc.out]
      rfl
    | false =>
      go_wp2_with (refine wpList_store rfl rfl (.tmp 2) (.tmp 32) 35 rfl rfl rfl rfl KR2 rfl (Nat.le_of_ble_eq_true rfl) rfl ?_; intro w9 K9 x9)
      refine bodyPost_ret (results_cell_row rfl _ _ (w.heap.size + 1) _ _ (0, 0) _ rfl K9 Tryz.underlying35 rfl rfl) rfl ?_
      refine ⟨l, HL.out, ?_, ext_one EW ((E02.toX _).trans x9) (by omega)⟩
      rw [hl.out, hc.out]
      show _ = Ending.returned (voteV ⟨0, vt ⟨3, 0, 0⟩, ⟨#[]⟩, false, false, ⟨#[]⟩⟩)
      rw [vt300]
      rfl
  | true =>
    cases kn with
    | false =>
      go_wp2_with (refine wpList_store rfl rfl (.tmp 2) (.tmp 35) 35 rfl rfl rfl rfl KR2 rfl (Nat.le_of_ble_eq_true rfl) rfl ?_; intro w9 K9 x9)
      refine bodyPost_ret (results_cell_row rfl _ _ (w.heap.size + 1) _ _ (0, 0) _ rfl K9 Tryz.underlying35 rfl rfl) rfl ?_
      refine ⟨l, HL.out, ?_, ext_one EW ((E02.toX _).trans x9) (by omega)⟩
      rw [hl.out, hc.out]
      rfl
    | true =>
      have hlok : lv.ok := Least.ok (hl.out ▸ HL.out)
      have hcok : cv.ok := by
        have := hc.out
        exact (verOfD_some this).1
      have s3 := (KV.ext E02).cell (o := 3) rfl
      have s4 := (KV.ext E02).cell (o := 4) rfl
      cases hd : g.down with
      | false =>
        rw [hd] at s3
        replace hd := Lib.hid hd
        obtain ⟨c0, c1, c2⟩ := V3.of KC2
        simp only [Nat.zero_add] at c1 c2
        obtain ⟨hh, hhe⟩ : ∃ hh, g.hasDown = hh := ⟨_, rfl⟩
        rw [hhe] at s4
        clear hhe
        cases hh with
        | false =>
          go_wp2_with fail
          refine (specLess_any cv.maj cv.mnr cv.pat lv.maj lv.mnr lv.pat _).mono ?_
          rintro e w3 ⟨rfl, E3⟩
          have E03 := E02.trans E3
          have KR3 := KR.ext E03
          obtain ⟨l0, l1, l2⟩ := V3.of (KL2.ext E3)
          obtain ⟨c0, c1, c2⟩ := V3.of (KC2.ext E3)
          simp only [Nat.zero_add] at l1 l2 c1 c2
          cases hls : less cv lv with
          | false =>
            rw [show vless cv.maj cv.mnr cv.pat lv.maj lv.mnr lv.pat = false from hls]
            replace hls := Lib.hid hls
            go_wp2_with (refine wpList_store rfl rfl (.tmp 2) (.tmp 79) 35 rfl rfl rfl rfl KR3 rfl (Nat.le_of_ble_eq_true rfl) rfl ?_; intro w9 K9 x9)
            refine bodyPost_ret (results_cell_row rfl _ _ (w.heap.size + 1) _ _ (0, 0) _ rfl K9 Tryz.underlying35 rfl rfl) rfl ?_
            refine ⟨l, HL.out, ?_, ext_one EW (((E03).toX _).trans x9) (by omega)⟩
            rw [hl.out, hc.out]
            simp only [if_true, decideD, hd.out, hls.out, Bool.false_and, Bool.false_eq_true, if_false]
            rfl
          | true =>
            rw [show vless cv.maj cv.mnr cv.pat lv.maj lv.mnr lv.pat = true from hls]
            replace hls := Lib.hid hls
            go_wp2_with fail
            refine (specChange_any cv.maj cv.mnr cv.pat lv.maj lv.mnr lv.pat w3).mono ?_
            rintro e w4 ⟨rfl, E4⟩
            have E04 := E03.trans E4
            have KR4 := KR.ext E04
            cases hch : vchangeV cv lv with
            | false =>
              rw [show vchange cv.maj cv.mnr lv.maj lv.mnr = false from hch]
              replace hch := Lib.hid hch
              go_wp2_with (refine wpList_store rfl rfl (.tmp 2) (.tmp 79) 35 rfl rfl rfl rfl KR4 rfl (Nat.le_of_ble_eq_true rfl) rfl ?_; intro w9 K9 x9)
              refine bodyPost_ret (results_cell_row rfl _ _ (w.heap.size + 1) _ _ (0, 0) _ rfl K9 Tryz.underlying35 rfl rfl) rfl ?_
              refine ⟨l, HL.out, ?_, ext_one EW (((E04).toX _).trans x9) (by omega)⟩
              rw [hl.out, hc.out]
              simp only [if_true, decideD, hd.out, hls.out, hch.out, Bool.and_false, Bool.false_eq_true, if_false]
              rfl
            | true =>
              rw [show vchange cv.maj cv.mnr lv.maj lv.mnr = true from hch]
              replace hch := Lib.hid hch
              clear l0 l1 l2 c0 c1 c2
              obtain ⟨l0, l1, l2⟩ := V3.of ((KL2.ext E3).ext E4)
              simp only [Nat.zero_add] at l1 l2
              go_wp2_with fail
              refine (specBase_any lv.maj lv.mnr lv.pat _).mono ?_
              rintro e w7 ⟨rfl, E7⟩
              go_wp2_with fail
              refine (verText_any (base lv) (base_ok hlok) w7).mono ?_
              rintro e w8 ⟨rfl, E8⟩
              have KR8 := (KR.ext E04).ext (E7.trans E8)
              go_wp2_with (refine wpList_store rfl rfl (.tmp 2) (.tmp 78) 35 rfl rfl rfl rfl KR8 rfl (Nat.le_of_ble_eq_true rfl) rfl ?_; intro w9 K9 x9)
              refine bodyPost_ret (results_cell_row rfl _ _ (w.heap.size + 1) _ _ (0, 0) _ rfl K9 Tryz.underlying35 rfl rfl) rfl ?_
              refine ⟨l, HL.out, ?_, ext_one EW ((((E04).trans (E7.trans E8)).toX _).trans x9) (by omega)⟩
              rw [hl.out, hc.out]
              simp only [if_true, decideD, hd.out, hls.out, hch.out, Bool.and_self, Bool.false_eq_true, if_false]
              rfl
        | true =>
          go_wp2_with fail
          refine (specLess_any cv.maj cv.mnr cv.pat lv.maj lv.mnr lv.pat _).mono ?_
          rintro e w3 ⟨rfl, E3⟩
          have E03 := E02.trans E3
          have KR3 := KR.ext E03
          obtain ⟨l0, l1, l2⟩ := V3.of (KL2.ext E3)
          obtain ⟨c0, c1, c2⟩ := V3.of (KC2.ext E3)
          simp only [Nat.zero_add] at l1 l2 c1 c2
          cases hls : less cv lv with
          | false =>
            rw [show vless cv.maj cv.mnr cv.pat lv.maj lv.mnr lv.pat = false from hls]
            replace hls := Lib.hid hls
            go_wp2_with (refine wpList_store rfl rfl (.tmp 2) (.tmp 79) 35 rfl rfl rfl rfl KR3 rfl (Nat.le_of_ble_eq_true rfl) rfl ?_; intro w9 K9 x9)
            refine bodyPost_ret (results_cell_row rfl _ _ (w.heap.size + 1) _ _ (0, 0) _ rfl K9 Tryz.underlying35 rfl rfl) rfl ?_
            refine ⟨l, HL.out, ?_, ext_one EW (((E03).toX _).trans x9) (by omega)⟩
            rw [hl.out, hc.out]
            simp only [if_true, decideD, hd.out, hls.out, Bool.false_and, Bool.false_eq_true, if_false]
            rfl
          | true =>
            rw [show vless cv.maj cv.mnr cv.pat lv.maj lv.mnr lv.pat = true from hls]
            replace hls := Lib.hid hls
            go_wp2_with fail
            refine (specChange_any cv.maj cv.mnr cv.pat lv.maj lv.mnr lv.pat w3).mono ?_
            rintro e w4 ⟨rfl, E4⟩
            have E04 := E03.trans E4
            have KR4 := KR.ext E04
            cases hch : vchangeV cv lv with
            | false =>
              rw [show vchange cv.maj cv.mnr lv.maj lv.mnr = false from hch]
              replace hch := Lib.hid hch
              go_wp2_with (refine wpList_store rfl rfl (.tmp 2) (.tmp 79) 35 rfl rfl rfl rfl KR4 rfl (Nat.le_of_ble_eq_true rfl) rfl ?_; intro w9 K9 x9)
              refine bodyPost_ret (results_cell_row rfl _ _ (w.heap.size + 1) _ _ (0, 0) _ rfl K9 Tryz.underlying35 rfl rfl) rfl ?_
              refine ⟨l, HL.out, ?_, ext_one EW (((E04).toX _).trans x9) (by omega)⟩
              rw [hl.out, hc.out]
              simp only [if_true, decideD, hd.out, hls.out, hch.out, Bool.and_false, Bool.false_eq_true, if_false]
              rfl
            | true =>
              rw [show vchange cv.maj cv.mnr lv.maj lv.mnr = true from hch]
              replace hch := Lib.hid hch
              clear l0 l1 l2 c0 c1 c2
              obtain ⟨l0, l1, l2⟩ := V3.of ((KL2.ext E3).ext E4)
              simp only [Nat.zero_add] at l1 l2
              go_wp2_with fail
              refine (specBase_any lv.maj lv.mnr lv.pat _).mono ?_
              rintro e w7 ⟨rfl, E7⟩
              go_wp2_with fail
              refine (verText_any (base lv) (base_ok hlok) w7).mono ?_
              rintro e w8 ⟨rfl, E8⟩
              have KR8 := (KR.ext E04).ext (E7.trans E8)
              go_wp2_with (refine wpList_store rfl rfl (.tmp 2) (.tmp 78) 35 rfl rfl rfl rfl KR8 rfl (Nat.le_of_ble_eq_true rfl) rfl ?_; intro w9 K9 x9)
              refine bodyPost_ret (results_cell_row rfl _ _ (w.heap.size + 1) _ _ (0, 0) _ rfl K9 Tryz.underlying35 rfl rfl) rfl ?_
              refine ⟨l, HL.out, ?_, ext_one EW ((((E04).trans (E7.trans E8)).toX _).trans x9) (by omega)⟩
              rw [hl.out, hc.out]
              simp only [if_true, decideD, hd.out, hls.out, hch.out, Bool.and_self, Bool.false_eq_true, if_false]
              rfl
      | true =>
        obtain ⟨htok, htg, hhd⟩ := HOK.out.tgt hd
        have htv : verOfD g.target = some g.tv := by rw [htg]; exact verOfD_vt htok
        rw [hd] at s3
        rw [hhd] at s4
        have s2 := (KV.ext E02).cell (o := 2) rfl
        replace hd := Lib.hid hd
        replace htg := Lib.hid htg
        clear hhd
        go_wp2_with fail
        refine (verOf_any g.target _ lt).mono ?_
        rintro e w3 ⟨rfl, E3⟩
        rw [htv]
        replace htv := Lib.hid htv
        generalize htve : g.tv = tv at *
        replace htve := Lib.hid htve
        have E03 : Ext W (w3.alloc (.cells (verCells tv).toArray 29)) := (E02.trans E3).alloc _
        have KT3 : Blk (w3.alloc (.cells (verCells tv).toArray 29)) w3.heap.size 29 (verCells tv) := Blk.new w3 _ _
        have KC3 : Blk (w3.alloc (.cells (verCells tv).toArray 29)) w2.heap.size 29 (verCells cv) := (KC2.ext E3).ext ((Ext.refl _).alloc _)
        have KL3 : Blk (w3.alloc (.cells (verCells tv).toArray 29)) w1.heap.size 29 (verCells lv) := (KL2.ext E3).ext ((Ext.refl _).alloc _)
        have KR3 := KR.ext E03
        clear l0 l1 l2 s2 s3 s4
        obtain ⟨l0, l1, l2⟩ := V3.of KL3
        obtain ⟨c0, c1, c2⟩ := V3.of KC3
        simp only [Nat.zero_add] at l1 l2 c1 c2
        have qe := ver_eql tv cv
        cases hv : veqV tv cv with
        | true =>
          rw [hv] at qe
          replace hv := Lib.hid hv
          go_wp2_with (refine wpList_store rfl rfl (.tmp 2) (.tmp 51) 35 rfl rfl rfl rfl KR3 rfl (Nat.le_of_ble_eq_true rfl) rfl ?_; intro w9 K9 x9)
          refine bodyPost_ret (results_cell_row rfl _ _ (w.heap.size + 1) _ _ (0, 0) _ rfl K9 Tryz.underlying35 rfl rfl) rfl ?_
          refine ⟨l, HL.out, ?_, ext_one EW (((E03).toX _).trans x9) (by omega)⟩
          rw [hl.out, hc.out, htve.out]
          simp only [if_true, decideD, hd.out, hv.out]
          rfl
        | false =>
          rw [hv] at qe
          replace hv := Lib.hid hv
          go_wp2_with fail
          refine (specDown_any cv.maj cv.mnr cv.pat tv.maj tv.mnr tv.pat _).mono ?_
          rintro e w4 ⟨rfl, E4⟩
          have E04 := E03.trans E4
          have KR4 := KR.ext E04
          clear l0 l1 l2 c0 c1 c2 qe
          obtain ⟨l0, l1, l2⟩ := V3.of (KL3.ext E4)
          obtain ⟨t0, t1, t2⟩ := V3.of (KT3.ext E4)
          simp only [Nat.zero_add] at l1 l2 t1 t2
          cases hdn : vdownV cv tv with
          | false =>
            rw [show vdown cv.maj cv.mnr tv.maj tv.mnr tv.pat = false from hdn]
            replace hdn := Lib.hid hdn
            go_wp2_with (refine wpList_store rfl rfl (.tmp 2) (.tmp 62) 35 rfl rfl rfl rfl KR4 rfl (Nat.le_of_ble_eq_true rfl) rfl ?_; intro w9 K9 x9)
            refine bodyPost_ret (results_cell_row rfl _ _ (w.heap.size + 1) _ _ (0, 0) _ rfl K9 Tryz.underlying35 rfl rfl) rfl ?_
            refine ⟨l, HL.out, ?_, ext_one EW (((E04).toX _).trans x9) (by omega)⟩
            rw [hl.out, hc.out, htve.out]
            simp only [if_true, decideD, hd.out, hv.out, hdn.out, Bool.false_and, Bool.false_eq_true, if_false]
            rfl
          | true =>
            rw [show vdown cv.maj cv.mnr tv.maj tv.mnr tv.pat = true from hdn]
            replace hdn := Lib.hid hdn
            go_wp2_with fail
            refine (specDown_any lv.maj lv.mnr lv.pat tv.maj tv.mnr tv.pat w4).mono ?_
            rintro e w5 ⟨rfl, E5⟩
            have E05 := E04.trans E5
            have KR5 := KR.ext E05
            clear l0 l1 l2 t0 t1 t2
            obtain ⟨t0, t1, t2⟩ := V3.of ((KT3.ext E4).ext E5)
            simp only [Nat.zero_add] at t1 t2
            cases hdl : vdownV lv tv with
            | false =>
              rw [show vdown lv.maj lv.mnr tv.maj tv.mnr tv.pat = false from hdl]
              replace hdl := Lib.hid hdl
              go_wp2_with (refine wpList_store rfl rfl (.tmp 2) (.tmp 62) 35 rfl rfl rfl rfl KR5 rfl (Nat.le_of_ble_eq_true rfl) rfl ?_; intro w9 K9 x9)
              refine bodyPost_ret (results_cell_row rfl _ _ (w.heap.size + 1) _ _ (0, 0) _ rfl K9 Tryz.underlying35 rfl rfl) rfl ?_
              refine ⟨l, HL.out, ?_, ext_one EW (((E05).toX _).trans x9) (by omega)⟩
              rw [hl.out, hc.out, htve.out]
              simp only [if_true, decideD, hd.out, hv.out, hdn.out, hdl.out, Bool.and_false, Bool.false_eq_true, if_false]
              rfl
            | true =>
              rw [show vdown lv.maj lv.mnr tv.maj tv.mnr tv.pat = true from hdl]
              replace hdl := Lib.hid hdl
              go_wp2_with fail
              refine (specBase_any tv.maj tv.mnr tv.pat _).mono ?_
              rintro e w7 ⟨rfl, E7⟩
              go_wp2_with fail
              refine (verText_any (base tv) (base_ok htok) w7).mono ?_
              rintro e w8 ⟨rfl, E8⟩
              have KR8 := (KR.ext E05).ext (E7.trans E8)
              go_wp2_with (refine wpList_store rfl rfl (.tmp 2) (.tmp 66) 35 rfl rfl rfl rfl KR8 rfl (Nat.le_of_ble_eq_true rfl) rfl ?_; intro w9 K9 x9)
              refine bodyPost_ret (results_cell_row rfl _ _ (w.heap.size + 1) _ _ (0, 0) _ rfl K9 Tryz.underlying35 rfl rfl) rfl ?_
              refine ⟨l, HL.out, ?_, ext_one EW ((((E05).trans (E7.trans E8)).toX _).trans x9) (by omega)⟩
              rw [hl.out, hc.out, htve.out]
              simp only [if_true, decideD, hd.out, hv.out, hdn.out, hdl.out, Bool.and_self, Bool.false_eq_true, if_false]
              rfl
end Go.Proofs.YtdokcengcekfgaaGreatDoor
