/-
  The walk of FnFragmentsWhole.
-/
import Derived.Test.YtmimpfenlhfkiaaSame
namespace Go.Proofs.Ytmimpfenlhfkiaa
open Go.RowKit
set_option linter.unusedSimpArgs false
set_option linter.unusedVariables false

abbrev withF (x : RespD) : RespD := { x with fragment := false }
noncomputable def ops_4_10 : Array Oper := opsAt Try.f4 10
set_option maxHeartbeats 4000000 in
set_option maxRecDepth 20000 in
theorem walk_FragmentsWhole (x : RespD) (A : Option Addr) (cap : Nat) (most : Int) (w : World) (hl : x.events.length ≤ maxLen) (h : (Rp.slice Rp.ev).K w any x.events [.slice A x.events.length cap]) :
    Calls Try.prog 4 #[sentV x A cap, .int .i64 most] w fun e w' => e = .returned (.bool true) ∧ Ext w w' := by
  have HS := Lib.hid h
  have HX := Lib.hid (slice_evx h)
  clear h
  go_enter Try.func4, Try.ntmps4
  go_wp2_with fail
  refine (fits40 x A cap _ ((Rp.slice Rp.evx).ext' ((Ext.refl w).alloc _) HX.out) (by unfold maxLen at hl; omega)).mono ?_
  rintro e w1 ⟨c, rfl, E1⟩
  have K1 := (Blk.new w 24 (sentN x A x.events.length cap)).ext (show Ext (w.alloc (.cells (sentN x A x.events.length cap).toArray 24)) w1 from E1)
  replace E1 := ((Ext.refl w).alloc _).trans E1
  have g0 := K1.cell (o := 0) rfl
  have g1 := K1.cell (o := 1) rfl
  have g2 := K1.cell (o := 2) rfl
  have g3 := K1.cell (o := 3) rfl
  have g4 := K1.cell (o := 4) rfl
  have g5 := K1.cell (o := 5) rfl
  have g6 := K1.cell (o := 6) rfl
  have g7 := K1.cell (o := 7) rfl
  cases c with
  | false =>
    go_wp2
    go_ret
    exact ⟨rfl, E1⟩
  | true =>
  go_wp2_with fail
  refine (frGood_any x A cap w1 ((Rp.slice Rp.evx).ext' E1 HX.out)).mono ?_
  rintro e w2 ⟨c, rfl, hgood, E2⟩
  replace K1 := K1.ext E2
  replace E2 := E1.trans E2
  clear g0 g1 g2 g3 g4 g5 g6 g7
  have g0 := K1.cell (o := 0) rfl
  have g1 := K1.cell (o := 1) rfl
  have g2 := K1.cell (o := 2) rfl
  have g3 := K1.cell (o := 3) rfl
  have g4 := K1.cell (o := 4) rfl
  have g5 := K1.cell (o := 5) rfl
  have g6 := K1.cell (o := 6) rfl
  have g7 := K1.cell (o := 7) rfl
  cases c with
  | false =>
    clear hgood
    go_wp2_with fail
    refine (live_any w2).mono ?_
    rintro e w3 ⟨rfl, E3⟩
    go_wp2
    go_ret
    exact ⟨rfl, E2.trans E3⟩
  | true =>
  have HG := Lib.hid (hgood rfl)
  clear hgood
  by_cases hc0 : most < 1
  · have hd0 : decide (most < 1) = true := by simpa using hc0
    go_wp2_with fail
    refine (live_any w2).mono ?_
    rintro e w3 ⟨rfl, E3⟩
    go_wp2
    go_ret
    exact ⟨rfl, E2.trans E3⟩
  have hd0 : decide (most < 1) = false := by simpa using hc0
  by_cases hc1 : 1073741824 < most
  · have hd1 : decide (1073741824 < most) = true := by simpa using hc1
    go_wp2_with fail
    refine (live_any w2).mono ?_
    rintro e w3 ⟨rfl, E3⟩
    go_wp2
    go_ret
    exact ⟨rfl, E2.trans E3⟩
  have hd1 : decide (1073741824 < most) = false := by simpa using hc1
  by_cases hfr : x.fragment = true
  · go_wp2_with fail
    refine (live_any w2).mono ?_
    rintro e w3 ⟨rfl, E3⟩
    go_wp2
    go_ret
    exact ⟨rfl, E2.trans E3⟩
  have hfr : x.fragment = false := by simpa using hfr
  replace hfr := Lib.hid hfr
  obtain ⟨X, hX⟩ : ∃ X : RespD, X = withF x := ⟨_, rfl⟩
  have K1 : Blk w2 w.heap.size 24 (sentN X A X.events.length cap) := by rw [hX]; show Blk w2 w.heap.size 24 [.int .i64 x.id, .int .i64 x.rev, .int .i64 x.compact, .bool x.created, .bool x.canceled, .bool false, .string x.reason, .slice A x.events.length cap]; rw [← hfr.out]; exact K1
  have hx2 : Hid (∀ y : EvD, y ∈ X.events → y.ok ∧ y.plain) := by rw [hX]; exact Lib.hid (good_ok HG.out.2.2)
  have hlen : X.events.length ≤ 60 := by rw [hX]; exact HG.out.1
  have hrs : X.reason.size ≤ 200 := by rw [hX]; exact HG.out.2.1
  have S2 : Hid ((Rp.slice Rp.ev).K w2 any X.events [.slice A X.events.length cap]) := by rw [hX]; exact Lib.hid ((Rp.slice Rp.ev).ext' E2 HS.out)
  have hXF : Hid (X.fragment = false) := by rw [hX]; exact Lib.hid rfl
  have g5 : w2.cell? ⟨w.heap.size, 5, none⟩ = some (.bool false) := by have := K1.cell (o := 5) rfl; rw [hXF.out] at this; exact this
  clear g0 g1 g2 g3 g4 g6 g7
  have g0 := K1.cell (o := 0) rfl
  have g1 := K1.cell (o := 1) rfl
  have g2 := K1.cell (o := 2) rfl
  have g3 := K1.cell (o := 3) rfl
  have g4 := K1.cell (o := 4) rfl
  have g6 := K1.cell (o := 6) rfl
  have g7 := K1.cell (o := 7) rfl
  obtain ⟨m, rfl⟩ := Int.eq_ofNat_of_zero_le (by omega : 0 ≤ most)
  clear hX hfr HS HX HG hl
  go_wp2_with fail
  refine Calls.mono (show Calls Try.prog _ #[.agg #[.int .i64 X.id, .int .i64 X.rev, .int .i64 X.compact, .bool X.created, .bool X.canceled, .bool false, .string X.reason, .slice A X.events.length cap], .int .i64 m] w2 (fun e w' => ∃ v rs, e = .returned v ∧ FragsOf X m rs ∧ (Rp.slice Rp.sent).K w' (fun j => w2.heap.size ≤ j) rs [v] ∧ Ext w2 w') from hXF.out ▸ fragments_any X A cap m w2 (by omega) (by omega) hx2.out (by omega) S2.out) ?_
  rintro e w3 ⟨v, rs, rfl, hf, hv, E3⟩
  obtain ⟨Av, cv, hvv, p1, p2, p3, hrow⟩ := hv
  simp only [List.cons.injEq, and_true] at hvv
  subst hvv
  have hrl := hf.len
  obtain ⟨hall, hpos, hone⟩ := hf.all
  have HF := Lib.hid hf
  have HALL := Lib.hid hall
  have HONE := Lib.hid hone
  have HR := Lib.hid hrow
  have E3' := E2.trans E3
  have K3 := K1.ext E3
  clear hf hall hone hrow p3 g0 g1 g2 g3 g4 g5 g6 g7
  unfold maxLen at p2
  go_wp2_with fail
  go_loopw [6, 34] (fun u i wr => ∃ k : Nat, i = .int .i64 k ∧ k ≤ rs.length ∧ Hid (OwnP Rp.evx wr any w3.heap.size 37 u ((rs.take k).flatMap (·.events))) ∧ Ext w3 wr) (fun _ i _ => rs.length - (intOf i).toNat)
  case atStart => exact ⟨0, rfl, Nat.zero_le _, Lib.hid (OwnP.nil _ _ _ _ _), Ext.refl _⟩
  case round =>
    obtain ⟨k, rfl, hk, hO, hE⟩ := hrel
    by_cases hlt : k < rs.length
    · obtain ⟨r, hr⟩ : ∃ r, rs[k]? = some r := ⟨_, List.getElem?_eq_getElem hlt⟩
      obtain ⟨bb, o, rfl, _⟩ := HR.out.addr (List.ne_nil_of_length_pos (by omega))
      obtain ⟨cs, _, ⟨A1, c1, rfl, hs1⟩, hc⟩ := HR.out.at rfl hr
      obtain ⟨f, rfl⟩ := HF.out.flag hXF.out hr
      have q0 := hE.cellS (show w3.cell? ⟨bb, o + k * 8, none⟩ = some (.int .i64 X.id) from hc 0 (by decide))
      have q1 := hE.cellS (show w3.cell? ⟨bb, o + k * 8 + 1, none⟩ = some (.int .i64 X.rev) from at_add (s := 8) (hc 1 (by decide)))
      have q2 := hE.cellS (show w3.cell? ⟨bb, o + k * 8 + 2, none⟩ = some (.int .i64 X.compact) from at_add (s := 8) (hc 2 (by decide)))
      have q3 := hE.cellS (show w3.cell? ⟨bb, o + k * 8 + 3, none⟩ = some (.bool X.created) from at_add (s := 8) (hc 3 (by decide)))
      have q4 := hE.cellS (show w3.cell? ⟨bb, o + k * 8 + 4, none⟩ = some (.bool X.canceled) from at_add (s := 8) (hc 4 (by decide)))
      have q5 := hE.cellS (show w3.cell? ⟨bb, o + k * 8 + 5, none⟩ = some (.bool (decide (k + 1 < rs.length))) from at_add (s := 8) (hc 5 (by decide)))
      have q6 := hE.cellS (show w3.cell? ⟨bb, o + k * 8 + 6, none⟩ = some (.string X.reason) from at_add (s := 8) (hc 6 (by decide)))
      have q7 := hE.cellS (show w3.cell? ⟨bb, o + k * 8 + 7, none⟩ = some (.slice A1 f.length c1) from at_add (s := 8) (hc 7 (by decide)))
      have HRK := Lib.hid hr
      have HS1 : Hid ((Rp.slice Rp.evx).K wr any f [.slice A1 f.length c1]) := Lib.hid ((Rp.slice Rp.evx).toAny ((Rp.slice Rp.evx).ext' hE hs1))
      have hsub := (HF.out.sub _ (List.mem_of_getElem? hr)).2
      have hfl : f.length ≤ 60 := Nat.le_trans hsub hlen
      clear hr hc hs1 hsub
      cases hlast : decide (k + 1 < rs.length) with
      | true =>
        rw [hlast] at q5
        replace hlast := Lib.hid hlast
        go_wp2_with fail
        obtain ⟨W, hW⟩ : ∃ W, W = wr.alloc (.cells (sentN (part X true f) A1 f.length c1).toArray 24) := ⟨_, rfl⟩
        have EW : Ext wr W := by rw [hW]; exact (Ext.refl wr).alloc _
        have KX : Blk W wr.heap.size 24 (sentN (part X true f) A1 f.length c1) := by rw [hW]; exact Blk.new wr _ _
        have KW := (K3.ext hE).ext EW
        change Code.wp _ _ _ _ (wr.alloc (.cells (sentN (part X true f) A1 f.length c1).toArray 24))
        rw [← hW]
        clear hW q0 q1 q2 q3 q4 q5 q6 q7
        have x0 := KX.cell (o := 0) rfl
        have x1 := KX.cell (o := 1) rfl
        have x2 := KX.cell (o := 2) rfl
        have x3 := KX.cell (o := 3) rfl
        have x4 := KX.cell (o := 4) rfl
        have x5 := KX.cell (o := 5) rfl
        have x6 := KX.cell (o := 6) rfl
        have x7 := KX.cell (o := 7) rfl
        have g0 := KW.cell (o := 0) rfl
        have g1 := KW.cell (o := 1) rfl
        have g2 := KW.cell (o := 2) rfl
        have g3 := KW.cell (o := 3) rfl
        have g4 := KW.cell (o := 4) rfl
        have g5 := KW.cell (o := 5) rfl
        have g6 := KW.cell (o := 6) rfl
        have g7 := KW.cell (o := 7) rfl
        have k1 : IntKind.i64.wrap ((rs.length : Int) - 1) = (rs.length : Int) - 1 := IntWalk.i64_in _ (by omega)
        have k2 : decide ((k : Int) < (rs.length : Int) - 1) = true := by rw [← hlast.out]; exact decide_eq_decide.2 (by omega)
        refine wp_region_sched (ops := ops_4_10) Ext [] (.quiet 0 (.quiet 2 (.loud 1 (.loud 3 (.loud 4 (.quiet 5 (.quiet 6 (.quiet 7 (.quiet 8 (.quiet 9 (.quiet 10 (.quiet 11 (.quiet 12 (.quiet 13 (.quiet 14 (.quiet 15 (.done)))))))))))) (.stop)) (.stop)) (.stop)))) (by kernel_rfl) ext_refl ext_trans (by kernel_rfl) (fun _ _ d _ _ h => by cases d <;> exact h) ?_
        refine wpS_quiet (some 39) { dst := some 39, op := Op.load 24 (Operand.tmp 8), type := _, pos := _, after := _, guard := none } _ rfl rfl (by rfl) (fun wE hE => by (have zk0 := hE.cellS x0; have zk1 := hE.cellS x1; have zk2 := hE.cellS x2; have zk3 := hE.cellS x3; have zk4 := hE.cellS x4; have zk5 := hE.cellS x5; have zk6 := hE.cellS x6; have zk7 := hE.cellS x7; have zk8 := hE.cellS g0; have zk9 := hE.cellS g1; have zk10 := hE.cellS g2; have zk11 := hE.cellS g3; have zk12 := hE.cellS g4; have zk13 := hE.cellS g5; have zk14 := hE.cellS g6; have zk15 := hE.cellS g7; go_simp; try with_reducible rfl)) ?_; simp only [Act.put, List.setIfInBounds_toArray, List.set_cons_zero, List.set_cons_succ]
        refine wpS_quiet (some 41) { dst := some 41, op := Op.load 24 (Operand.tmp 2), type := _, pos := _, after := _, guard := none } _ rfl rfl (by rfl) (fun wE hE => by (have zk0 := hE.cellS x0; have zk1 := hE.cellS x1; have zk2 := hE.cellS x2; have zk3 := hE.cellS x3; have zk4 := hE.cellS x4; have zk5 := hE.cellS x5; have zk6 := hE.cellS x6; have zk7 := hE.cellS x7; have zk8 := hE.cellS g0; have zk9 := hE.cellS g1; have zk10 := hE.cellS g2; have zk11 := hE.cellS g3; have zk12 := hE.cellS g4; have zk13 := hE.cellS g5; have zk14 := hE.cellS g6; have zk15 := hE.cellS g7; go_simp; try with_reducible rfl)) ?_; simp only [Act.put, List.setIfInBounds_toArray, List.set_cons_zero, List.set_cons_succ]
        refine wpS_call (some 40) { dst := some 40, op := Op.call { callee := Callee.value (Operand.func 11), args := #[Operand.tmp 39], argTypes := #[24] }, type := _, pos := _, after := _, guard := none } 11 _ rfl rfl (by rfl) (by go_simp; try first | with_reducible rfl | exact ⟨rfl, rfl⟩) ?_
        refine (bare_any (part X true f) A1 f.length c1 W.drew).mono ?_; rintro e y1 ⟨rfl, f1⟩; refine ⟨_, rfl, f1, ?_⟩; simp only [Act.put, List.setIfInBounds_toArray, List.set_cons_zero, List.set_cons_succ]
        have F1 : Ext W y1 := f1.undrew
        refine wpS_call (some 42) { dst := some 42, op := Op.call { callee := Callee.value (Operand.func 11), args := #[Operand.tmp 41], argTypes := #[24] }, type := _, pos := _, after := _, guard := none } 11 _ rfl rfl (by rfl) (by go_simp; try first | with_reducible rfl | exact ⟨rfl, rfl⟩) ?_
        refine (bare_any X A X.events.length cap y1).mono ?_; rintro e y2 ⟨rfl, f2⟩; refine ⟨_, rfl, f2, ?_⟩; simp only [Act.put, List.setIfInBounds_toArray, List.set_cons_zero, List.set_cons_succ]
        have F2 := F1.trans f2
        refine wpS_call (some 43) { dst := some 43, op := Op.call { callee := Callee.value (Operand.func 10), args := #[Operand.tmp 40, Operand.tmp 42], argTypes := #[24, 24] }, type := _, pos := _, after := _, guard := none } 10 _ rfl rfl (by rfl) (by go_simp; try first | with_reducible rfl | exact ⟨rfl, rfl⟩) ?_
        refine (same_any (withF X) y2).mono ?_; rintro e y3 ⟨rfl, f3⟩; refine ⟨_, rfl, f3, ?_⟩; simp only [Act.put, List.setIfInBounds_toArray, List.set_cons_zero, List.set_cons_succ]
        have F3 := F2.trans f3
        have x5 := F3.cellS x5
        refine wpS_quiet (some 44) { dst := some 44, op := Op.unOp UnOp.not 4 (Operand.tmp 43), type := _, pos := _, after := _, guard := none } _ rfl rfl (by rfl) (fun wE hE => by (go_simp; try with_reducible rfl)) ?_; simp only [Act.put, List.setIfInBounds_toArray, List.set_cons_zero, List.set_cons_succ]
        refine wpS_quiet (some 45) { dst := some 45, op := Op.move (Operand.tmp 44), type := _, pos := _, after := _, guard := none } _ rfl rfl (by rfl) (fun wE hE => by (go_simp; try with_reducible rfl)) ?_; simp only [Act.put, List.setIfInBounds_toArray, List.set_cons_zero, List.set_cons_succ]
        (first | refine wpS_quiet (some 46) { dst := some 46, op := Op.fieldAddr 24 (Operand.tmp 8) 5, type := _, pos := _, after := _, guard := some (6, false) } _ rfl rfl (by rfl) (fun wE hE => by (go_simp; try with_reducible rfl)) ?_ | refine wpS_pass (some 46) _ rfl rfl (by rfl) ?_); simp only [Act.put, List.setIfInBounds_toArray, List.set_cons_zero, List.set_cons_succ]
        (first | refine wpS_quiet (some 47) { dst := some 47, op := Op.load 4 (Operand.tmp 46), type := _, pos := _, after := _, guard := some (6, false) } _ rfl rfl (by rfl) (fun wE hE => by (have zk0 := hE.cellS x5; go_simp; try with_reducible rfl)) ?_ | refine wpS_pass (some 47) _ rfl rfl (by rfl) ?_); simp only [Act.put, List.setIfInBounds_toArray, List.set_cons_zero, List.set_cons_succ]
        (first | refine wpS_quiet (some 48) { dst := some 48, op := Op.move (Operand.tmp 7), type := _, pos := _, after := _, guard := some (6, false) } _ rfl rfl (by rfl) (fun wE hE => by (go_simp; try with_reducible rfl)) ?_ | refine wpS_pass (some 48) _ rfl rfl (by rfl) ?_); simp only [Act.put, List.setIfInBounds_toArray, List.set_cons_zero, List.set_cons_succ]
        (first | refine wpS_quiet (some 49) { dst := some 49, op := Op.move (Operand.tmp 5), type := _, pos := _, after := _, guard := some (6, false) } _ rfl rfl (by rfl) (fun wE hE => by (go_simp; try with_reducible rfl)) ?_ | refine wpS_pass (some 49) _ rfl rfl (by rfl) ?_); simp only [Act.put, List.setIfInBounds_toArray, List.set_cons_zero, List.set_cons_succ]
        (first | refine wpS_quiet (some 50) { dst := some 50, op := Op.call { callee := Callee.builtin Builtin.len, args := #[Operand.tmp 49], argTypes := #[29] }, type := _, pos := _, after := _, guard := some (6, false) } _ rfl rfl (by rfl) (fun wE hE => by (go_simp; try with_reducible rfl)) ?_ | refine wpS_pass (some 50) _ rfl rfl (by rfl) ?_); simp only [Act.put, List.setIfInBounds_toArray, List.set_cons_zero, List.set_cons_succ]
        (first | refine wpS_quiet (some 51) { dst := some 51, op := Op.binOp BinOp.sub 3 (Operand.tmp 50) (Operand.const (Value.int IntKind.i64 1)) 3, type := _, pos := _, after := _, guard := some (6, false) } _ rfl rfl (by rfl) (fun wE hE => by (go_simp; try with_reducible rfl)) ?_ | refine wpS_pass (some 51) _ rfl rfl (by rfl) ?_); simp only [Act.put, List.setIfInBounds_toArray, List.set_cons_zero, List.set_cons_succ]
        (first | refine wpS_quiet (some 52) { dst := some 52, op := Op.binOp BinOp.lss 3 (Operand.tmp 48) (Operand.tmp 51) 3, type := _, pos := _, after := _, guard := some (6, false) } _ rfl rfl (by rfl) (fun wE hE => by (go_simp; try with_reducible rfl)) ?_ | refine wpS_pass (some 52) _ rfl rfl (by rfl) ?_); simp only [Act.put, List.setIfInBounds_toArray, List.set_cons_zero, List.set_cons_succ]
        (first | refine wpS_quiet (some 53) { dst := some 53, op := Op.binOp BinOp.neq 4 (Operand.tmp 47) (Operand.tmp 52) 4, type := _, pos := _, after := _, guard := some (6, false) } _ rfl rfl (by rfl) (fun wE hE => by (go_simp; try with_reducible rfl)) ?_ | refine wpS_pass (some 53) _ rfl rfl (by rfl) ?_); simp only [Act.put, List.setIfInBounds_toArray, List.set_cons_zero, List.set_cons_succ]
        refine wpS_quiet (some 54) { dst := some 54, op := Op.pick (Operand.tmp 45) (Operand.const (Value.bool true)) (Operand.tmp 53), type := _, pos := _, after := _, guard := none } _ rfl rfl (by rfl) (fun wE hE => by (go_simp; try with_reducible rfl)) ?_; simp only [Act.put, List.setIfInBounds_toArray, List.set_cons_zero, List.set_cons_succ]
        change Exit.then _ _ _ _ _
        clear k1 k2 x0 x1 x2 x3 x4 x6 g0 g1 g2 g3 g4 g5 g6 g7
        have x7 := F3.cellS x7
        have F4 := EW.trans F3
        have HS2 := Lib.hid ((Rp.slice Rp.evx).ext' F4 HS1.out)
        have HO2 := Lib.hid (hO.out.ext F4)
        have hsz := hE.size
        have hsz2 := F4.size
        have hob := Lib.hid hO.out.own
        obtain ⟨i0, z0, hi, hz0, hz1, hz2, hz3⟩ := info_parts2 infoEv
        have hfm : ((rs.take k).flatMap (·.events)).length ≤ 60 := by
          have h1 := congrArg List.length HALL.out
          rw [← List.take_append_drop k rs, List.flatMap_append, List.length_append] at h1
          omega
        have hfs : Hid ((rs.take (k + 1)).flatMap (·.events) = (rs.take k).flatMap (·.events) ++ f) := Lib.hid (by rw [take_snoc HRK.out, List.flatMap_append]; simp [part])
        cases A1 with
        | none =>
          obtain ⟨rfl, hf0, rfl⟩ := slice_nil HS2.out
          rw [hf0] at x7
          go_wp2_with (refine wpList_app0 (d := Rp.evx) rfl (.tmp 55) (.tmp 57) 22 rfl 37 i0 Try.underlying22 hi rfl HO2.out rfl ?_)
          go_roundw
          case rel => exact ⟨k + 1, by go_num, by omega, by rw [hfs.out, List.append_nil]; exact HO2, hE.trans F4⟩
          case measure => simp [intOf]; omega
        | some ad =>
          obtain ⟨_, news, hnl, hnn, hnK⟩ := slice_news HS2.out
          have HNN := Lib.hid hnn
          have HNK := Lib.hid hnK
          clear hnn hnK
          go_wp2_with (at_builtin; refine wpList_app (d := Rp.evx) (base := w3.heap.size) rfl (.tmp 55) (.tmp 57) 22 rfl 37 i0 _ 144 Try.underlying22 hi hz0 hz1 hz2 hz3 (v := u6) rfl HO2.out (fun q hq => trivial) ad c1 news f rfl hnl HNN.out HNK.out (by simp only [maxLen]; omega) (by omega) (by omega) ?_; intro v2 w4 own4 g4 f4; have O4 := Lib.hid own4; have G4 := Lib.hid g4; clear own4 g4 f4)
          have E4 : Ext w3 w4 := (((hE.trans F4).toX (fun q => some q = Value.ownBlock u6)).grown G4.out (fun q h => h.symm)).toExt (fun q hq => (hob.out q hq.symm).1)
          go_roundw
          case rel => exact ⟨k + 1, by go_num, by omega, by rw [hfs.out]; exact O4, E4⟩
          case measure => simp [intOf]; omega
      | false =>
        rw [hlast] at q5
        replace hlast := Lib.hid hlast
        go_wp2_with fail
        obtain ⟨W, hW⟩ : ∃ W, W = wr.alloc (.cells (sentN (part X false f) A1 f.length c1).toArray 24) := ⟨_, rfl⟩
        have EW : Ext wr W := by rw [hW]; exact (Ext.refl wr).alloc _
        have KX : Blk W wr.heap.size 24 (sentN (part X false f) A1 f.length c1) := by rw [hW]; exact Blk.new wr _ _
        have KW := (K3.ext hE).ext EW
        change Code.wp _ _ _ _ (wr.alloc (.cells (sentN (part X false f) A1 f.length c1).toArray 24))
        rw [← hW]
        clear hW q0 q1 q2 q3 q4 q5 q6 q7
        have x0 := KX.cell (o := 0) rfl
        have x1 := KX.cell (o := 1) rfl
        have x2 := KX.cell (o := 2) rfl
        have x3 := KX.cell (o := 3) rfl
        have x4 := KX.cell (o := 4) rfl
        have x5 := KX.cell (o := 5) rfl
        have x6 := KX.cell (o := 6) rfl
        have x7 := KX.cell (o := 7) rfl
        have g0 := KW.cell (o := 0) rfl
        have g1 := KW.cell (o := 1) rfl
        have g2 := KW.cell (o := 2) rfl
        have g3 := KW.cell (o := 3) rfl
        have g4 := KW.cell (o := 4) rfl
        have g5 := KW.cell (o := 5) rfl
        have g6 := KW.cell (o := 6) rfl
        have g7 := KW.cell (o := 7) rfl
        have k1 : IntKind.i64.wrap ((rs.length : Int) - 1) = (rs.length : Int) - 1 := IntWalk.i64_in _ (by omega)
        have k2 : decide ((k : Int) < (rs.length : Int) - 1) = false := by rw [← hlast.out]; exact decide_eq_decide.2 (by omega)
        refine wp_region_sched (ops := ops_4_10) Ext [] (.quiet 0 (.quiet 2 (.loud 1 (.loud 3 (.loud 4 (.quiet 5 (.quiet 6 (.quiet 7 (.quiet 8 (.quiet 9 (.quiet 10 (.quiet 11 (.quiet 12 (.quiet 13 (.quiet 14 (.quiet 15 (.done)))))))))))) (.stop)) (.stop)) (.stop)))) (by kernel_rfl) ext_refl ext_trans (by kernel_rfl) (fun _ _ d _ _ h => by cases d <;> exact h) ?_
        refine wpS_quiet (some 39) { dst := some 39, op := Op.load 24 (Operand.tmp 8), type := _, pos := _, after := _, guard := none } _ rfl rfl (by rfl) (fun wE hE => by (have zk0 := hE.cellS x0; have zk1 := hE.cellS x1; have zk2 := hE.cellS x2; have zk3 := hE.cellS x3; have zk4 := hE.cellS x4; have zk5 := hE.cellS x5; have zk6 := hE.cellS x6; have zk7 := hE.cellS x7; have zk8 := hE.cellS g0; have zk9 := hE.cellS g1; have zk10 := hE.cellS g2; have zk11 := hE.cellS g3; have zk12 := hE.cellS g4; have zk13 := hE.cellS g5; have zk14 := hE.cellS g6; have zk15 := hE.cellS g7; go_simp; try with_reducible rfl)) ?_; simp only [Act.put, List.setIfInBounds_toArray, List.set_cons_zero, List.set_cons_succ]
        refine wpS_quiet (some 41) { dst := some 41, op := Op.load 24 (Operand.tmp 2), type := _, pos := _, after := _, guard := none } _ rfl rfl (by rfl) (fun wE hE => by (have zk0 := hE.cellS x0; have zk1 := hE.cellS x1; have zk2 := hE.cellS x2; have zk3 := hE.cellS x3; have zk4 := hE.cellS x4; have zk5 := hE.cellS x5; have zk6 := hE.cellS x6; have zk7 := hE.cellS x7; have zk8 := hE.cellS g0; have zk9 := hE.cellS g1; have zk10 := hE.cellS g2; have zk11 := hE.cellS g3; have zk12 := hE.cellS g4; have zk13 := hE.cellS g5; have zk14 := hE.cellS g6; have zk15 := hE.cellS g7; go_simp; try with_reducible rfl)) ?_; simp only [Act.put, List.setIfInBounds_toArray, List.set_cons_zero, List.set_cons_succ]
        refine wpS_call (some 40) { dst := some 40, op := Op.call { callee := Callee.value (Operand.func 11), args := #[Operand.tmp 39], argTypes := #[24] }, type := _, pos := _, after := _, guard := none } 11 _ rfl rfl (by rfl) (by go_simp; try first | with_reducible rfl | exact ⟨rfl, rfl⟩) ?_
        refine (bare_any (part X false f) A1 f.length c1 W.drew).mono ?_; rintro e y1 ⟨rfl, f1⟩; refine ⟨_, rfl, f1, ?_⟩; simp only [Act.put, List.setIfInBounds_toArray, List.set_cons_zero, List.set_cons_succ]
        have F1 : Ext W y1 := f1.undrew
        refine wpS_call (some 42) { dst := some 42, op := Op.call { callee := Callee.value (Operand.func 11), args := #[Operand.tmp 41], argTypes := #[24] }, type := _, pos := _, after := _, guard := none } 11 _ rfl rfl (by rfl) (by go_simp; try first | with_reducible rfl | exact ⟨rfl, rfl⟩) ?_
        refine (bare_any X A X.events.length cap y1).mono ?_; rintro e y2 ⟨rfl, f2⟩; refine ⟨_, rfl, f2, ?_⟩; simp only [Act.put, List.setIfInBounds_toArray, List.set_cons_zero, List.set_cons_succ]
        have F2 := F1.trans f2
        refine wpS_call (some 43) { dst := some 43, op := Op.call { callee := Callee.value (Operand.func 10), args := #[Operand.tmp 40, Operand.tmp 42], argTypes := #[24, 24] }, type := _, pos := _, after := _, guard := none } 10 _ rfl rfl (by rfl) (by go_simp; try first | with_reducible rfl | exact ⟨rfl, rfl⟩) ?_
        refine (same_any (withF X) y2).mono ?_; rintro e y3 ⟨rfl, f3⟩; refine ⟨_, rfl, f3, ?_⟩; simp only [Act.put, List.setIfInBounds_toArray, List.set_cons_zero, List.set_cons_succ]
        have F3 := F2.trans f3
        have x5 := F3.cellS x5
        refine wpS_quiet (some 44) { dst := some 44, op := Op.unOp UnOp.not 4 (Operand.tmp 43), type := _, pos := _, after := _, guard := none } _ rfl rfl (by rfl) (fun wE hE => by (go_simp; try with_reducible rfl)) ?_; simp only [Act.put, List.setIfInBounds_toArray, List.set_cons_zero, List.set_cons_succ]
        refine wpS_quiet (some 45) { dst := some 45, op := Op.move (Operand.tmp 44), type := _, pos := _, after := _, guard := none } _ rfl rfl (by rfl) (fun wE hE => by (go_simp; try with_reducible rfl)) ?_; simp only [Act.put, List.setIfInBounds_toArray, List.set_cons_zero, List.set_cons_succ]
        (first | refine wpS_quiet (some 46) { dst := some 46, op := Op.fieldAddr 24 (Operand.tmp 8) 5, type := _, pos := _, after := _, guard := some (6, false) } _ rfl rfl (by rfl) (fun wE hE => by (go_simp; try with_reducible rfl)) ?_ | refine wpS_pass (some 46) _ rfl rfl (by rfl) ?_); simp only [Act.put, List.setIfInBounds_toArray, List.set_cons_zero, List.set_cons_succ]
        (first | refine wpS_quiet (some 47) { dst := some 47, op := Op.load 4 (Operand.tmp 46), type := _, pos := _, after := _, guard := some (6, false) } _ rfl rfl (by rfl) (fun wE hE => by (have zk0 := hE.cellS x5; go_simp; try with_reducible rfl)) ?_ | refine wpS_pass (some 47) _ rfl rfl (by rfl) ?_); simp only [Act.put, List.setIfInBounds_toArray, List.set_cons_zero, List.set_cons_succ]
        (first | refine wpS_quiet (some 48) { dst := some 48, op := Op.move (Operand.tmp 7), type := _, pos := _, after := _, guard := some (6, false) } _ rfl rfl (by rfl) (fun wE hE => by (go_simp; try with_reducible rfl)) ?_ | refine wpS_pass (some 48) _ rfl rfl (by rfl) ?_); simp only [Act.put, List.setIfInBounds_toArray, List.set_cons_zero, List.set_cons_succ]
        (first | refine wpS_quiet (some 49) { dst := some 49, op := Op.move (Operand.tmp 5), type := _, pos := _, after := _, guard := some (6, false) } _ rfl rfl (by rfl) (fun wE hE => by (go_simp; try with_reducible rfl)) ?_ | refine wpS_pass (some 49) _ rfl rfl (by rfl) ?_); simp only [Act.put, List.setIfInBounds_toArray, List.set_cons_zero, List.set_cons_succ]
        (first | refine wpS_quiet (some 50) { dst := some 50, op := Op.call { callee := Callee.builtin Builtin.len, args := #[Operand.tmp 49], argTypes := #[29] }, type := _, pos := _, after := _, guard := some (6, false) } _ rfl rfl (by rfl) (fun wE hE => by (go_simp; try with_reducible rfl)) ?_ | refine wpS_pass (some 50) _ rfl rfl (by rfl) ?_); simp only [Act.put, List.setIfInBounds_toArray, List.set_cons_zero, List.set_cons_succ]
        (first | refine wpS_quiet (some 51) { dst := some 51, op := Op.binOp BinOp.sub 3 (Operand.tmp 50) (Operand.const (Value.int IntKind.i64 1)) 3, type := _, pos := _, after := _, guard := some (6, false) } _ rfl rfl (by rfl) (fun wE hE => by (go_simp; try with_reducible rfl)) ?_ | refine wpS_pass (some 51) _ rfl rfl (by rfl) ?_); simp only [Act.put, List.setIfInBounds_toArray, List.set_cons_zero, List.set_cons_succ]
        (first | refine wpS_quiet (some 52) { dst := some 52, op := Op.binOp BinOp.lss 3 (Operand.tmp 48) (Operand.tmp 51) 3, type := _, pos := _, after := _, guard := some (6, false) } _ rfl rfl (by rfl) (fun wE hE => by (go_simp; try with_reducible rfl)) ?_ | refine wpS_pass (some 52) _ rfl rfl (by rfl) ?_); simp only [Act.put, List.setIfInBounds_toArray, List.set_cons_zero, List.set_cons_succ]
        (first | refine wpS_quiet (some 53) { dst := some 53, op := Op.binOp BinOp.neq 4 (Operand.tmp 47) (Operand.tmp 52) 4, type := _, pos := _, after := _, guard := some (6, false) } _ rfl rfl (by rfl) (fun wE hE => by (go_simp; try with_reducible rfl)) ?_ | refine wpS_pass (some 53) _ rfl rfl (by rfl) ?_); simp only [Act.put, List.setIfInBounds_toArray, List.set_cons_zero, List.set_cons_succ]
        refine wpS_quiet (some 54) { dst := some 54, op := Op.pick (Operand.tmp 45) (Operand.const (Value.bool true)) (Operand.tmp 53), type := _, pos := _, after := _, guard := none } _ rfl rfl (by rfl) (fun wE hE => by (go_simp; try with_reducible rfl)) ?_; simp only [Act.put, List.setIfInBounds_toArray, List.set_cons_zero, List.set_cons_succ]
        change Exit.then _ _ _ _ _
        clear k1 k2 x0 x1 x2 x3 x4 x6 g0 g1 g2 g3 g4 g5 g6 g7
        have x7 := F3.cellS x7
        have F4 := EW.trans F3
        have HS2 := Lib.hid ((Rp.slice Rp.evx).ext' F4 HS1.out)
        have HO2 := Lib.hid (hO.out.ext F4)
        have hsz := hE.size
        have hsz2 := F4.size
        have hob := Lib.hid hO.out.own
        obtain ⟨i0, z0, hi, hz0, hz1, hz2, hz3⟩ := info_parts2 infoEv
        have hfm : ((rs.take k).flatMap (·.events)).length ≤ 60 := by
          have h1 := congrArg List.length HALL.out
          rw [← List.take_append_drop k rs, List.flatMap_append, List.length_append] at h1
          omega
        have hfs : Hid ((rs.take (k + 1)).flatMap (·.events) = (rs.take k).flatMap (·.events) ++ f) := Lib.hid (by rw [take_snoc HRK.out, List.flatMap_append]; simp [part])
        cases A1 with
        | none =>
          obtain ⟨rfl, hf0, rfl⟩ := slice_nil HS2.out
          rw [hf0] at x7
          go_wp2_with (refine wpList_app0 (d := Rp.evx) rfl (.tmp 55) (.tmp 57) 22 rfl 37 i0 Try.underlying22 hi rfl HO2.out rfl ?_)
          go_roundw
          case rel => exact ⟨k + 1, by go_num, by omega, by rw [hfs.out, List.append_nil]; exact HO2, hE.trans F4⟩
          case measure => simp [intOf]; omega
        | some ad =>
          obtain ⟨_, news, hnl, hnn, hnK⟩ := slice_news HS2.out
          have HNN := Lib.hid hnn
          have HNK := Lib.hid hnK
          clear hnn hnK
          go_wp2_with (at_builtin; refine wpList_app (d := Rp.evx) (base := w3.heap.size) rfl (.tmp 55) (.tmp 57) 22 rfl 37 i0 _ 144 Try.underlying22 hi hz0 hz1 hz2 hz3 (v := u6) rfl HO2.out (fun q hq => trivial) ad c1 news f rfl hnl HNN.out HNK.out (by simp only [maxLen]; omega) (by omega) (by omega) ?_; intro v2 w4 own4 g4 f4; have O4 := Lib.hid own4; have G4 := Lib.hid g4; clear own4 g4 f4)
          have E4 : Ext w3 w4 := (((hE.trans F4).toX (fun q => some q = Value.ownBlock u6)).grown G4.out (fun q h => h.symm)).toExt (fun q hq => (hob.out q hq.symm).1)
          go_roundw
          case rel => exact ⟨k + 1, by go_num, by omega, by rw [hfs.out]; exact O4, E4⟩
          case measure => simp [intOf]; omega
    · have hkn : k = rs.length := by omega
      have own := hO.out
      rw [hkn, List.take_length, HALL.out] at own
      obtain ⟨Au, cu, rfl, _, _⟩ := own.shape
      have HU := Lib.hid ((Rp.slice Rp.evx).toAny own.slice)
      have HW := Lib.hid ((Rp.slice Rp.evx).ext' (E3.trans hE) (slice_evx S2.out))
      have KW := K3.ext hE
      replace hkn := Lib.hid hkn
      clear own hO
      have g0 := KW.cell (o := 0) rfl
      have g1 := KW.cell (o := 1) rfl
      have g2 := KW.cell (o := 2) rfl
      have g3 := KW.cell (o := 3) rfl
      have g4 := KW.cell (o := 4) rfl
      have g5 := KW.cell (o := 5) rfl
      have g6 := KW.cell (o := 6) rfl
      have g7 := KW.cell (o := 7) rfl
      have d1 : decide ((0 : Int) < (rs.length : Int)) = true := by simp; omega
      have d1' : decide (0 < rs.length) = true := by simp; omega
      by_cases h2 : X.events.length < 2
      · have d2 : decide ((X.events.length : Int) < 2) = true := by simp; omega
        have d3 : ((rs.length : Int) == 1) = true := beq_iff_eq.2 (by have := HONE.out (.inl h2); omega)
        have d3' : (rs.length == 1) = true := beq_iff_eq.2 (HONE.out (.inl h2))
        go_wp2_with fail
        refine (evsSame X.events Au A _ _ cu cap wr rfl rfl (by omega) ((Rp.slice Rp.evx).ext' (Ext.refl wr) HU.out) ((Rp.slice Rp.evx).ext' (Ext.refl wr) HW.out)).mono ?_
        rintro e y2 ⟨rfl, f2⟩
        go_wp2_with fail
        refine (live_any y2).mono ?_
        rintro e y3 ⟨rfl, f3⟩
        go_wp2
        go_ret
        exact ⟨rfl, (((E3'.trans hE).trans ((Ext.refl wr))).trans f2).trans f3⟩
      · have d2 : decide ((X.events.length : Int) < 2) = false := by simp; omega
        go_wp2_with fail
        refine (wireSize_n X A _ cap rfl wr (by omega) (by omega) (fun y hy => (hx2.out y hy).1) ((Rp.slice Rp.ev).ext' (E3.trans hE) S2.out)).mono ?_
        rintro e y1 ⟨rfl, f1⟩
        have KW := KW.ext f1
        clear g0 g1 g2 g3 g4 g5 g6 g7
        have g0 := KW.cell (o := 0) rfl
        have g1 := KW.cell (o := 1) rfl
        have g2 := KW.cell (o := 2) rfl
        have g3 := KW.cell (o := 3) rfl
        have g4 := KW.cell (o := 4) rfl
        have g5 := KW.cell (o := 5) rfl
        have g6 := KW.cell (o := 6) rfl
        have g7 := KW.cell (o := 7) rfl
        by_cases h3 : X.size < m
        · have d4 : decide ((X.size : Int) < (m : Int)) = true := by simp; omega
          have d4' : decide (X.size < m) = true := by simp; omega
          have d3 : ((rs.length : Int) == 1) = true := beq_iff_eq.2 (by have := HONE.out (.inr h3); omega)
          have d3' : (rs.length == 1) = true := beq_iff_eq.2 (HONE.out (.inr h3))
          go_wp2_with fail
          refine (evsSame X.events Au A _ _ cu cap y1 rfl rfl (by omega) ((Rp.slice Rp.evx).ext' f1 HU.out) ((Rp.slice Rp.evx).ext' f1 HW.out)).mono ?_
          rintro e y2 ⟨rfl, f2⟩
          go_wp2_with fail
          refine (live_any y2).mono ?_
          rintro e y3 ⟨rfl, f3⟩
          go_wp2
          go_ret
          exact ⟨rfl, (((E3'.trans hE).trans (f1)).trans f2).trans f3⟩
        · have d4 : decide ((X.size : Int) < (m : Int)) = false := by simp; omega
          have d4' : decide (X.size < m) = false := by simp; omega
          go_wp2_with fail
          refine (evsSame X.events Au A _ _ cu cap y1 rfl rfl (by omega) ((Rp.slice Rp.evx).ext' f1 HU.out) ((Rp.slice Rp.evx).ext' f1 HW.out)).mono ?_
          rintro e y2 ⟨rfl, f2⟩
          go_wp2_with fail
          refine (live_any y2).mono ?_
          rintro e y3 ⟨rfl, f3⟩
          go_wp2
          go_ret
          exact ⟨rfl, (((E3'.trans hE).trans (f1)).trans f2).trans f3⟩
end Go.Proofs.Ytmimpfenlhfkiaa
