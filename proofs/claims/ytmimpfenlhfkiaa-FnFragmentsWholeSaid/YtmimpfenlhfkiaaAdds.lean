/-
  The walk of FnWireAdds.
-/
import Derived.Test.YtmimpfenlhfkiaaLive
namespace Go.Proofs.Ytmimpfenlhfkiaa
open Go.RowKit
set_option linter.unusedSimpArgs false
set_option linter.unusedVariables false

theorem wireSize_n (x : RespD) (A : Option Addr) (n cap : Nat) (hl : n = x.events.length) (w : World) (hr : x.reason.size ≤ 1000000) (hn : x.events.length ≤ 1000) (ho : ∀ y : EvD, y ∈ x.events → y.ok) (h : (Rp.slice Rp.ev).K w any x.events [.slice A n cap]) :
    Calls Try.prog 8 #[.agg #[.int .i64 x.id, .int .i64 x.rev, .int .i64 x.compact, .bool x.created, .bool x.canceled, .bool x.fragment, .string x.reason, .slice A n cap]] w fun e w' => e = .returned (.int .i64 x.size) ∧ Ext w w' := by
  subst hl
  exact wireSize_any x A cap w hr hn ho h
theorem evsSize_cut (l : List EvD) (k : Nat) : evsSize l = evsSize (l.take k) + evsSize (l.drop k) := by
  unfold evsSize
  rw [← List.sum_append, ← List.map_append, List.take_append_drop]
/-- a response with other events -/
abbrev withEv (x : RespD) (l : List EvD) : RespD := { x with events := l }
theorem good_ok {x : RespD} (h : ∀ y ∈ x.events, EvGood y) : ∀ y : EvD, y ∈ x.events → y.ok ∧ y.plain := fun y hy => by
  obtain ⟨h1, h2, h3, h4, h5⟩ := h y hy
  exact ⟨⟨by omega, by omega, by omega, by omega⟩, h5⟩
abbrev sentN (x : RespD) (A : Option Addr) (n cap : Nat) : List Value := [.int .i64 x.id, .int .i64 x.rev, .int .i64 x.compact, .bool x.created, .bool x.canceled, .bool x.fragment, .string x.reason, .slice A n cap]
theorem slice_cap {α : Type} {d : Rp α} {w : World} {ok : Nat → Prop} {xs : List α} {A : Option Addr} {n c : Nat} (h : (Rp.slice d).K w ok xs [.slice A n c]) : n ≤ c := by
  obtain ⟨A', c', hv, h1, _⟩ := h
  simp only [List.cons.injEq, Value.slice.injEq, and_true] at hv
  obtain ⟨rfl, rfl, rfl⟩ := hv
  exact h1
theorem infoEvSz : (Try.prog.info? 37).map (·.size) = some 14 := by kernel_rfl
theorem RespD.size_lt2 (x : RespD) (hr : x.reason.size ≤ 1000000) (hn : x.events.length ≤ 1000) (ho : ∀ y : EvD, y ∈ x.events → y.ok) : x.size < 4611686018427387904 := by
  have := evsSize_le x.events ho
  have z0 := ilen_le x.rev; have z1 := ilen_le x.id; have z2 := ilen_le (b2i x.created); have z3 := ilen_le (b2i x.canceled); have z4 := ilen_le x.compact
  have z5 := ilen_le (b2i x.fragment); have z6 := blen_le x.reason.size (by omega); have z7 := blen_le (ilen x.rev) (by omega)
  have z8 : (if x.reason.size = 0 then 0 else blen x.reason.size) ≤ 1000012 := by split <;> omega
  unfold RespD.size RespD.bare
  omega

noncomputable def ops_3_5 : Array Oper := opsAt Try.f3 5
noncomputable def ops_3_6 : Array Oper := opsAt Try.f3 6
noncomputable def ops_3_7 : Array Oper := opsAt Try.f3 7
set_option maxHeartbeats 2000000 in
set_option maxRecDepth 20000 in
theorem walk_WireAdds (x : RespD) (A : Option Addr) (cap : Nat) (cut : Int) (w : World) (hl : x.events.length ≤ maxLen) (h : (Rp.slice Rp.ev).K w any x.events [.slice A x.events.length cap]) :
    Calls Try.prog 3 #[sentV x A cap, .int .i64 cut] w fun e w' => e = .returned (.bool true) ∧ Ext w w' := by
  have HS := Lib.hid h
  have HX := Lib.hid (slice_evx h)
  clear h
  go_enter Try.func3, Try.ntmps3
  go_wp2_with fail
  refine (fits40 x A cap _ ((Rp.slice Rp.evx).ext' ((Ext.refl w).alloc _) HX.out) (by unfold maxLen at hl; omega)).mono ?_
  rintro e w1 ⟨c, rfl, E1⟩
  have K1 := (Blk.new w 24 (sentN x A x.events.length cap)).ext (show Ext (w.alloc (.cells (sentN x A x.events.length cap).toArray 24)) w1 from E1)
  replace E1 := ((Ext.refl w).alloc _).trans E1
  have g0 := K1.cell (o := 0) rfl
  have g1 := K1.cell (o := 1) rfl
  have g2 := K1.cell (o := 2) rfl
  have g3 := K1.cell (o := 3) rfl
  have g4 := K1.cell (o := 4) rfl
  have g5 := K1.cell (o := 5) rfl
  have g6 := K1.cell (o := 6) rfl
  have g7 := K1.cell (o := 7) rfl
  cases c with
  | false =>
    go_wp2
    go_ret
    exact ⟨rfl, E1⟩
  | true =>
  go_wp2_with fail
  refine (frGood_any x A cap w1 ((Rp.slice Rp.evx).ext' E1 HX.out)).mono ?_
  rintro e w2 ⟨c, rfl, hgood, E2⟩
  replace K1 := K1.ext E2
  replace E2 := E1.trans E2
  clear g0 g1 g2 g3 g4 g5 g6 g7
  have g0 := K1.cell (o := 0) rfl
  have g1 := K1.cell (o := 1) rfl
  have g2 := K1.cell (o := 2) rfl
  have g3 := K1.cell (o := 3) rfl
  have g4 := K1.cell (o := 4) rfl
  have g5 := K1.cell (o := 5) rfl
  have g6 := K1.cell (o := 6) rfl
  have g7 := K1.cell (o := 7) rfl
  cases c with
  | false =>
    clear hgood
    go_wp2_with fail
    refine (live_any w2).mono ?_
    rintro e w3 ⟨rfl, E3⟩
    go_wp2
    go_ret
    exact ⟨rfl, E2.trans E3⟩
  | true =>
  have HG := Lib.hid (hgood rfl)
  clear hgood
  by_cases hc0 : cut < 0
  · have hd0 : decide (cut < 0) = true := by simpa using hc0
    go_wp2_with fail
    refine (live_any w2).mono ?_
    rintro e w3 ⟨rfl, E3⟩
    go_wp2
    go_ret
    exact ⟨rfl, E2.trans E3⟩
  have hd0 : decide (cut < 0) = false := by simpa using hc0
  by_cases hc1 : (x.events.length : Int) < cut
  · have hd1 : decide ((x.events.length : Int) < cut) = true := by simpa using hc1
    go_wp2_with fail
    refine (live_any w2).mono ?_
    rintro e w3 ⟨rfl, E3⟩
    go_wp2
    go_ret
    exact ⟨rfl, E2.trans E3⟩
  have hd1 : decide ((x.events.length : Int) < cut) = false := by simpa using hc1
  obtain ⟨m, rfl⟩ := Int.eq_ofNat_of_zero_le (by omega : 0 ≤ cut)
  go_upto_region 5 with fail
  obtain ⟨s, hs0⟩ : ∃ s, w2.heap.size = s := ⟨_, rfl⟩
  have KL := K1.lt
  go_cut [5, 6, 7] (fun p5 p6 p7 wx => ∃ b5 b6 b7, p5 = .pointer (some ⟨b5, 0, none⟩) ∧ p6 = .pointer (some ⟨b6, 0, none⟩) ∧ p7 = .pointer (some ⟨b7, 0, none⟩) ∧ Hid (b5 ≠ b6 ∧ b5 ≠ b7 ∧ b6 ≠ b7 ∧ s ≤ b5 ∧ s ≤ b6 ∧ s ≤ b7) ∧
    Hid (Blk wx b5 24 (sentN x A x.events.length cap)) ∧ Hid (Blk wx b6 24 (sentN x A x.events.length cap)) ∧ Hid (Blk wx b7 24 (sentN x A x.events.length cap)) ∧ Ext w2 wx)
  case first =>
    have hsL : w.heap.size < s := by omega
    have hs : s ≤ w2.drew.heap.size := Nat.le_of_eq hs0.symm
    replace hs0 := Lib.hid hs0
    refine wp_region_sched (ops := ops_3_5) (ExtB s) [8] (.quiet 0 (.quiet 1 (.quiet 2 (.loud 3 (.loud 4 (.loud 5 (.loud 6 (.loud 7 (.last 8 (.done)) (.stop)) (.stop)) (.stop)) (.loud 5 (.loud 4 (.loud 6 (.loud 7 (.last 8 (.done)) (.stop)) (.stop)) (.stop)) (.stop))) (.loud 4 (.loud 3 (.loud 5 (.loud 6 (.loud 7 (.last 8 (.done)) (.stop)) (.stop)) (.stop)) (.loud 5 (.loud 3 (.loud 6 (.loud 7 (.last 8 (.done)) (.stop)) (.stop)) (.stop)) (.stop))) (.loud 5 (.loud 3 (.loud 4 (.loud 6 (.loud 7 (.last 8 (.done)) (.stop)) (.stop)) (.stop)) (.loud 4 (.loud 3 (.loud 6 (.loud 7 (.last 8 (.done)) (.stop)) (.stop)) (.stop)) (.stop))) (.stop))))))) (by kernel_rfl) (extB_refl s) (extB_trans s) (by kernel_rfl) (fun _ _ d _ _ h => by cases d <;> exact h) ?_
    have E : ExtB s w2 w2.drew := ExtB.refl _ _
    refine wpS_quiet (some 26) { dst := some 26, op := Op.load 24 (Operand.tmp 2), type := _, pos := _, after := _, guard := none } _ rfl rfl (by rfl) (fun wE hE => by (have zk0 := hE.cellS hsL g0; have zk1 := hE.cellS hsL g1; have zk2 := hE.cellS hsL g2; have zk3 := hE.cellS hsL g3; have zk4 := hE.cellS hsL g4; have zk5 := hE.cellS hsL g5; have zk6 := hE.cellS hsL g6; have zk7 := hE.cellS hsL g7; go_simp; try with_reducible rfl)) ?_; simp only [Act.put, List.setIfInBounds_toArray, List.set_cons_zero, List.set_cons_succ]
    refine wpS_quiet (some 27) { dst := some 27, op := Op.load 24 (Operand.tmp 2), type := _, pos := _, after := _, guard := none } _ rfl rfl (by rfl) (fun wE hE => by (have zk0 := hE.cellS hsL g0; have zk1 := hE.cellS hsL g1; have zk2 := hE.cellS hsL g2; have zk3 := hE.cellS hsL g3; have zk4 := hE.cellS hsL g4; have zk5 := hE.cellS hsL g5; have zk6 := hE.cellS hsL g6; have zk7 := hE.cellS hsL g7; go_simp; try with_reducible rfl)) ?_; simp only [Act.put, List.setIfInBounds_toArray, List.set_cons_zero, List.set_cons_succ]
    refine wpS_quiet (some 28) { dst := some 28, op := Op.load 24 (Operand.tmp 2), type := _, pos := _, after := _, guard := none } _ rfl rfl (by rfl) (fun wE hE => by (have zk0 := hE.cellS hsL g0; have zk1 := hE.cellS hsL g1; have zk2 := hE.cellS hsL g2; have zk3 := hE.cellS hsL g3; have zk4 := hE.cellS hsL g4; have zk5 := hE.cellS hsL g5; have zk6 := hE.cellS hsL g6; have zk7 := hE.cellS hsL g7; go_simp; try with_reducible rfl)) ?_; simp only [Act.put, List.setIfInBounds_toArray, List.set_cons_zero, List.set_cons_succ]
    refine wpS_alloc (some 5) { dst := some 5, op := Op.alloc 24, type := _, pos := _, after := _, guard := none } _ _ rfl rfl (by rfl) (by go_simp; try with_reducible rfl) ?_ ?_ ?_
    rotate_right
    · skip
      refine wpS_alloc (some 6) { dst := some 6, op := Op.alloc 24, type := _, pos := _, after := _, guard := none } _ _ rfl rfl (by rfl) (by go_simp; try with_reducible rfl) ?_ ?_ ?_
      rotate_right
      · skip
        refine wpS_alloc (some 7) { dst := some 7, op := Op.alloc 24, type := _, pos := _, after := _, guard := none } _ _ rfl rfl (by rfl) (by go_simp; try with_reducible rfl) ?_ ?_ trivial
        exact fun w' h => h.toB hs
        intro b7 w7 hb e7 K7
        have g7 : s ≤ b7 := by omega
        (try have n57 : b5 ≠ b7 := by (have := K5.lt; omega))
        (try have n67 : b6 ≠ b7 := by (have := K6.lt; omega))
        clear hb
        (try replace K5 := K5.ext e7)
        (try replace K6 := K6.ext e7)
        have E := E.trans (e7.toB hs)
        have hs := Nat.le_trans hs e7.size
        simp only [Act.put, List.setIfInBounds_toArray, List.set_cons_zero, List.set_cons_succ]
        refine wpS_alloc (some 5) { dst := some 5, op := Op.alloc 24, type := _, pos := _, after := _, guard := none } _ _ rfl rfl (by rfl) (by go_simp; try with_reducible rfl) ?_ ?_ ?_
        rotate_right
        · skip
          refine wpS_alloc (some 6) { dst := some 6, op := Op.alloc 24, type := _, pos := _, after := _, guard := none } _ _ rfl rfl (by rfl) (by go_simp; try with_reducible rfl) ?_ ?_ trivial
          exact fun w' h => h.toB hs
          intro b6 w6 hb e6 K6
          have g6 : s ≤ b6 := by omega
          (try have n56 : b5 ≠ b6 := by (have := K5.lt; omega))
          (try have n67 : b6 ≠ b7 := by (have := K7.lt; omega))
          clear hb
          (try replace K5 := K5.ext e6)
          (try replace K7 := K7.ext e6)
          have E := E.trans (e6.toB hs)
          have hs := Nat.le_trans hs e6.size
          simp only [Act.put, List.setIfInBounds_toArray, List.set_cons_zero, List.set_cons_succ]
          refine wpS_alloc (some 5) { dst := some 5, op := Op.alloc 24, type := _, pos := _, after := _, guard := none } _ _ rfl rfl (by rfl) (by go_simp; try with_reducible rfl) ?_ ?_ trivial
          exact fun w' h => h.toB hs
          intro b5 w5 hb e5 K5
          have g5 : s ≤ b5 := by omega
          (try have n56 : b5 ≠ b6 := by (have := K6.lt; omega))
          (try have n57 : b5 ≠ b7 := by (have := K7.lt; omega))
          clear hb
          (try replace K6 := K6.ext e5)
          (try replace K7 := K7.ext e5)
          have E := E.trans (e5.toB hs)
          have hs := Nat.le_trans hs e5.size
          simp only [Act.put, List.setIfInBounds_toArray, List.set_cons_zero, List.set_cons_succ]
          refine wpS_storeL none { dst := none, op := Op.store 24 (Operand.tmp 5) (Operand.tmp 26), type := _, pos := _, after := _, guard := none } rfl rfl (by rfl) (.tmp 5) (.tmp 26) 24 rfl rfl rfl rfl K5 rfl (Nat.le_refl 8) rfl (fun w' x => x.toB (fun k hk => by have hk : k = b5 := hk; omega) hs) ?_ trivial
          intro w8 Kn x8
          (have e8 := x8.toB (B := s) (fun k hk => by have hk : k = b5 := hk; omega) hs)
          replace K5 := Kn
          (try replace K6 := K6.extX x8 n56.symm)
          (try replace K7 := K7.extX x8 n57.symm)
          have E := E.trans e8
          have hs := Nat.le_trans hs e8.size
          simp only [Act.put, List.setIfInBounds_toArray, List.set_cons_zero, List.set_cons_succ]
          refine wpS_storeL none { dst := none, op := Op.store 24 (Operand.tmp 6) (Operand.tmp 27), type := _, pos := _, after := _, guard := none } rfl rfl (by rfl) (.tmp 6) (.tmp 27) 24 rfl rfl rfl rfl K6 rfl (Nat.le_refl 8) rfl (fun w' x => x.toB (fun k hk => by have hk : k = b6 := hk; omega) hs) ?_ trivial
          intro w9 Kn x9
          (have e9 := x9.toB (B := s) (fun k hk => by have hk : k = b6 := hk; omega) hs)
          replace K6 := Kn
          (try replace K5 := K5.extX x9 n56)
          (try replace K7 := K7.extX x9 n67.symm)
          have E := E.trans e9
          have hs := Nat.le_trans hs e9.size
          simp only [Act.put, List.setIfInBounds_toArray, List.set_cons_zero, List.set_cons_succ]
          refine wpS_store none { dst := none, op := Op.store 24 (Operand.tmp 7) (Operand.tmp 28), type := _, pos := _, after := _, guard := none } rfl rfl (by rfl) (.tmp 7) (.tmp 28) 24 rfl rfl rfl rfl K7 rfl (Nat.le_refl 8) rfl ?_
          intro wa Kn xa
          (have ea := xa.toB (B := s) (fun k hk => by have hk : k = b7 := hk; omega) hs)
          replace K7 := Kn
          replace K5 := K5.extX xa n57
          replace K6 := K6.extX xa n67
          have E := E.trans ea
          simp only [Act.put, List.setIfInBounds_toArray, List.set_cons_zero, List.set_cons_succ]
          change Exit.then _ _ _ _ _
          go_wp2
          go_meet
          exact ⟨b5, b6, b7, rfl, rfl, rfl, Lib.hid ⟨n56, n57, n67, g5, g6, g7⟩, Lib.hid K5, Lib.hid K6, Lib.hid K7, (E.mono (Nat.le_of_eq hs0.out)).ext⟩
        exact fun w' h => h.toB hs
        intro b5 w5 hb e5 K5
        have g5 : s ≤ b5 := by omega
        (try have n56 : b5 ≠ b6 := by (have := K6.lt; omega))
        (try have n57 : b5 ≠ b7 := by (have := K7.lt; omega))
        clear hb
        (try replace K6 := K6.ext e5)
        (try replace K7 := K7.ext e5)
        have E := E.trans (e5.toB hs)
        have hs := Nat.le_trans hs e5.size
        simp only [Act.put, List.setIfInBounds_toArray, List.set_cons_zero, List.set_cons_succ]
        refine wpS_alloc (some 6) { dst := some 6, op := Op.alloc 24, type := _, pos := _, after := _, guard := none } _ _ rfl rfl (by rfl) (by go_simp; try with_reducible rfl) ?_ ?_ trivial
        exact fun w' h => h.toB hs
        intro b6 w6 hb e6 K6
        have g6 : s ≤ b6 := by omega
        (try have n56 : b5 ≠ b6 := by (have := K5.lt; omega))
        (try have n67 : b6 ≠ b7 := by (have := K7.lt; omega))
        clear hb
        (try replace K5 := K5.ext e6)
        (try replace K7 := K7.ext e6)
        have E := E.trans (e6.toB hs)
        have hs := Nat.le_trans hs e6.size
        simp only [Act.put, List.setIfInBounds_toArray, List.set_cons_zero, List.set_cons_succ]
        refine wpS_storeL none { dst := none, op := Op.store 24 (Operand.tmp 5) (Operand.tmp 26), type := _, pos := _, after := _, guard := none } rfl rfl (by rfl) (.tmp 5) (.tmp 26) 24 rfl rfl rfl rfl K5 rfl (Nat.le_refl 8) rfl (fun w' x => x.toB (fun k hk => by have hk : k = b5 := hk; omega) hs) ?_ trivial
        intro w8 Kn x8
        (have e8 := x8.toB (B := s) (fun k hk => by have hk : k = b5 := hk; omega) hs)
        replace K5 := Kn
        (try replace K6 := K6.extX x8 n56.symm)
        (try replace K7 := K7.extX x8 n57.symm)
        have E := E.trans e8
        have hs := Nat.le_trans hs e8.size
        simp only [Act.put, List.setIfInBounds_toArray, List.set_cons_zero, List.set_cons_succ]
        refine wpS_storeL none { dst := none, op := Op.store 24 (Operand.tmp 6) (Operand.tmp 27), type := _, pos := _, after := _, guard := none } rfl rfl (by rfl) (.tmp 6) (.tmp 27) 24 rfl rfl rfl rfl K6 rfl (Nat.le_refl 8) rfl (fun w' x => x.toB (fun k hk => by have hk : k = b6 := hk; omega) hs) ?_ trivial
        intro w9 Kn x9
        (have e9 := x9.toB (B := s) (fun k hk => by have hk : k = b6 := hk; omega) hs)
        replace K6 := Kn
        (try replace K5 := K5.extX x9 n56)
        (try replace K7 := K7.extX x9 n67.symm)
        have E := E.trans e9
        have hs := Nat.le_trans hs e9.size
        simp only [Act.put, List.setIfInBounds_toArray, List.set_cons_zero, List.set_cons_succ]
        refine wpS_store none { dst := none, op := Op.store 24 (Operand.tmp 7) (Operand.tmp 28), type := _, pos := _, after := _, guard := none } rfl rfl (by rfl) (.tmp 7) (.tmp 28) 24 rfl rfl rfl rfl K7 rfl (Nat.le_refl 8) rfl ?_
        intro wa Kn xa
        (have ea := xa.toB (B := s) (fun k hk => by have hk : k = b7 := hk; omega) hs)
        replace K7 := Kn
        replace K5 := K5.extX xa n57
        replace K6 := K6.extX xa n67
        have E := E.trans ea
        simp only [Act.put, List.setIfInBounds_toArray, List.set_cons_zero, List.set_cons_succ]
        change Exit.then _ _ _ _ _
        go_wp2
        go_meet
        exact ⟨b5, b6, b7, rfl, rfl, rfl, Lib.hid ⟨n56, n57, n67, g5, g6, g7⟩, Lib.hid K5, Lib.hid K6, Lib.hid K7, (E.mono (Nat.le_of_eq hs0.out)).ext⟩
      exact fun w' h => h.toB hs
      intro b6 w6 hb e6 K6
      have g6 : s ≤ b6 := by omega
      (try have n56 : b5 ≠ b6 := by (have := K5.lt; omega))
      (try have n67 : b6 ≠ b7 := by (have := K7.lt; omega))
      clear hb
      (try replace K5 := K5.ext e6)
      (try replace K7 := K7.ext e6)
      have E := E.trans (e6.toB hs)
      have hs := Nat.le_trans hs e6.size
      simp only [Act.put, List.setIfInBounds_toArray, List.set_cons_zero, List.set_cons_succ]
      refine wpS_alloc (some 5) { dst := some 5, op := Op.alloc 24, type := _, pos := _, after := _, guard := none } _ _ rfl rfl (by rfl) (by go_simp; try with_reducible rfl) ?_ ?_ ?_
      rotate_right
      · skip
        refine wpS_alloc (some 7) { dst := some 7, op := Op.alloc 24, type := _, pos := _, after := _, guard := none } _ _ rfl rfl (by rfl) (by go_simp; try with_reducible rfl) ?_ ?_ trivial
        exact fun w' h => h.toB hs
        intro b7 w7 hb e7 K7
        have g7 : s ≤ b7 := by omega
        (try have n57 : b5 ≠ b7 := by (have := K5.lt; omega))
        (try have n67 : b6 ≠ b7 := by (have := K6.lt; omega))
        clear hb
        (try replace K5 := K5.ext e7)
        (try replace K6 := K6.ext e7)
        have E := E.trans (e7.toB hs)
        have hs := Nat.le_trans hs e7.size
        simp only [Act.put, List.setIfInBounds_toArray, List.set_cons_zero, List.set_cons_succ]
        refine wpS_alloc (some 5) { dst := some 5, op := Op.alloc 24, type := _, pos := _, after := _, guard := none } _ _ rfl rfl (by rfl) (by go_simp; try with_reducible rfl) ?_ ?_ trivial
        exact fun w' h => h.toB hs
        intro b5 w5 hb e5 K5
        have g5 : s ≤ b5 := by omega
        (try have n56 : b5 ≠ b6 := by (have := K6.lt; omega))
        (try have n57 : b5 ≠ b7 := by (have := K7.lt; omega))
        clear hb
        (try replace K6 := K6.ext e5)
        (try replace K7 := K7.ext e5)
        have E := E.trans (e5.toB hs)
        have hs := Nat.le_trans hs e5.size
        simp only [Act.put, List.setIfInBounds_toArray, List.set_cons_zero, List.set_cons_succ]
        refine wpS_storeL none { dst := none, op := Op.store 24 (Operand.tmp 5) (Operand.tmp 26), type := _, pos := _, after := _, guard := none } rfl rfl (by rfl) (.tmp 5) (.tmp 26) 24 rfl rfl rfl rfl K5 rfl (Nat.le_refl 8) rfl (fun w' x => x.toB (fun k hk => by have hk : k = b5 := hk; omega) hs) ?_ trivial
        intro w8 Kn x8
        (have e8 := x8.toB (B := s) (fun k hk => by have hk : k = b5 := hk; omega) hs)
        replace K5 := Kn
        (try replace K6 := K6.extX x8 n56.symm)
        (try replace K7 := K7.extX x8 n57.symm)
        have E := E.trans e8
        have hs := Nat.le_trans hs e8.size
        simp only [Act.put, List.setIfInBounds_toArray, List.set_cons_zero, List.set_cons_succ]
        refine wpS_storeL none { dst := none, op := Op.store 24 (Operand.tmp 6) (Operand.tmp 27), type := _, pos := _, after := _, guard := none } rfl rfl (by rfl) (.tmp 6) (.tmp 27) 24 rfl rfl rfl rfl K6 rfl (Nat.le_refl 8) rfl (fun w' x => x.toB (fun k hk => by have hk : k = b6 := hk; omega) hs) ?_ trivial
        intro w9 Kn x9
        (have e9 := x9.toB (B := s) (fun k hk => by have hk : k = b6 := hk; omega) hs)
        replace K6 := Kn
        (try replace K5 := K5.extX x9 n56)
        (try replace K7 := K7.extX x9 n67.symm)
        have E := E.trans e9
        have hs := Nat.le_trans hs e9.size
        simp only [Act.put, List.setIfInBounds_toArray, List.set_cons_zero, List.set_cons_succ]
        refine wpS_store none { dst := none, op := Op.store 24 (Operand.tmp 7) (Operand.tmp 28), type := _, pos := _, after := _, guard := none } rfl rfl (by rfl) (.tmp 7) (.tmp 28) 24 rfl rfl rfl rfl K7 rfl (Nat.le_refl 8) rfl ?_
        intro wa Kn xa
        (have ea := xa.toB (B := s) (fun k hk => by have hk : k = b7 := hk; omega) hs)
        replace K7 := Kn
        replace K5 := K5.extX xa n57
        replace K6 := K6.extX xa n67
        have E := E.trans ea
        simp only [Act.put, List.setIfInBounds_toArray, List.set_cons_zero, List.set_cons_succ]
        change Exit.then _ _ _ _ _
        go_wp2
        go_meet
        exact ⟨b5, b6, b7, rfl, rfl, rfl, Lib.hid ⟨n56, n57, n67, g5, g6, g7⟩, Lib.hid K5, Lib.hid K6, Lib.hid K7, (E.mono (Nat.le_of_eq hs0.out)).ext⟩
      exact fun w' h => h.toB hs
      intro b5 w5 hb e5 K5
      have g5 : s ≤ b5 := by omega
      (try have n56 : b5 ≠ b6 := by (have := K6.lt; omega))
      (try have n57 : b5 ≠ b7 := by (have := K7.lt; omega))
      clear hb
      (try replace K6 := K6.ext e5)
      (try replace K7 := K7.ext e5)
      have E := E.trans (e5.toB hs)
      have hs := Nat.le_trans hs e5.size
      simp only [Act.put, List.setIfInBounds_toArray, List.set_cons_zero, List.set_cons_succ]
      refine wpS_alloc (some 7) { dst := some 7, op := Op.alloc 24, type := _, pos := _, after := _, guard := none } _ _ rfl rfl (by rfl) (by go_simp; try with_reducible rfl) ?_ ?_ trivial
      exact fun w' h => h.toB hs
      intro b7 w7 hb e7 K7
      have g7 : s ≤ b7 := by omega
      (try have n57 : b5 ≠ b7 := by (have := K5.lt; omega))
      (try have n67 : b6 ≠ b7 := by (have := K6.lt; omega))
      clear hb
      (try replace K5 := K5.ext e7)
      (try replace K6 := K6.ext e7)
      have E := E.trans (e7.toB hs)
      have hs := Nat.le_trans hs e7.size
      simp only [Act.put, List.setIfInBounds_toArray, List.set_cons_zero, List.set_cons_succ]
      refine wpS_storeL none { dst := none, op := Op.store 24 (Operand.tmp 5) (Operand.tmp 26), type := _, pos := _, after := _, guard := none } rfl rfl (by rfl) (.tmp 5) (.tmp 26) 24 rfl rfl rfl rfl K5 rfl (Nat.le_refl 8) rfl (fun w' x => x.toB (fun k hk => by have hk : k = b5 := hk; omega) hs) ?_ trivial
      intro w8 Kn x8
      (have e8 := x8.toB (B := s) (fun k hk => by have hk : k = b5 := hk; omega) hs)
      replace K5 := Kn
      (try replace K6 := K6.extX x8 n56.symm)
      (try replace K7 := K7.extX x8 n57.symm)
      have E := E.trans e8
      have hs := Nat.le_trans hs e8.size
      simp only [Act.put, List.setIfInBounds_toArray, List.set_cons_zero, List.set_cons_succ]
      refine wpS_storeL none { dst := none, op := Op.store 24 (Operand.tmp 6) (Operand.tmp 27), type := _, pos := _, after := _, guard := none } rfl rfl (by rfl) (.tmp 6) (.tmp 27) 24 rfl rfl rfl rfl K6 rfl (Nat.le_refl 8) rfl (fun w' x => x.toB (fun k hk => by have hk : k = b6 := hk; omega) hs) ?_ trivial
      intro w9 Kn x9
      (have e9 := x9.toB (B := s) (fun k hk => by have hk : k = b6 := hk; omega) hs)
      replace K6 := Kn
      (try replace K5 := K5.extX x9 n56)
      (try replace K7 := K7.extX x9 n67.symm)
      have E := E.trans e9
      have hs := Nat.le_trans hs e9.size
      simp only [Act.put, List.setIfInBounds_toArray, List.set_cons_zero, List.set_cons_succ]
      refine wpS_store none { dst := none, op := Op.store 24 (Operand.tmp 7) (Operand.tmp 28), type := _, pos := _, after := _, guard := none } rfl rfl (by rfl) (.tmp 7) (.tmp 28) 24 rfl rfl rfl rfl K7 rfl (Nat.le_refl 8) rfl ?_
      intro wa Kn xa
      (have ea := xa.toB (B := s) (fun k hk => by have hk : k = b7 := hk; omega) hs)
      replace K7 := Kn
      replace K5 := K5.extX xa n57
      replace K6 := K6.extX xa n67
      have E := E.trans ea
      simp only [Act.put, List.setIfInBounds_toArray, List.set_cons_zero, List.set_cons_succ]
      change Exit.then _ _ _ _ _
      go_wp2
      go_meet
      exact ⟨b5, b6, b7, rfl, rfl, rfl, Lib.hid ⟨n56, n57, n67, g5, g6, g7⟩, Lib.hid K5, Lib.hid K6, Lib.hid K7, (E.mono (Nat.le_of_eq hs0.out)).ext⟩
    exact fun w' h => h.toB hs
    intro b5 w5 hb e5 K5
    have g5 : s ≤ b5 := by omega
    (try have n56 : b5 ≠ b6 := by (have := K6.lt; omega))
    (try have n57 : b5 ≠ b7 := by (have := K7.lt; omega))
    clear hb
    (try replace K6 := K6.ext e5)
    (try replace K7 := K7.ext e5)
    have E := E.trans (e5.toB hs)
    have hs := Nat.le_trans hs e5.size
    simp only [Act.put, List.setIfInBounds_toArray, List.set_cons_zero, List.set_cons_succ]
    refine wpS_alloc (some 6) { dst := some 6, op := Op.alloc 24, type := _, pos := _, after := _, guard := none } _ _ rfl rfl (by rfl) (by go_simp; try with_reducible rfl) ?_ ?_ ?_
    rotate_right
    · skip
      refine wpS_alloc (some 7) { dst := some 7, op := Op.alloc 24, type := _, pos := _, after := _, guard := none } _ _ rfl rfl (by rfl) (by go_simp; try with_reducible rfl) ?_ ?_ trivial
      exact fun w' h => h.toB hs
      intro b7 w7 hb e7 K7
      have g7 : s ≤ b7 := by omega
      (try have n57 : b5 ≠ b7 := by (have := K5.lt; omega))
      (try have n67 : b6 ≠ b7 := by (have := K6.lt; omega))
      clear hb
      (try replace K5 := K5.ext e7)
      (try replace K6 := K6.ext e7)
      have E := E.trans (e7.toB hs)
      have hs := Nat.le_trans hs e7.size
      simp only [Act.put, List.setIfInBounds_toArray, List.set_cons_zero, List.set_cons_succ]
      refine wpS_alloc (some 6) { dst := some 6, op := Op.alloc 24, type := _, pos := _, after := _, guard := none } _ _ rfl rfl (by rfl) (by go_simp; try with_reducible rfl) ?_ ?_ trivial
      exact fun w' h => h.toB hs
      intro b6 w6 hb e6 K6
      have g6 : s ≤ b6 := by omega
      (try have n56 : b5 ≠ b6 := by (have := K5.lt; omega))
      (try have n67 : b6 ≠ b7 := by (have := K7.lt; omega))
      clear hb
      (try replace K5 := K5.ext e6)
      (try replace K7 := K7.ext e6)
      have E := E.trans (e6.toB hs)
      have hs := Nat.le_trans hs e6.size
      simp only [Act.put, List.setIfInBounds_toArray, List.set_cons_zero, List.set_cons_succ]
      refine wpS_storeL none { dst := none, op := Op.store 24 (Operand.tmp 5) (Operand.tmp 26), type := _, pos := _, after := _, guard := none } rfl rfl (by rfl) (.tmp 5) (.tmp 26) 24 rfl rfl rfl rfl K5 rfl (Nat.le_refl 8) rfl (fun w' x => x.toB (fun k hk => by have hk : k = b5 := hk; omega) hs) ?_ trivial
      intro w8 Kn x8
      (have e8 := x8.toB (B := s) (fun k hk => by have hk : k = b5 := hk; omega) hs)
      replace K5 := Kn
      (try replace K6 := K6.extX x8 n56.symm)
      (try replace K7 := K7.extX x8 n57.symm)
      have E := E.trans e8
      have hs := Nat.le_trans hs e8.size
      simp only [Act.put, List.setIfInBounds_toArray, List.set_cons_zero, List.set_cons_succ]
      refine wpS_storeL none { dst := none, op := Op.store 24 (Operand.tmp 6) (Operand.tmp 27), type := _, pos := _, after := _, guard := none } rfl rfl (by rfl) (.tmp 6) (.tmp 27) 24 rfl rfl rfl rfl K6 rfl (Nat.le_refl 8) rfl (fun w' x => x.toB (fun k hk => by have hk : k = b6 := hk; omega) hs) ?_ trivial
      intro w9 Kn x9
      (have e9 := x9.toB (B := s) (fun k hk => by have hk : k = b6 := hk; omega) hs)
      replace K6 := Kn
      (try replace K5 := K5.extX x9 n56)
      (try replace K7 := K7.extX x9 n67.symm)
      have E := E.trans e9
      have hs := Nat.le_trans hs e9.size
      simp only [Act.put, List.setIfInBounds_toArray, List.set_cons_zero, List.set_cons_succ]
      refine wpS_store none { dst := none, op := Op.store 24 (Operand.tmp 7) (Operand.tmp 28), type := _, pos := _, after := _, guard := none } rfl rfl (by rfl) (.tmp 7) (.tmp 28) 24 rfl rfl rfl rfl K7 rfl (Nat.le_refl 8) rfl ?_
      intro wa Kn xa
      (have ea := xa.toB (B := s) (fun k hk => by have hk : k = b7 := hk; omega) hs)
      replace K7 := Kn
      replace K5 := K5.extX xa n57
      replace K6 := K6.extX xa n67
      have E := E.trans ea
      simp only [Act.put, List.setIfInBounds_toArray, List.set_cons_zero, List.set_cons_succ]
      change Exit.then _ _ _ _ _
      go_wp2
      go_meet
      exact ⟨b5, b6, b7, rfl, rfl, rfl, Lib.hid ⟨n56, n57, n67, g5, g6, g7⟩, Lib.hid K5, Lib.hid K6, Lib.hid K7, (E.mono (Nat.le_of_eq hs0.out)).ext⟩
    exact fun w' h => h.toB hs
    intro b6 w6 hb e6 K6
    have g6 : s ≤ b6 := by omega
    (try have n56 : b5 ≠ b6 := by (have := K5.lt; omega))
    (try have n67 : b6 ≠ b7 := by (have := K7.lt; omega))
    clear hb
    (try replace K5 := K5.ext e6)
    (try replace K7 := K7.ext e6)
    have E := E.trans (e6.toB hs)
    have hs := Nat.le_trans hs e6.size
    simp only [Act.put, List.setIfInBounds_toArray, List.set_cons_zero, List.set_cons_succ]
    refine wpS_alloc (some 7) { dst := some 7, op := Op.alloc 24, type := _, pos := _, after := _, guard := none } _ _ rfl rfl (by rfl) (by go_simp; try with_reducible rfl) ?_ ?_ trivial
    exact fun w' h => h.toB hs
    intro b7 w7 hb e7 K7
    have g7 : s ≤ b7 := by omega
    (try have n57 : b5 ≠ b7 := by (have := K5.lt; omega))
    (try have n67 : b6 ≠ b7 := by (have := K6.lt; omega))
    clear hb
    (try replace K5 := K5.ext e7)
    (try replace K6 := K6.ext e7)
    have E := E.trans (e7.toB hs)
    have hs := Nat.le_trans hs e7.size
    simp only [Act.put, List.setIfInBounds_toArray, List.set_cons_zero, List.set_cons_succ]
    refine wpS_storeL none { dst := none, op := Op.store 24 (Operand.tmp 5) (Operand.tmp 26), type := _, pos := _, after := _, guard := none } rfl rfl (by rfl) (.tmp 5) (.tmp 26) 24 rfl rfl rfl rfl K5 rfl (Nat.le_refl 8) rfl (fun w' x => x.toB (fun k hk => by have hk : k = b5 := hk; omega) hs) ?_ trivial
    intro w8 Kn x8
    (have e8 := x8.toB (B := s) (fun k hk => by have hk : k = b5 := hk; omega) hs)
    replace K5 := Kn
    (try replace K6 := K6.extX x8 n56.symm)
    (try replace K7 := K7.extX x8 n57.symm)
    have E := E.trans e8
    have hs := Nat.le_trans hs e8.size
    simp only [Act.put, List.setIfInBounds_toArray, List.set_cons_zero, List.set_cons_succ]
    refine wpS_storeL none { dst := none, op := Op.store 24 (Operand.tmp 6) (Operand.tmp 27), type := _, pos := _, after := _, guard := none } rfl rfl (by rfl) (.tmp 6) (.tmp 27) 24 rfl rfl rfl rfl K6 rfl (Nat.le_refl 8) rfl (fun w' x => x.toB (fun k hk => by have hk : k = b6 := hk; omega) hs) ?_ trivial
    intro w9 Kn x9
    (have e9 := x9.toB (B := s) (fun k hk => by have hk : k = b6 := hk; omega) hs)
    replace K6 := Kn
    (try replace K5 := K5.extX x9 n56)
    (try replace K7 := K7.extX x9 n67.symm)
    have E := E.trans e9
    have hs := Nat.le_trans hs e9.size
    simp only [Act.put, List.setIfInBounds_toArray, List.set_cons_zero, List.set_cons_succ]
    refine wpS_store none { dst := none, op := Op.store 24 (Operand.tmp 7) (Operand.tmp 28), type := _, pos := _, after := _, guard := none } rfl rfl (by rfl) (.tmp 7) (.tmp 28) 24 rfl rfl rfl rfl K7 rfl (Nat.le_refl 8) rfl ?_
    intro wa Kn xa
    (have ea := xa.toB (B := s) (fun k hk => by have hk : k = b7 := hk; omega) hs)
    replace K7 := Kn
    replace K5 := K5.extX xa n57
    replace K6 := K6.extX xa n67
    have E := E.trans ea
    simp only [Act.put, List.setIfInBounds_toArray, List.set_cons_zero, List.set_cons_succ]
    change Exit.then _ _ _ _ _
    go_wp2
    go_meet
    exact ⟨b5, b6, b7, rfl, rfl, rfl, Lib.hid ⟨n56, n57, n67, g5, g6, g7⟩, Lib.hid K5, Lib.hid K6, Lib.hid K7, (E.mono (Nat.le_of_eq hs0.out)).ext⟩
  case rest =>
    obtain ⟨b5, b6, b7, rfl, rfl, rfl, hn, K5, K6, K7, E3⟩ := hcut
    obtain ⟨n56, n57, n67, s5, s6, s7⟩ := id hn.out
    have hcap := slice_cap HS.out
    have HS0 := Lib.hid hs0
    have hs1 : s ≤ w2.heap.size := by omega
    clear hs0
    have r1 := fun w => run_sliceAt_to (P := Try.prog) Try.underlying22 infoEvSz A x.events.length cap m (by omega) w
    have r2 := fun w => run_sliceAt_from (P := Try.prog) Try.underlying22 infoEvSz A x.events.length cap m (by omega) w
    obtain ⟨A2, hA2⟩ : ∃ A2, (if cap = m then A else A.map (·.add (m * 14))) = A2 := ⟨_, rfl⟩
    rw [hA2] at r2
    have g7 := E3.cellS g7
    clear g0 g1 g2 g3 g4 g5 g6
    go_wp2_with fail
    refine wp_region_sched (ops := ops_3_6) (ExtB s) [13] (.quiet 0 (.quiet 1 (.quiet 2 (.quiet 3 (.quiet 4 (.quiet 5 (.quiet 6 (.quiet 7 (.quiet 8 (.loud 9 (.quiet 10 (.loud 11 (.quiet 12 (.last 13 (.done))) (.stop))) (.stop))))))))))) (by kernel_rfl) (extB_refl s) (extB_trans s) (by kernel_rfl) (fun _ _ d _ _ h => by cases d <;> exact h) ?_
    have hsL : w.heap.size < s := by have := HS0.out; omega
    have hs : s ≤ wc.heap.size := by have := E3.size; omega
    refine wpS_quiet (some 29) { dst := some 29, op := Op.fieldAddr 24 (Operand.tmp 2) 7, type := _, pos := _, after := _, guard := none } _ rfl rfl (by rfl) (fun wE hE => by (go_simp; try with_reducible rfl)) ?_; simp only [Act.put, List.setIfInBounds_toArray, List.set_cons_zero, List.set_cons_succ]
    refine wpS_quiet (some 30) { dst := some 30, op := Op.load 22 (Operand.tmp 29), type := _, pos := _, after := _, guard := none } _ rfl rfl (by rfl) (fun wE hE => by (have zk0 := hE.cellS hsL g7; go_simp; try with_reducible rfl)) ?_; simp only [Act.put, List.setIfInBounds_toArray, List.set_cons_zero, List.set_cons_succ]
    refine wpS_quiet (some 31) { dst := some 31, op := Op.move (Operand.tmp 1), type := _, pos := _, after := _, guard := none } _ rfl rfl (by rfl) (fun wE hE => by (go_simp; try with_reducible rfl)) ?_; simp only [Act.put, List.setIfInBounds_toArray, List.set_cons_zero, List.set_cons_succ]
    refine wpS_quiet (some 32) { dst := some 32, op := Op.slice 22 (Operand.tmp 30) none (some (Operand.tmp 31)) none, type := _, pos := _, after := _, guard := none } _ rfl rfl (by rfl) (fun wE hE => by (go_simp; try with_reducible rfl)) ?_; simp only [Act.put, List.setIfInBounds_toArray, List.set_cons_zero, List.set_cons_succ]
    refine wpS_quiet (some 33) { dst := some 33, op := Op.fieldAddr 24 (Operand.tmp 2) 7, type := _, pos := _, after := _, guard := none } _ rfl rfl (by rfl) (fun wE hE => by (go_simp; try with_reducible rfl)) ?_; simp only [Act.put, List.setIfInBounds_toArray, List.set_cons_zero, List.set_cons_succ]
    refine wpS_quiet (some 34) { dst := some 34, op := Op.load 22 (Operand.tmp 33), type := _, pos := _, after := _, guard := none } _ rfl rfl (by rfl) (fun wE hE => by (have zk0 := hE.cellS hsL g7; go_simp; try with_reducible rfl)) ?_; simp only [Act.put, List.setIfInBounds_toArray, List.set_cons_zero, List.set_cons_succ]
    refine wpS_quiet (some 35) { dst := some 35, op := Op.move (Operand.tmp 1), type := _, pos := _, after := _, guard := none } _ rfl rfl (by rfl) (fun wE hE => by (go_simp; try with_reducible rfl)) ?_; simp only [Act.put, List.setIfInBounds_toArray, List.set_cons_zero, List.set_cons_succ]
    refine wpS_quiet (some 36) { dst := some 36, op := Op.slice 22 (Operand.tmp 34) (some (Operand.tmp 35)) none none, type := _, pos := _, after := _, guard := none } _ rfl rfl (by rfl) (fun wE hE => by (go_simp; try with_reducible rfl)) ?_; simp only [Act.put, List.setIfInBounds_toArray, List.set_cons_zero, List.set_cons_succ]
    refine wpS_quiet (some 37) { dst := some 37, op := Op.fieldAddr 24 (Operand.tmp 5) 7, type := _, pos := _, after := _, guard := none } _ rfl rfl (by rfl) (fun wE hE => by (go_simp; try with_reducible rfl)) ?_; simp only [Act.put, List.setIfInBounds_toArray, List.set_cons_zero, List.set_cons_succ]
    refine wpS_storeL none { dst := none, op := Op.store 22 (Operand.tmp 37) (Operand.const (Value.slice none 0 0)), type := _, pos := _, after := _, guard := none } rfl rfl (by rfl) (.tmp 37) (.const (.slice none 0 0)) 22 rfl rfl rfl rfl K5.out.drew rfl (Nat.le_of_ble_eq_true rfl) rfl (fun w' x => x.toB (fun k hk => by have hk : k = b5 := hk; omega) hs) ?_ trivial
    intro w8 K5 x8
    (have e8 := x8.toB (B := s) (fun k hk => by have hk : k = b5 := hk; omega) hs)
    (have hs := Nat.le_trans hs e8.size)
    (have K6 := K6.out.extX x8 n56.symm)
    (have K7 := K7.out.extX x8 n57.symm)
    simp only [Act.put, List.setIfInBounds_toArray, List.set_cons_zero, List.set_cons_succ]
    refine wpS_quiet (some 38) { dst := some 38, op := Op.fieldAddr 24 (Operand.tmp 6) 7, type := _, pos := _, after := _, guard := none } _ rfl rfl (by rfl) (fun wE hE => by (go_simp; try with_reducible rfl)) ?_; simp only [Act.put, List.setIfInBounds_toArray, List.set_cons_zero, List.set_cons_succ]
    refine wpS_storeL none { dst := none, op := Op.store 22 (Operand.tmp 38) (Operand.tmp 32), type := _, pos := _, after := _, guard := none } rfl rfl (by rfl) (.tmp 38) (.tmp 32) 22 rfl rfl rfl rfl K6 rfl (Nat.le_of_ble_eq_true rfl) rfl (fun w' x => x.toB (fun k hk => by have hk : k = b6 := hk; omega) hs) ?_ trivial
    intro w9 K6 x9
    (have e9 := x9.toB (B := s) (fun k hk => by have hk : k = b6 := hk; omega) hs)
    (have hs := Nat.le_trans hs e9.size)
    (have K5 := K5.extX x9 n56)
    (have K7 := K7.extX x9 n67.symm)
    simp only [Act.put, List.setIfInBounds_toArray, List.set_cons_zero, List.set_cons_succ]
    refine wpS_quiet (some 39) { dst := some 39, op := Op.fieldAddr 24 (Operand.tmp 7) 7, type := _, pos := _, after := _, guard := none } _ rfl rfl (by rfl) (fun wE hE => by (go_simp; try with_reducible rfl)) ?_; simp only [Act.put, List.setIfInBounds_toArray, List.set_cons_zero, List.set_cons_succ]
    refine wpS_store none { dst := none, op := Op.store 22 (Operand.tmp 39) (Operand.tmp 36), type := _, pos := _, after := _, guard := none } rfl rfl (by rfl) (.tmp 39) (.tmp 36) 22 rfl rfl rfl rfl K7 rfl (Nat.le_of_ble_eq_true rfl) rfl ?_
    intro wa K7 xa
    (have ea := xa.toB (B := s) (fun k hk => by have hk : k = b7 := hk; omega) hs)
    (have K5 := K5.extX xa n57)
    (have K6 := K6.extX xa n67)
    simp only [Act.put, List.setIfInBounds_toArray, List.set_cons_zero, List.set_cons_succ]
    change Exit.then _ _ _ _ _
    have E4 : Ext w2 wa := (((E3.toB (B := s) hs1).trans (e8.trans (e9.trans ea))).mono (Nat.le_of_eq HS0.out)).ext
    have KW := K1.ext E4
    clear g7 e8 e9 ea x8 x9 xa
    have g0 := KW.cell (o := 0) rfl
    have g1 := KW.cell (o := 1) rfl
    have g2 := KW.cell (o := 2) rfl
    have g3 := KW.cell (o := 3) rfl
    have g4 := KW.cell (o := 4) rfl
    have g5 := KW.cell (o := 5) rfl
    have g6 := KW.cell (o := 6) rfl
    have g7 := KW.cell (o := 7) rfl
    have a0 := K5.cell (o := 0) rfl
    have a1 := K5.cell (o := 1) rfl
    have a2 := K5.cell (o := 2) rfl
    have a3 := K5.cell (o := 3) rfl
    have a4 := K5.cell (o := 4) rfl
    have a5 := K5.cell (o := 5) rfl
    have a6 := K5.cell (o := 6) rfl
    have a7 := K5.cell (o := 7) rfl
    have q0 := K6.cell (o := 0) rfl
    have q1 := K6.cell (o := 1) rfl
    have q2 := K6.cell (o := 2) rfl
    have q3 := K6.cell (o := 3) rfl
    have q4 := K6.cell (o := 4) rfl
    have q5 := K6.cell (o := 5) rfl
    have q6 := K6.cell (o := 6) rfl
    have q7 := K6.cell (o := 7) rfl
    have c0 := K7.cell (o := 0) rfl
    have c1 := K7.cell (o := 1) rfl
    have c2 := K7.cell (o := 2) rfl
    have c3 := K7.cell (o := 3) rfl
    have c4 := K7.cell (o := 4) rfl
    have c5 := K7.cell (o := 5) rfl
    have c6 := K7.cell (o := 6) rfl
    have c7 := K7.cell (o := 7) rfl
    have hx2 : ∀ y : EvD, y ∈ x.events → y.ok := fun y hy => (good_ok HG.out.2.2 y hy).1
    have hlen : x.events.length ≤ 1000 := by have := HG.out.1; omega
    have hrs : x.reason.size ≤ 1000000 := by have := HG.out.2.1; omega
    have E5 : Ext w wa := E2.trans E4
    have S0 := Lib.hid ((Rp.slice Rp.ev).ext' E5 HS.out)
    have S6 := Lib.hid (slice_take ((Rp.slice Rp.ev).ext' E5 HS.out) m (by omega))
    have S7 : Hid ((Rp.slice Rp.ev).K wa any (x.events.drop m) [.slice A2 (x.events.length - m) (cap - m)]) := Lib.hid (hA2 ▸ slice_drop ((Rp.slice Rp.ev).ext' E5 HS.out) m (by omega))
    have S5 : Hid ((Rp.slice Rp.ev).K wa any [] [.slice none 0 0]) := Lib.hid ⟨none, 0, rfl, Nat.le_refl _, by decide, fun _ => rfl, fun i y hy => by simp at hy⟩
    have HX2 := Lib.hid hx2
    have z0 := (withEv x x.events).size_lt2 hrs hlen hx2
    have z5 := (withEv x []).size_lt2 hrs (by simp) (fun y hy => by simp at hy)
    have z6 := (withEv x (x.events.take m)).size_lt2 hrs (by show (x.events.take m).length ≤ 1000; rw [List.length_take]; omega) (fun y hy => hx2 y (List.mem_of_mem_take hy))
    have z7 := (withEv x (x.events.drop m)).size_lt2 hrs (by show (x.events.drop m).length ≤ 1000; rw [List.length_drop]; omega) (fun y hy => hx2 y (List.mem_of_mem_drop hy))
    have hsum : Hid ((withEv x x.events).size + (withEv x []).size = (withEv x (x.events.take m)).size + (withEv x (x.events.drop m)).size) := Lib.hid (by
      have := evsSize_cut x.events m
      unfold RespD.size
      show x.bare + _ + (x.bare + _) = x.bare + _ + (x.bare + _)
      rw [this]
      simp [evsSize]
      omega)
    clear hx2 K5 K6 K7 KW K1 hA2 r1 r2
    go_wp2_with fail
    refine wp_region_sched (ops := ops_3_7) Ext [] (.quiet 0 (.quiet 2 (.quiet 5 (.quiet 7 (.loud 1 (.loud 3 (.quiet 4 (.loud 6 (.loud 8 (.quiet 9 (.quiet 10 (.quiet 11 (.loud 12 (.quiet 13 (.quiet 14 (.done))) (.stop))))) (.stop)) (.stop))) (.stop)) (.stop)))))) (by kernel_rfl) ext_refl ext_trans (by kernel_rfl) (fun _ _ d _ _ h => by cases d <;> exact h) ?_
    refine wpS_quiet (some 40) { dst := some 40, op := Op.load 24 (Operand.tmp 2), type := _, pos := _, after := _, guard := none } _ rfl rfl (by rfl) (fun wE hE => by (have zk0 := hE.cellS g0; have zk1 := hE.cellS g1; have zk2 := hE.cellS g2; have zk3 := hE.cellS g3; have zk4 := hE.cellS g4; have zk5 := hE.cellS g5; have zk6 := hE.cellS g6; have zk7 := hE.cellS g7; have zk8 := hE.cellS a0; have zk9 := hE.cellS a1; have zk10 := hE.cellS a2; have zk11 := hE.cellS a3; have zk12 := hE.cellS a4; have zk13 := hE.cellS a5; have zk14 := hE.cellS a6; have zk15 := hE.cellS a7; have zk16 := hE.cellS q0; have zk17 := hE.cellS q1; have zk18 := hE.cellS q2; have zk19 := hE.cellS q3; have zk20 := hE.cellS q4; have zk21 := hE.cellS q5; have zk22 := hE.cellS q6; have zk23 := hE.cellS q7; have zk24 := hE.cellS c0; have zk25 := hE.cellS c1; have zk26 := hE.cellS c2; have zk27 := hE.cellS c3; have zk28 := hE.cellS c4; have zk29 := hE.cellS c5; have zk30 := hE.cellS c6; have zk31 := hE.cellS c7; go_simp; try with_reducible rfl)) ?_; simp only [Act.put, List.setIfInBounds_toArray, List.set_cons_zero, List.set_cons_succ]
    refine wpS_quiet (some 42) { dst := some 42, op := Op.load 24 (Operand.tmp 5), type := _, pos := _, after := _, guard := none } _ rfl rfl (by rfl) (fun wE hE => by (have zk0 := hE.cellS g0; have zk1 := hE.cellS g1; have zk2 := hE.cellS g2; have zk3 := hE.cellS g3; have zk4 := hE.cellS g4; have zk5 := hE.cellS g5; have zk6 := hE.cellS g6; have zk7 := hE.cellS g7; have zk8 := hE.cellS a0; have zk9 := hE.cellS a1; have zk10 := hE.cellS a2; have zk11 := hE.cellS a3; have zk12 := hE.cellS a4; have zk13 := hE.cellS a5; have zk14 := hE.cellS a6; have zk15 := hE.cellS a7; have zk16 := hE.cellS q0; have zk17 := hE.cellS q1; have zk18 := hE.cellS q2; have zk19 := hE.cellS q3; have zk20 := hE.cellS q4; have zk21 := hE.cellS q5; have zk22 := hE.cellS q6; have zk23 := hE.cellS q7; have zk24 := hE.cellS c0; have zk25 := hE.cellS c1; have zk26 := hE.cellS c2; have zk27 := hE.cellS c3; have zk28 := hE.cellS c4; have zk29 := hE.cellS c5; have zk30 := hE.cellS c6; have zk31 := hE.cellS c7; go_simp; try with_reducible rfl)) ?_; simp only [Act.put, List.setIfInBounds_toArray, List.set_cons_zero, List.set_cons_succ]
    refine wpS_quiet (some 45) { dst := some 45, op := Op.load 24 (Operand.tmp 6), type := _, pos := _, after := _, guard := none } _ rfl rfl (by rfl) (fun wE hE => by (have zk0 := hE.cellS g0; have zk1 := hE.cellS g1; have zk2 := hE.cellS g2; have zk3 := hE.cellS g3; have zk4 := hE.cellS g4; have zk5 := hE.cellS g5; have zk6 := hE.cellS g6; have zk7 := hE.cellS g7; have zk8 := hE.cellS a0; have zk9 := hE.cellS a1; have zk10 := hE.cellS a2; have zk11 := hE.cellS a3; have zk12 := hE.cellS a4; have zk13 := hE.cellS a5; have zk14 := hE.cellS a6; have zk15 := hE.cellS a7; have zk16 := hE.cellS q0; have zk17 := hE.cellS q1; have zk18 := hE.cellS q2; have zk19 := hE.cellS q3; have zk20 := hE.cellS q4; have zk21 := hE.cellS q5; have zk22 := hE.cellS q6; have zk23 := hE.cellS q7; have zk24 := hE.cellS c0; have zk25 := hE.cellS c1; have zk26 := hE.cellS c2; have zk27 := hE.cellS c3; have zk28 := hE.cellS c4; have zk29 := hE.cellS c5; have zk30 := hE.cellS c6; have zk31 := hE.cellS c7; go_simp; try with_reducible rfl)) ?_; simp only [Act.put, List.setIfInBounds_toArray, List.set_cons_zero, List.set_cons_succ]
    refine wpS_quiet (some 47) { dst := some 47, op := Op.load 24 (Operand.tmp 7), type := _, pos := _, after := _, guard := none } _ rfl rfl (by rfl) (fun wE hE => by (have zk0 := hE.cellS g0; have zk1 := hE.cellS g1; have zk2 := hE.cellS g2; have zk3 := hE.cellS g3; have zk4 := hE.cellS g4; have zk5 := hE.cellS g5; have zk6 := hE.cellS g6; have zk7 := hE.cellS g7; have zk8 := hE.cellS a0; have zk9 := hE.cellS a1; have zk10 := hE.cellS a2; have zk11 := hE.cellS a3; have zk12 := hE.cellS a4; have zk13 := hE.cellS a5; have zk14 := hE.cellS a6; have zk15 := hE.cellS a7; have zk16 := hE.cellS q0; have zk17 := hE.cellS q1; have zk18 := hE.cellS q2; have zk19 := hE.cellS q3; have zk20 := hE.cellS q4; have zk21 := hE.cellS q5; have zk22 := hE.cellS q6; have zk23 := hE.cellS q7; have zk24 := hE.cellS c0; have zk25 := hE.cellS c1; have zk26 := hE.cellS c2; have zk27 := hE.cellS c3; have zk28 := hE.cellS c4; have zk29 := hE.cellS c5; have zk30 := hE.cellS c6; have zk31 := hE.cellS c7; go_simp; try with_reducible rfl)) ?_; simp only [Act.put, List.setIfInBounds_toArray, List.set_cons_zero, List.set_cons_succ]
    have G0 : Ext wa wa.drew := (Ext.refl _).drew
    refine wpS_call (some 41) { dst := some 41, op := Op.call { callee := Callee.value (Operand.func 8), args := #[Operand.tmp 40], argTypes := #[24] }, type := _, pos := _, after := _, guard := none } 8 _ rfl rfl (by rfl) (by go_simp; try first | with_reducible rfl | exact ⟨rfl, rfl⟩) ?_
    refine (wireSize_n (withEv x x.events) A _ cap rfl wa.drew hrs hlen HX2.out ((Rp.slice Rp.ev).ext' G0 S0.out)).mono ?_; rintro e y1 ⟨rfl, f1⟩; refine ⟨_, rfl, f1, ?_⟩; simp only [Act.put, List.setIfInBounds_toArray, List.set_cons_zero, List.set_cons_succ]
    have G1 := G0.trans f1
    refine wpS_call (some 43) { dst := some 43, op := Op.call { callee := Callee.value (Operand.func 8), args := #[Operand.tmp 42], argTypes := #[24] }, type := _, pos := _, after := _, guard := none } 8 _ rfl rfl (by rfl) (by go_simp; try first | with_reducible rfl | exact ⟨rfl, rfl⟩) ?_
    refine (wireSize_n (withEv x []) none _ 0 rfl y1 hrs (by simp) (fun y hy => by simp at hy) ((Rp.slice Rp.ev).ext' G1 S5.out)).mono ?_; rintro e y2 ⟨rfl, f2⟩; refine ⟨_, rfl, f2, ?_⟩; simp only [Act.put, List.setIfInBounds_toArray, List.set_cons_zero, List.set_cons_succ]
    have G2 := G1.trans f2
    have k1 : IntKind.i64.wrap (((withEv x x.events).size : Int) + ((withEv x []).size : Int)) = ((withEv x x.events).size : Int) + ((withEv x []).size : Int) := IntWalk.i64_in _ (by omega)
    refine wpS_quiet (some 44) { dst := some 44, op := Op.binOp BinOp.add 3 (Operand.tmp 41) (Operand.tmp 43) 3, type := _, pos := _, after := _, guard := none } _ rfl rfl (by rfl) (fun wE hE => by (go_simp; try with_reducible rfl)) ?_; simp only [Act.put, List.setIfInBounds_toArray, List.set_cons_zero, List.set_cons_succ]
    clear k1
    refine wpS_call (some 46) { dst := some 46, op := Op.call { callee := Callee.value (Operand.func 8), args := #[Operand.tmp 45], argTypes := #[24] }, type := _, pos := _, after := _, guard := none } 8 _ rfl rfl (by rfl) (by go_simp; try first | with_reducible rfl | exact ⟨rfl, rfl⟩) ?_
    refine (wireSize_n (withEv x (x.events.take m)) A m cap (by show m = (x.events.take m).length; rw [List.length_take]; omega) y2 hrs (by show (x.events.take m).length ≤ 1000; rw [List.length_take]; omega) (fun y hy => HX2.out y (List.mem_of_mem_take hy)) ((Rp.slice Rp.ev).ext' G2 S6.out)).mono ?_; rintro e y3 ⟨rfl, f3⟩; refine ⟨_, rfl, f3, ?_⟩; simp only [Act.put, List.setIfInBounds_toArray, List.set_cons_zero, List.set_cons_succ]
    have G3 := G2.trans f3
    refine wpS_call (some 48) { dst := some 48, op := Op.call { callee := Callee.value (Operand.func 8), args := #[Operand.tmp 47], argTypes := #[24] }, type := _, pos := _, after := _, guard := none } 8 _ rfl rfl (by rfl) (by go_simp; try first | with_reducible rfl | exact ⟨rfl, rfl⟩) ?_
    refine (wireSize_n (withEv x (x.events.drop m)) A2 (x.events.length - m) (cap - m) (by show _ = (x.events.drop m).length; rw [List.length_drop]) y3 hrs (by show (x.events.drop m).length ≤ 1000; rw [List.length_drop]; omega) (fun y hy => HX2.out y (List.mem_of_mem_drop hy)) ((Rp.slice Rp.ev).ext' G3 S7.out)).mono ?_; rintro e y4 ⟨rfl, f4⟩; refine ⟨_, rfl, f4, ?_⟩; simp only [Act.put, List.setIfInBounds_toArray, List.set_cons_zero, List.set_cons_succ]
    have G4 := G3.trans f4
    have k1 : IntKind.i64.wrap (((withEv x (x.events.take m)).size : Int) + ((withEv x (x.events.drop m)).size : Int)) = ((withEv x (x.events.take m)).size : Int) + ((withEv x (x.events.drop m)).size : Int) := IntWalk.i64_in _ (by omega)
    have k2 : (((withEv x x.events).size : Int) + ((withEv x []).size : Int) == ((withEv x (x.events.take m)).size : Int) + ((withEv x (x.events.drop m)).size : Int)) = true := beq_iff_eq.2 (by have := hsum.out; omega)
    refine wpS_quiet (some 49) { dst := some 49, op := Op.binOp BinOp.add 3 (Operand.tmp 46) (Operand.tmp 48) 3, type := _, pos := _, after := _, guard := none } _ rfl rfl (by rfl) (fun wE hE => by (go_simp; try with_reducible rfl)) ?_; simp only [Act.put, List.setIfInBounds_toArray, List.set_cons_zero, List.set_cons_succ]
    refine wpS_quiet (some 50) { dst := some 50, op := Op.binOp BinOp.eql 3 (Operand.tmp 44) (Operand.tmp 49) 3, type := _, pos := _, after := _, guard := none } _ rfl rfl (by rfl) (fun wE hE => by (go_simp; try with_reducible rfl)) ?_; simp only [Act.put, List.setIfInBounds_toArray, List.set_cons_zero, List.set_cons_succ]
    refine wpS_quiet (some 51) { dst := some 51, op := Op.move (Operand.tmp 50), type := _, pos := _, after := _, guard := none } _ rfl rfl (by rfl) (fun wE hE => by (go_simp; try with_reducible rfl)) ?_; simp only [Act.put, List.setIfInBounds_toArray, List.set_cons_zero, List.set_cons_succ]
    clear k1 k2
    refine wpS_call (some 52) { dst := some 52, op := Op.call { callee := Callee.value (Operand.func 7), args := #[], argTypes := #[] }, type := _, pos := _, after := _, guard := some (11, true) } 7 _ rfl rfl (by rfl) (by go_simp; try first | with_reducible rfl | exact ⟨rfl, rfl⟩) ?_
    refine (live_any y4).mono ?_; rintro e y5 ⟨rfl, f5⟩; refine ⟨_, rfl, f5, ?_⟩; simp only [Act.put, List.setIfInBounds_toArray, List.set_cons_zero, List.set_cons_succ]
    refine wpS_quiet (some 53) { dst := some 53, op := Op.pick (Operand.tmp 51) (Operand.tmp 52) (Operand.const (Value.bool false)), type := _, pos := _, after := _, guard := none } _ rfl rfl (by rfl) (fun wE hE => by (go_simp; try with_reducible rfl)) ?_; simp only [Act.put, List.setIfInBounds_toArray, List.set_cons_zero, List.set_cons_succ]
    refine wpS_quiet (some 4) { dst := some 4, op := Op.assign (Operand.tmp 53), type := _, pos := _, after := _, guard := none } _ rfl rfl (by rfl) (fun wE hE => by (go_simp; try with_reducible rfl)) ?_; simp only [Act.put, List.setIfInBounds_toArray, List.set_cons_zero, List.set_cons_succ]
    change Exit.then _ _ _ _ _
    go_wp2
    go_ret
    exact ⟨rfl, (E5.trans G4).trans f5⟩
end Go.Proofs.Ytmimpfenlhfkiaa
