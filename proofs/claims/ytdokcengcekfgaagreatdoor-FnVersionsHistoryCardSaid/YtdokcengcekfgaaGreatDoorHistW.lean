/-
  The walk of FnVersionsHistory.
-/
import Derived.Test.YtdokcengcekfgaaGreatDoorHistR
import Derived.Deep.DeepCutAuto
namespace Go.Proofs.YtdokcengcekfgaaGreatDoor
open Go.RowKit
set_option linter.unusedSimpArgs false
set_option linter.unusedVariables false

/-- what is seen lies in a block -/
def Seen (w : World) (b : Nat) (ok : Nat → Prop) (g : GD) : Prop := ∃ A cap, Blk w b 24 (gdCells g A g.members.length cap) ∧ (Rp.slice Rp.str).K w ok g.members [.slice A g.members.length cap]
theorem Seen.ext {w w' : World} {b : Nat} {ok : Nat → Prop} {g : GD} (h : Seen w b ok g) (e : Ext w w') : Seen w' b ok g := by
  obtain ⟨A, cap, h1, h2⟩ := h
  exact ⟨A, cap, h1.ext e, (Rp.slice Rp.str).ext' e h2⟩
theorem Seen.extX {w w' : World} {b : Nat} {ok : Nat → Prop} {g : GD} (h : Seen w b ok g) {M : Nat → Prop} (e : ExtX M w w') (hb : ¬ M b) (hok : ∀ k, ok k → ¬ M k) : Seen w' b ok g := by
  obtain ⟨A, cap, h1, h2⟩ := h
  exact ⟨A, cap, h1.extX e hb, (Rp.slice Rp.str).extX e h2 hok⟩
theorem vnum_ok {v : VD} (h : vnum v.maj v.mnr v.pat = true) : v.ok := by
  simp only [vnum, Bool.and_eq_true, decide_eq_true_eq] at h
  exact ⟨h.1.1.1, h.1.1.2, h.1.2.1, h.1.2.2, h.2.1, h.2.2⟩
noncomputable def ops_3_5 : Array Oper := opsAt Tryz.f3 5
noncomputable def ops_3_12 : Array Oper := opsAt Tryz.f3 12
set_option maxRecDepth 20000 in
set_option maxHeartbeats 24000000 in
theorem walk_VersionsHistory (g : GD) (A : Option Addr) (n cap : Nat) (xs : List StepD) (vs : Value) (w : World) (hn : n = g.members.length) (hm : (Rp.slice Rp.str).K w any g.members [.slice A n cap]) (hxs : (Rp.slice Rp.step).K w any xs [vs]) (hw : VarsOk w) :
    Calls Tryz.prog 3 #[gdV g A n cap, vs] w fun e w' => e = .returned (.bool true) ∧ Ext w w' := by
  have HM := Lib.hid hm
  have HW := Lib.hid hw
  have HN := Lib.hid hn
  have HXS := Lib.hid hxs
  obtain ⟨Av, cv, hv, p1, p2, p3, hrow⟩ := hxs
  simp only [List.cons.injEq, and_true] at hv
  subst hv
  have HR := Lib.hid hrow
  have hxl : xs.length ≤ 9223372036854775807 := by unfold maxLen at p2; omega
  clear hrow hm hw hn p1 p2 p3
  go_enter Tryz.func3, Tryz.ntmps3
  go_wp2_with fail
  obtain ⟨W, hW⟩ : ∃ W, W = w.alloc (.cells (gdCells g A n cap).toArray 24) := ⟨_, rfl⟩
  have EW : Ext w W := by rw [hW]; exact (Ext.refl w).alloc _
  have KV : Blk W w.heap.size 24 (gdCells g A n cap) := by rw [hW]; exact Blk.new w _ _
  change Calls _ _ _ (w.alloc (.cells (gdCells g A n cap).toArray 24)) _
  rw [← hW]
  clear hW
  refine (fits36 g A n cap W HN.out ((Rp.slice Rp.str).ext' EW HM.out)).mono ?_
  rintro e w1 ⟨c, rfl, hf, E1⟩
  replace hf := Lib.hid hf
  have E01 := EW.trans E1
  have KV1 := KV.ext E1
  cases c with
  | false =>
    go_wp2
    go_ret
    exact ⟨rfl, E01⟩
  | true =>
  have HF : Hid g.fits := Lib.hid (by simpa using hf.out)
  clear hf
  go_wp2_with fail
  refine (fits37 xs _ w1 ((Rp.slice Rp.step).ext' E01 HXS.out)).mono ?_
  rintro e w2 ⟨c, rfl, hc, E2⟩
  have E02 := E01.trans E2
  have KV2 := KV1.ext E2
  replace hc := Lib.hid hc
  cases c with
  | false =>
    go_wp2
    go_ret
    exact ⟨rfl, E02⟩
  | true =>
  have HX : Hid (∀ s ∈ xs, fit s.text.size) := Lib.hid (by simpa using hc.out)
  clear hc
  obtain ⟨s0, s1, s2, s3, s4, s5⟩ := gd_load KV2
  go_wp2_with fail
  refine (verGood_any g A n cap w2 HN.out ((Rp.slice Rp.str).ext' E02 HM.out) HF.out).mono ?_
  rintro e w3 ⟨c, rfl, hok, E3⟩
  have E03 := E02.trans E3
  have KV3 := KV2.ext E3
  replace hok := Lib.hid hok
  clear s0 s1 s2 s3 s4 s5
  cases c with
  | false =>
    go_wp2
    go_ret
    exact ⟨rfl, E03⟩
  | true =>
  have HOK : Hid g.ok := Lib.hid (by simpa using hok.out)
  clear hok
  by_cases h60 : 60 < xs.length
  · have d60 : decide ((60 : Int) < (xs.length : Int)) = true := decide_eq_true (by omega)
    go_wp2
    go_ret
    exact ⟨rfl, E03⟩
  have d60 : decide ((60 : Int) < (xs.length : Int)) = false := decide_eq_false (by omega)
  obtain ⟨s0, s1, s2, s3, s4, s5⟩ := gd_load KV3
  have HM3 := Lib.hid ((Rp.slice Rp.str).ext' E03 HM.out)
  clear h60
  go_upto_region 5 with fail
  obtain ⟨s, hs0⟩ : ∃ s, w3.heap.size = s := ⟨_, rfl⟩
  go_cut [5, 6] (fun u5 u6 wx => ∃ b5 b6 : Nat, u5 = .pointer (some ⟨b5, 0, none⟩) ∧ u6 = .pointer (some ⟨b6, 0, none⟩) ∧ Hid (s ≤ b5 ∧ s ≤ b6 ∧ b5 ≠ b6 ∧ Blk wx b5 24 (gdCells g A n cap) ∧ Blk wx b6 24 (gdCells g A n cap)) ∧ Ext w3 wx)
  case first =>
    have hsL : w.heap.size < s := by have := KV3.lt; omega
    have hs : s ≤ w3.drew.heap.size := Nat.le_of_eq hs0.symm
    replace hs0 := Lib.hid hs0
    refine wp_region_sched (ops := ops_3_5) (ExtB s) [5] (.quiet 0 (.quiet 1 (.loud 2 (.loud 3 (.loud 4 (.last 5 (.done)) (.stop)) (.stop)) (.loud 3 (.loud 2 (.loud 4 (.last 5 (.done)) (.stop)) (.stop)) (.stop))))) (by kernel_rfl) (extB_refl s) (extB_trans s) (by kernel_rfl) (fun _ _ d _ _ h => by cases d <;> exact h) ?_
    have E : ExtB s w3 w3.drew := ExtB.refl _ _
    refine wpS_quiet (some 32) { dst := some 32, op := Op.load 24 (Operand.tmp 2), type := _, pos := _, after := _, guard := none } _ rfl rfl (by rfl) (fun wE hE => by (have zk0 := hE.cellS hsL s0; have zk1 := hE.cellS hsL s1; have zk2 := hE.cellS hsL s2; have zk3 := hE.cellS hsL s3; have zk4 := hE.cellS hsL s4; have zk5 := hE.cellS hsL s5; go_simp; try with_reducible rfl)) ?_; simp only [Act.put, List.setIfInBounds_toArray, List.set_cons_zero, List.set_cons_succ]
    refine wpS_quiet (some 33) { dst := some 33, op := Op.load 24 (Operand.tmp 2), type := _, pos := _, after := _, guard := none } _ rfl rfl (by rfl) (fun wE hE => by (have zk0 := hE.cellS hsL s0; have zk1 := hE.cellS hsL s1; have zk2 := hE.cellS hsL s2; have zk3 := hE.cellS hsL s3; have zk4 := hE.cellS hsL s4; have zk5 := hE.cellS hsL s5; go_simp; try with_reducible rfl)) ?_; simp only [Act.put, List.setIfInBounds_toArray, List.set_cons_zero, List.set_cons_succ]
    refine wpS_alloc (some 5) { dst := some 5, op := Op.alloc 24, type := _, pos := _, after := _, guard := none } _ _ rfl rfl (by rfl) (by go_simp; try with_reducible rfl) ?_ ?_ ?_
    rotate_right
    · skip
      refine wpS_alloc (some 6) { dst := some 6, op := Op.alloc 24, type := _, pos := _, after := _, guard := none } _ _ rfl rfl (by rfl) (by go_simp; try with_reducible rfl) ?_ ?_ trivial
      exact fun w' h => h.toB hs
      intro b6 wd hb ed K6
      have g6 : s ≤ b6 := by omega
      (try have n56 : b5 ≠ b6 := by (have := K5.lt; omega))
      clear hb
      (try replace K5 := K5.ext ed)
      have E := E.trans (ed.toB hs)
      have hs := Nat.le_trans hs ed.size
      simp only [Act.put, List.setIfInBounds_toArray, List.set_cons_zero, List.set_cons_succ]
      refine wpS_alloc (some 5) { dst := some 5, op := Op.alloc 24, type := _, pos := _, after := _, guard := none } _ _ rfl rfl (by rfl) (by go_simp; try with_reducible rfl) ?_ ?_ trivial
      exact fun w' h => h.toB hs
      intro b5 wc hb ec K5
      have g5 : s ≤ b5 := by omega
      (try have n56 : b5 ≠ b6 := by (have := K6.lt; omega))
      clear hb
      (try replace K6 := K6.ext ec)
      have E := E.trans (ec.toB hs)
      have hs := Nat.le_trans hs ec.size
      simp only [Act.put, List.setIfInBounds_toArray, List.set_cons_zero, List.set_cons_succ]
      refine wpS_storeL none { dst := none, op := Op.store 24 (Operand.tmp 5) (Operand.tmp 32), type := _, pos := _, after := _, guard := none } rfl rfl (by rfl) (.tmp 5) (.tmp 32) 24 rfl rfl rfl rfl K5 rfl (Nat.le_refl 6) rfl (fun w' x => x.toB (fun k hk => by have hk : k = b5 := hk; omega) hs) ?_ trivial
      intro we Kn xe
      (have ee := xe.toB (B := s) (fun k hk => by have hk : k = b5 := hk; omega) hs)
      replace K5 := Kn
      (try replace K6 := K6.extX xe n56.symm)
      have E := E.trans ee
      have hs := Nat.le_trans hs ee.size
      simp only [Act.put, List.setIfInBounds_toArray, List.set_cons_zero, List.set_cons_succ]
      refine wpS_store none { dst := none, op := Op.store 24 (Operand.tmp 6) (Operand.tmp 33), type := _, pos := _, after := _, guard := none } rfl rfl (by rfl) (.tmp 6) (.tmp 33) 24 rfl rfl rfl rfl K6 rfl (Nat.le_refl 6) rfl ?_
      intro wf Kn xf
      (have ef := xf.toB (B := s) (fun k hk => by have hk : k = b6 := hk; omega) hs)
      replace K6 := Kn
      (try replace K5 := K5.extX xf n56)
      have E := E.trans ef
      have hs := Nat.le_trans hs ef.size
      simp only [Act.put, List.setIfInBounds_toArray, List.set_cons_zero, List.set_cons_succ]
      change Exit.then _ _ _ _ _
      go_wp2
      go_meet
      exact ⟨b5, b6, rfl, rfl, Lib.hid ⟨g5, g6, n56, K5, K6⟩, (E.mono (Nat.le_of_eq hs0.out)).ext⟩
    exact fun w' h => h.toB hs
    intro b5 wc hb ec K5
    have g5 : s ≤ b5 := by omega
    (try have n56 : b5 ≠ b6 := by (have := K6.lt; omega))
    clear hb
    (try replace K6 := K6.ext ec)
    have E := E.trans (ec.toB hs)
    have hs := Nat.le_trans hs ec.size
    simp only [Act.put, List.setIfInBounds_toArray, List.set_cons_zero, List.set_cons_succ]
    refine wpS_alloc (some 6) { dst := some 6, op := Op.alloc 24, type := _, pos := _, after := _, guard := none } _ _ rfl rfl (by rfl) (by go_simp; try with_reducible rfl) ?_ ?_ trivial
    exact fun w' h => h.toB hs
    intro b6 wd hb ed K6
    have g6 : s ≤ b6 := by omega
    (try have n56 : b5 ≠ b6 := by (have := K5.lt; omega))
    clear hb
    (try replace K5 := K5.ext ed)
    have E := E.trans (ed.toB hs)
    have hs := Nat.le_trans hs ed.size
    simp only [Act.put, List.setIfInBounds_toArray, List.set_cons_zero, List.set_cons_succ]
    refine wpS_storeL none { dst := none, op := Op.store 24 (Operand.tmp 5) (Operand.tmp 32), type := _, pos := _, after := _, guard := none } rfl rfl (by rfl) (.tmp 5) (.tmp 32) 24 rfl rfl rfl rfl K5 rfl (Nat.le_refl 6) rfl (fun w' x => x.toB (fun k hk => by have hk : k = b5 := hk; omega) hs) ?_ trivial
    intro we Kn xe
    (have ee := xe.toB (B := s) (fun k hk => by have hk : k = b5 := hk; omega) hs)
    replace K5 := Kn
    (try replace K6 := K6.extX xe n56.symm)
    have E := E.trans ee
    have hs := Nat.le_trans hs ee.size
    simp only [Act.put, List.setIfInBounds_toArray, List.set_cons_zero, List.set_cons_succ]
    refine wpS_store none { dst := none, op := Op.store 24 (Operand.tmp 6) (Operand.tmp 33), type := _, pos := _, after := _, guard := none } rfl rfl (by rfl) (.tmp 6) (.tmp 33) 24 rfl rfl rfl rfl K6 rfl (Nat.le_refl 6) rfl ?_
    intro wf Kn xf
    (have ef := xf.toB (B := s) (fun k hk => by have hk : k = b6 := hk; omega) hs)
    replace K6 := Kn
    (try replace K5 := K5.extX xf n56)
    have E := E.trans ef
    have hs := Nat.le_trans hs ef.size
    simp only [Act.put, List.setIfInBounds_toArray, List.set_cons_zero, List.set_cons_succ]
    change Exit.then _ _ _ _ _
    go_wp2
    go_meet
    exact ⟨b5, b6, rfl, rfl, Lib.hid ⟨g5, g6, n56, K5, K6⟩, (E.mono (Nat.le_of_eq hs0.out)).ext⟩
  case rest =>
    obtain ⟨b5, b6, rfl, rfl, KK, E4⟩ := hcut
    obtain ⟨g5, g6, n56, K5, K6⟩ := KK.out
    have E04 := E03.trans E4
    have hs3 : w.heap.size ≤ s := by have := E03.size; omega
    have HM4 : (Rp.slice Rp.str).K wc (fun k => k ≠ b5 ∧ k ≠ b6) g.members [.slice A n cap] := (Rp.slice Rp.str).ext' E04 ((Rp.slice Rp.str).mono (fun k h => by have := h.2; exact ⟨by omega, by omega⟩) ((Rp.slice Rp.str).lt HM.out))
    have S5 : Hid (Seen wc b5 (fun k => k ≠ b5 ∧ k ≠ b6) g) := Lib.hid (by rw [HN.out] at K5 HM4; exact ⟨A, cap, K5, HM4⟩)
    have S6 : Hid (Seen wc b6 (fun k => k ≠ b5 ∧ k ≠ b6) g) := Lib.hid (by rw [HN.out] at K6 HM4; exact ⟨A, cap, K6, HM4⟩)
    clear K5 K6 HM4 s0 s1 s2 s3 s4 s5 KV3 KV2 KV1 KV KK HM3 d60
    go_wp2_with fail
    go_loopw [36] (fun u wr => ∃ (k : Nat) (v : GD), u = .int .i64 k ∧ k ≤ xs.length ∧ Hid v.ok ∧ Hid (Seen wr b5 (fun k => k ≠ b5 ∧ k ≠ b6) v) ∧ Hid (Seen wr b6 (fun k => k ≠ b5 ∧ k ≠ b6) v) ∧ Ext w wr) (fun u _ => xs.length - (intOf u).toNat)
    case atStart => exact ⟨0, g, rfl, Nat.zero_le _, HOK, S5, S6, E04⟩
    case round =>
      obtain ⟨k, v, rfl, hk, hok, hS5, hS6, hE⟩ := hrel
      by_cases hlt : k < xs.length
      · obtain ⟨s1, hs1⟩ : ∃ s1, xs[k]? = some s1 := ⟨_, List.getElem?_eq_getElem hlt⟩
        obtain ⟨ba, o, rfl, _⟩ := HR.out.addr (List.ne_nil_of_length_pos (by omega))
        obtain ⟨_, hc⟩ := step_at HR.out rfl hs1 hE
        have c0 := hc 0 _ rfl
        have c1 := hc 1 _ rfl
        have c2 := hc 2 _ rfl
        have c3 := hc 3 _ rfl
        have c4 := hc 4 _ rfl
        have c5 := hc 5 _ rfl
        have HS1 := Lib.hid hs1
        have hfit := Lib.hid (HX.out s1 (List.mem_of_getElem? hs1))
        clear hs1 hc
        simp only [Nat.add_zero, ← Nat.add_assoc] at c0 c1 c2 c3 c4 c5
        by_cases k1 : s1.kind < 1
        · have q1 : decide (s1.kind < 1) = true := decide_eq_true k1
          go_wp2
          go_ret
          exact ⟨rfl, hE.alloc _⟩
        have q1 : decide (s1.kind < 1) = false := decide_eq_false k1
        by_cases k6 : 6 < s1.kind
        · have q6 : decide (6 < s1.kind) = true := decide_eq_true k6
          go_wp2
          go_ret
          exact ⟨rfl, hE.alloc _⟩
        have q6 : decide (6 < s1.kind) = false := decide_eq_false k6
        go_wp2_with fail
        have hb5 : Hid (b5 < wr.heap.size) := Lib.hid (by obtain ⟨_, _, h, _⟩ := hS5.out; exact h.lt)
        obtain ⟨W1, hW1⟩ : ∃ W1, W1 = wr.alloc (.cells (stCells s1).toArray 31) := ⟨_, rfl⟩
        have EW1 : Ext wr W1 := by rw [hW1]; exact (Ext.refl _).alloc _
        have KT : Blk W1 wr.heap.size 31 (stCells s1) := by rw [hW1]; exact Blk.new _ _ _
        change Calls _ _ _ (wr.alloc (.cells (stCells s1).toArray 31)) _
        rw [← hW1]
        clear hW1 c0 c1 c2 c3 c4 c5
        refine (verText_yes s1.text W1 hfit.out).mono ?_
        rintro e w4 ⟨c, rfl, hc, E5⟩
        have E04 := (hE.trans EW1).trans E5
        cases c with
        | false =>
          go_wp2
          go_ret
          exact ⟨rfl, E04⟩
        | true =>
        have HVT : Hid (VTx s1.text) := Lib.hid (hc (by first | rfl | trivial))
        clear hc
        have c3 := (KT.ext E5).cell (o := 3) rfl
        have c4 := (KT.ext E5).cell (o := 4) rfl
        have c5 := (KT.ext E5).cell (o := 5) rfl
        go_wp2_with fail
        cases hvn : vnum s1.to.maj s1.to.mnr s1.to.pat with
        | false =>
          refine (verNumbers_no s1.to.maj s1.to.mnr s1.to.pat w4 hvn).mono ?_
          rintro e w5 ⟨rfl, E6⟩
          replace hvn := Lib.hid hvn
          go_wp2
          go_ret
          exact ⟨rfl, E04.trans E6⟩
        | true =>
          refine (verNumbers_yes s1.to.maj s1.to.mnr s1.to.pat w4 hvn).mono ?_
          rintro e w5 ⟨rfl, E6⟩
          have HTO : Hid s1.to.ok := Lib.hid (vnum_ok hvn)
          clear hvn
          have ER5 : Ext wr w5 := (EW1.trans E5).trans E6
          have E05 := E04.trans E6
          have KT5 := (KT.ext E5).ext E6
          have S5 := Lib.hid (hS5.out.ext ER5)
          have S6 := Lib.hid (hS6.out.ext ER5)
          clear c3 c4 c5 KT hS5 hS6
          have c0 := KT5.cell (o := 0) rfl
          by_cases k4 : s1.kind = 4
          · have q4 : (s1.kind == 4) = true := by simpa using k4
            replace k4 := Lib.hid k4
            go_wp2_with fail
            clear c0 KT5 ER5 q1 q6 q4
            go_loopw [70] (fun u wi => ∃ (i : Nat) (v2 : GD), u = .int .i64 i ∧ i ≤ 3 ∧ Hid v2.ok ∧ Hid (Seen wi b5 (fun k => k ≠ b5 ∧ k ≠ b6) v2) ∧ Hid (Seen wi b6 (fun k => k ≠ b5 ∧ k ≠ b6) v2) ∧ Ext w wi) (fun u _ => 3 - (intOf u).toNat)
            case atStart => exact ⟨0, v, rfl, by omega, hok, S5, S6, E05⟩
            case round =>
              obtain ⟨i, v2, rfl, hi, hok2, hT5, hT6, hEi⟩ := hrel
              clear S5 S6 hok E05 E04 E6 E5 EW1 hE
              by_cases hi3 : i < 3
              · obtain ⟨A5, p5, K5, M5⟩ := hT5.out
                obtain ⟨A6, p6, K6, M6⟩ := hT6.out
                have HVI := Lib.hid (HW.out.ext hEi)
                go_wp2_with fail
                refine reg17 _ _ _ _ _ _ _ _ _ _ _ _ _ _ _ _ _ _ _ _ _ _ _ _ _ _ _ _ _ _ _ _ _ _ _ _ _ _ _ _ _ _ _ _ _ _ _ _ _ _ _ _ _ _ _ _ _ _ _ _ _ _ _ _ _ _ _ _ _ _ _ _ _ _ _ _ _ _ _ _ _ _ _ _ _ _ _ _ _ _ _ _ _ _ _ _ _ _ _ _ _ _ _ _ _ _ _ _ _ _ _ _ _ _ _ _ _ _ _ _ _ _ _ _ _ _ _ _ _ _ _ _ _ _ _ _ _ _ _ _ _ _ _ _ _ _ _ _ (fun _ _ d _ _ h => by cases d <;> exact h) _ b5 i v2 A5 p5 hi3 K5 ((Rp.slice Rp.str).toAny M5) hok2 HVI (Lib.hid ?_)
                intro b10 l u73 u74 u75 u76 u77 u78 u79 u80 u81 u82 wy hl g10 K10 E10
                have HL := Lib.hid hl
                have s59 : b5 < wr.heap.size := K5.lt
                have s69 : b6 < wr.heap.size := K6.lt
                have K6' := K6.ext E10
                have M6' := (Rp.slice Rp.str).ext' E10 M6
                have l10 := K10.lt
                clear hl
                change Exit.then _ _ _ _ _
                go_wp2_with fail
                refine reg18 _ _ _ _ _ _ _ _ _ _ _ _ _ _ _ _ _ _ _ _ _ _ _ _ _ _ _ _ _ _ _ _ _ _ _ _ _ _ _ _ _ _ _ _ _ _ _ _ _ _ _ _ _ _ _ _ _ _ _ _ _ _ _ _ _ _ _ _ _ _ _ _ _ _ _ _ _ _ _ _ _ _ _ _ _ _ _ _ _ _ _ _ _ _ _ _ _ _ _ _ _ _ _ _ _ _ _ _ _ _ _ _ _ _ _ _ _ _ _ _ _ _ _ _ _ _ _ _ _ _ _ _ _ _ _ _ _ _ _ _ _ _ _ _ _ _ _ _ (fun _ _ d _ _ h => by cases d <;> exact h) _ b6 i v2 A6 p6 hi3 K6' ((Rp.slice Rp.str).toAny M6') hok2 (Lib.hid (HVI.out.ext E10)) (Lib.hid ?_)
                intro b11 l' u83 u84 u85 u86 u87 u88 u89 u90 u91 u92 wc hl' g11 K11 E11
                rw [Least.unique hl' HL.out] at K11
                clear hl'
                have K10 := K10.ext E11
                have HX := Lib.hid (fit_hist hok2.out HL.out i)
                obtain ⟨x, hx⟩ : ∃ x, x = histVote v2 l i := ⟨_, rfl⟩
                rw [← hx] at K10 K11 HX
                clear hx
                have hb10 : b10 ≠ b5 := by omega
                have hb11 : b11 ≠ b5 := by omega
                have E19 := E10.trans E11
                clear K6' M6' HL E10 E11
                change Exit.then _ _ _ _ _
                have K5 := K5.ext E19
                have K6 := K6.ext E19
                have hxk := Lib.hid HX.out.1
                obtain ⟨n0, n1, n2, n3, n4, n5⟩ := vote_load K10
                obtain ⟨m0, m1, m2, m3, m4, m5⟩ := vote_load K11
                have qn := vote_neq x
                go_wp2_with fail
                clear n0 n1 n2 n3 n4 n5 m0 m1 m2 m3 m4 m5 qn
                refine reg21 _ _ _ _ _ _ _ _ _ _ _ _ _ _ _ _ _ _ _ _ _ _ _ _ _ _ _ _ _ _ _ _ _ _ _ _ _ _ _ _ _ _ _ _ _ _ _ _ _ _ _ _ _ _ _ _ _ _ _ _ _ _ _ _ _ _ _ _ _ _ _ _ _ _ _ _ _ _ _ _ _ _ _ _ _ _ _ _ _ _ _ _ _ _ _ _ _ _ _ _ _ _ _ _ _ _ _ _ _ _ _ _ _ _ _ _ _ _ _ _ _ _ _ _ _ _ _ _ _ _ _ _ _ _ _ _ _ _ _ _ _ _ _ _ _ _ (fun _ _ d _ _ h => by cases d <;> exact h) _ b5 b6 b10 b11 v2 x A5 A6 p5 p6 n56 hb10 hb11 K5 K6 K10 K11 hxk (Lib.hid ?_)
                intro u96 u97 u98 u99 u100 u101 w9 we wf EV xe xf K5f Kf
                have M5f := (Rp.slice Rp.str).extX xf ((Rp.slice Rp.str).extX xe ((Rp.slice Rp.str).ext' (E19.trans EV) M5) (fun k hk => hk.1)) (fun k hk => hk.2)
                have M6f := (Rp.slice Rp.str).extX xf ((Rp.slice Rp.str).extX xe ((Rp.slice Rp.str).ext' (E19.trans EV) M6) (fun k hk => hk.1)) (fun k hk => hk.2)
                have EF : Ext w wf := ext_56 ((hEi.trans E19).trans EV) xe xf hs3 g5 g6
                have N5 : Hid (Seen wf b5 (fun k => k ≠ b5 ∧ k ≠ b6) (voted v2 x)) := Lib.hid ⟨A5, p5, K5f, M5f⟩
                have N6 : Hid (Seen wf b6 (fun k => k ≠ b5 ∧ k ≠ b6) (voted v2 x)) := Lib.hid ⟨A6, p6, Kf, M6f⟩
                have NOK : Hid (voted v2 x).ok := Lib.hid HX.out.2
                clear K5 K6 Kf xf xe EV M5f M6f K5f K10 K11
                change Exit.inBlock _ _ _ _ _
                go_wp2_with fail
                go_roundw
                case rel => exact ⟨i + 1, voted v2 x, by go_num, by omega, NOK, N5, N6, EF⟩
                case measure => simp [intOf]; omega
              · have hi4 : Hid (i = 3) := Lib.hid (by omega)
                go_wp2_with fail
                go_roundw
                case rel => exact ⟨k + 1, v2, by go_num, by omega, hok2, hT5, hT6, hEi⟩
                case measure => simp [intOf]; omega
          have q4 : (s1.kind == 4) = false := by simpa using k4
          by_cases k5 : s1.kind = 5
          · have q5 : (s1.kind == 5) = true := by simpa using k5
            replace k5 := Lib.hid k5
            obtain ⟨A5, p5, K5, M5⟩ := S5.out
            obtain ⟨A6, p6, K6, M6⟩ := S6.out
            have l55 : b5 < wr.heap.size := hb5.out
            have l6 : b6 < w5.heap.size := K6.lt
            have l5 : b5 < w5.heap.size := K5.lt
            have lT : wr.heap.size < w5.heap.size := KT5.lt
            obtain ⟨r0, r1, r2, r3, r4, r5⟩ := gd_load K5
            have hcs : v.cluster.size ≤ 2147483647 := by have := hok.out.c.le; omega
            go_wp2_with fail
            refine (there_any v A5 _ p5 w5 hcs).mono ?_
            rintro e w6 ⟨rfl, E7⟩
            cases hcv : verOfD v.cluster with
            | none =>
              replace hcv := Lib.hid hcv
              go_wp2_with fail
              go_roundw
              case rel => exact ⟨k + 1, v, by go_num, by omega, hok, Lib.hid (S5.out.ext E7), Lib.hid (S6.out.ext E7), E05.trans E7⟩
              case measure => simp [intOf]; omega
            | some cv =>
            replace hcv := Lib.hid hcv
            clear r0 r1 r2 r3 r4 r5
            have K5 := K5.ext E7
            have K6 := K6.ext E7
            have KT6 := KT5.ext E7
            obtain ⟨r0, r1, r2, r3, r4, r5⟩ := gd_load K5
            obtain ⟨t0, t1, t2, t3, t4, t5⟩ := gd_load K6
            have E06 := E05.trans E7

            have c3 := KT6.cell (o := 3) rfl
            have c4 := KT6.cell (o := 4) rfl
            have c5 := KT6.cell (o := 5) rfl
            obtain ⟨x, hx⟩ : ∃ x : VoteD, x = { enVote vote0 (validD cv s1.to v.down) s1.to with err := errNo (validD cv s1.to v.down) } := ⟨_, rfl⟩
            have HX : Hid (VFit v x) := Lib.hid (by rw [hx]; exact fit_enable hok.out HTO.out _)
            replace hx := Lib.hid hx
            have E67 := E7.size
            go_wp2_with fail
            refine reg25 _ _ _ _ _ _ _ _ _ _ _ _ _ _ _ _ _ _ _ _ _ _ _ _ _ _ _ _ _ _ _ _ _ _ _ _ _ _ _ _ _ _ _ _ _ _ _ _ _ _ _ _ _ _ _ _ _ _ _ _ _ _ _ _ _ _ _ _ _ _ _ _ _ _ _ _ _ _ _ _ _ _ _ _ _ _ _ _ _ _ _ _ _ _ _ _ _ _ _ _ _ _ _ _ _ _ _ _ _ _ _ _ _ _ _ _ _ _ _ _ _ _ _ _ _ _ _ _ _ _ _ _ _ _ _ _ _ _ _ _ _ _ _ _ _ _ _ (fun _ _ d _ _ h => by cases d <;> exact h) _ b5 b6 v s1 wr.heap.size cv x A5 A6 p5 p6 K5 K6 KT6 HTO hok (Lib.hid (HW.out.ext E06)) hcv hx (Lib.hid ?_)
            intro b10 b11 u108 u109 u110 u111 u112 u113 u114 u115 wc g10 g11 K10 K11 E8
            have hb10 : b10 ≠ b5 := by omega
            have hb11 : b11 ≠ b5 := by omega
            clear r0 r1 r2 r3 r4 r5 t0 t1 t2 t3 t4 t5 c3 c4 c5 hx
            have M5 := (Rp.slice Rp.str).ext' E7 M5
            have M6 := (Rp.slice Rp.str).ext' E7 M6
            obtain ⟨v2, hv2⟩ : ∃ v2, v2 = v := ⟨_, rfl⟩
            subst hv2
            change Exit.then _ _ _ _ _
            have K5 := K5.ext E8
            have K6 := K6.ext E8
            have hxk := Lib.hid HX.out.1
            obtain ⟨n0, n1, n2, n3, n4, n5⟩ := vote_load K10
            obtain ⟨m0, m1, m2, m3, m4, m5⟩ := vote_load K11
            have qn := vote_neq x
            go_wp2_with fail
            clear n0 n1 n2 n3 n4 n5 m0 m1 m2 m3 m4 m5 qn
            refine reg28 _ _ _ _ _ _ _ _ _ _ _ _ _ _ _ _ _ _ _ _ _ _ _ _ _ _ _ _ _ _ _ _ _ _ _ _ _ _ _ _ _ _ _ _ _ _ _ _ _ _ _ _ _ _ _ _ _ _ _ _ _ _ _ _ _ _ _ _ _ _ _ _ _ _ _ _ _ _ _ _ _ _ _ _ _ _ _ _ _ _ _ _ _ _ _ _ _ _ _ _ _ _ _ _ _ _ _ _ _ _ _ _ _ _ _ _ _ _ _ _ _ _ _ _ _ _ _ _ _ _ _ _ _ _ _ _ _ _ _ _ _ _ _ _ _ _ (fun _ _ d _ _ h => by cases d <;> exact h) _ b5 b6 b10 b11 v2 x A5 A6 p5 p6 n56 hb10 hb11 K5 K6 K10 K11 hxk (Lib.hid ?_)
            intro u119 u120 u121 u122 u123 u124 w9 we wf EV xe xf K5f Kf
            have M5f := (Rp.slice Rp.str).extX xf ((Rp.slice Rp.str).extX xe ((Rp.slice Rp.str).ext' (E8.trans EV) M5) (fun k hk => hk.1)) (fun k hk => hk.2)
            have M6f := (Rp.slice Rp.str).extX xf ((Rp.slice Rp.str).extX xe ((Rp.slice Rp.str).ext' (E8.trans EV) M6) (fun k hk => hk.1)) (fun k hk => hk.2)
            have EF : Ext w wf := ext_56 ((E06.trans E8).trans EV) xe xf hs3 g5 g6
            have N5 : Hid (Seen wf b5 (fun k => k ≠ b5 ∧ k ≠ b6) (voted v2 x)) := Lib.hid ⟨A5, p5, K5f, M5f⟩
            have N6 : Hid (Seen wf b6 (fun k => k ≠ b5 ∧ k ≠ b6) (voted v2 x)) := Lib.hid ⟨A6, p6, Kf, M6f⟩
            have NOK : Hid (voted v2 x).ok := Lib.hid HX.out.2
            clear K5 K6 Kf xf xe EV M5f M6f K5f K10 K11
            change Exit.inBlock _ _ _ _ _
            go_wp2_with fail
            go_roundw
            case rel => exact ⟨k + 1, voted v2 x, by go_num, by omega, NOK, N5, N6, EF⟩
            case measure => simp [intOf]; omega
          have q5 : (s1.kind == 5) = false := by simpa using k5
          by_cases k6 : s1.kind = 6
          · have q6 : (s1.kind == 6) = true := by simpa using k6
            replace k6 := Lib.hid k6
            obtain ⟨A5, p5, K5, M5⟩ := S5.out
            obtain ⟨A6, p6, K6, M6⟩ := S6.out
            have l55 : b5 < wr.heap.size := hb5.out
            have l6 : b6 < w5.heap.size := K6.lt
            have l5 : b5 < w5.heap.size := K5.lt
            have lT : wr.heap.size < w5.heap.size := KT5.lt
            obtain ⟨r0, r1, r2, r3, r4, r5⟩ := gd_load K5
            have hcs : v.cluster.size ≤ 2147483647 := by have := hok.out.c.le; omega
            go_wp2_with fail
            refine (there_any v A5 _ p5 w5 hcs).mono ?_
            rintro e w6 ⟨rfl, E7⟩
            cases hcv : verOfD v.cluster with
            | none =>
              replace hcv := Lib.hid hcv
              go_wp2_with fail
              go_roundw
              case rel => exact ⟨k + 1, v, by go_num, by omega, hok, Lib.hid (S5.out.ext E7), Lib.hid (S6.out.ext E7), E05.trans E7⟩
              case measure => simp [intOf]; omega
            | some cv =>
            replace hcv := Lib.hid hcv
            clear r0 r1 r2 r3 r4 r5
            have K5 := K5.ext E7
            have K6 := K6.ext E7
            have KT6 := KT5.ext E7
            obtain ⟨r0, r1, r2, r3, r4, r5⟩ := gd_load K5
            obtain ⟨t0, t1, t2, t3, t4, t5⟩ := gd_load K6
            have E06 := E05.trans E7
            cases hh : v.hasDown with
            | false =>
              have hhn : (!v.hasDown) = true := by rw [hh]; rfl
              replace hh := Lib.hid hh
              go_wp2_with fail
              go_roundw
              case rel => exact ⟨k + 1, v, by go_num, by omega, hok, Lib.hid (S5.out.ext E7), Lib.hid (S6.out.ext E7), E06⟩
              case measure => simp [intOf]; omega
            | true =>
            have hhn : (!v.hasDown) = false := by rw [hh]; rfl
            replace hh := Lib.hid hh
            have c3 := KT6.cell (o := 3) rfl
            have c4 := KT6.cell (o := 4) rfl
            have c5 := KT6.cell (o := 5) rfl
            obtain ⟨x, hx⟩ : ∃ x : VoteD, x = downCancelD v := ⟨_, rfl⟩
            have HX : Hid (VFit v x) := Lib.hid (by rw [hx]; exact fit_downCancel hok.out)
            replace hx := Lib.hid hx
            have E67 := E7.size
            go_wp2_with fail
            refine reg31 _ _ _ _ _ _ _ _ _ _ _ _ _ _ _ _ _ _ _ _ _ _ _ _ _ _ _ _ _ _ _ _ _ _ _ _ _ _ _ _ _ _ _ _ _ _ _ _ _ _ _ _ _ _ _ _ _ _ _ _ _ _ _ _ _ _ _ _ _ _ _ _ _ _ _ _ _ _ _ _ _ _ _ _ _ _ _ _ _ _ _ _ _ _ _ _ _ _ _ _ _ _ _ _ _ _ _ _ _ _ _ _ _ _ _ _ _ _ _ _ _ _ _ _ _ _ _ _ _ _ _ _ _ _ _ _ _ _ _ _ _ _ _ _ _ _ _ _ (fun _ _ d _ _ h => by cases d <;> exact h) _ b5 b6 v x A5 A6 p5 p6 K5 K6 hh hx (Lib.hid ?_)
            intro b10 b11 u135 u136 u137 u138 wc g10 g11 K10 K11 E8
            have hb10 : b10 ≠ b5 := by omega
            have hb11 : b11 ≠ b5 := by omega
            clear r0 r1 r2 r3 r4 r5 t0 t1 t2 t3 t4 t5 c3 c4 c5 hx
            have M5 := (Rp.slice Rp.str).ext' E7 M5
            have M6 := (Rp.slice Rp.str).ext' E7 M6
            obtain ⟨v2, hv2⟩ : ∃ v2, v2 = v := ⟨_, rfl⟩
            subst hv2
            change Exit.then _ _ _ _ _
            have K5 := K5.ext E8
            have K6 := K6.ext E8
            have hxk := Lib.hid HX.out.1
            obtain ⟨n0, n1, n2, n3, n4, n5⟩ := vote_load K10
            obtain ⟨m0, m1, m2, m3, m4, m5⟩ := vote_load K11
            have qn := vote_neq x
            go_wp2_with fail
            clear n0 n1 n2 n3 n4 n5 m0 m1 m2 m3 m4 m5 qn
            refine reg34 _ _ _ _ _ _ _ _ _ _ _ _ _ _ _ _ _ _ _ _ _ _ _ _ _ _ _ _ _ _ _ _ _ _ _ _ _ _ _ _ _ _ _ _ _ _ _ _ _ _ _ _ _ _ _ _ _ _ _ _ _ _ _ _ _ _ _ _ _ _ _ _ _ _ _ _ _ _ _ _ _ _ _ _ _ _ _ _ _ _ _ _ _ _ _ _ _ _ _ _ _ _ _ _ _ _ _ _ _ _ _ _ _ _ _ _ _ _ _ _ _ _ _ _ _ _ _ _ _ _ _ _ _ _ _ _ _ _ _ _ _ _ _ _ _ _ (fun _ _ d _ _ h => by cases d <;> exact h) _ b5 b6 b10 b11 v2 x A5 A6 p5 p6 n56 hb10 hb11 K5 K6 K10 K11 hxk (Lib.hid ?_)
            intro u142 u143 u144 u145 u146 u147 w9 we wf EV xe xf K5f Kf
            have M5f := (Rp.slice Rp.str).extX xf ((Rp.slice Rp.str).extX xe ((Rp.slice Rp.str).ext' (E8.trans EV) M5) (fun k hk => hk.1)) (fun k hk => hk.2)
            have M6f := (Rp.slice Rp.str).extX xf ((Rp.slice Rp.str).extX xe ((Rp.slice Rp.str).ext' (E8.trans EV) M6) (fun k hk => hk.1)) (fun k hk => hk.2)
            have EF : Ext w wf := ext_56 ((E06.trans E8).trans EV) xe xf hs3 g5 g6
            have N5 : Hid (Seen wf b5 (fun k => k ≠ b5 ∧ k ≠ b6) (voted v2 x)) := Lib.hid ⟨A5, p5, K5f, M5f⟩
            have N6 : Hid (Seen wf b6 (fun k => k ≠ b5 ∧ k ≠ b6) (voted v2 x)) := Lib.hid ⟨A6, p6, Kf, M6f⟩
            have NOK : Hid (voted v2 x).ok := Lib.hid HX.out.2
            clear K5 K6 Kf xf xe EV M5f M6f K5f K10 K11
            change Exit.inBlock _ _ _ _ _
            go_wp2_with fail
            go_roundw
            case rel => exact ⟨k + 1, voted v2 x, by go_num, by omega, NOK, N5, N6, EF⟩
            case measure => simp [intOf]; omega
          have q66 : (s1.kind == 6) = false := by simpa using k6
          as_aux_lemma =>
            clear k4 k5 k6
            go_wp2_with fail
            obtain ⟨A5, p5, K5, M5⟩ := S5.out
            obtain ⟨A6, p6, K6, M6⟩ := S6.out
            have l5 : b5 < w5.heap.size := K5.lt
            have l6 : b6 < w5.heap.size := K6.lt
            have l55 : b5 < wr.heap.size := hb5.out
            obtain ⟨t0, t1, t2, t3, t4, t5⟩ := gd_load K6
            obtain ⟨s0, s1', s2, s3, s4, s5⟩ := gd_load K5
            have c1 := KT5.cell (o := 1) rfl
            have c2 := KT5.cell (o := 2) rfl
            have c3 := KT5.cell (o := 3) rfl
            have c4 := KT5.cell (o := 4) rfl
            have c5 := KT5.cell (o := 5) rfl
            change Code.wp _ _ _ _ w5
            refine wp_region_sched (ops := ops_3_12) (ExtX (fun k => k = b5)) [7] (.quiet 1 (.quiet 3 (.quiet 4 (.loud 0 (.loud 2 (.loud 5 (.loud 6 (.last 7 (.done)) (.stop)) (.stop)) (.stop)) (.stop))))) (by kernel_rfl) (ExtX.refl (fun k => k = b5)) (fun _ _ _ => ExtX.trans) (by kernel_rfl) (fun _ _ d _ _ h => by cases d <;> exact h) ?_
            refine wpS_quiet (some 63) { dst := some 63, op := Op.load 31 (Operand.tmp 8), type := _, pos := _, after := _, guard := none } _ rfl rfl (by rfl) (fun wE hE => by (have zk0 := hE.cellS (by first | exact (fun h : b6 = b5 => n56 h.symm) | exact (fun h : wr.heap.size = b5 => by omega)) c0; have zk1 := hE.cellS (by first | exact (fun h : b6 = b5 => n56 h.symm) | exact (fun h : wr.heap.size = b5 => by omega)) c1; have zk2 := hE.cellS (by first | exact (fun h : b6 = b5 => n56 h.symm) | exact (fun h : wr.heap.size = b5 => by omega)) c2; have zk3 := hE.cellS (by first | exact (fun h : b6 = b5 => n56 h.symm) | exact (fun h : wr.heap.size = b5 => by omega)) c3; have zk4 := hE.cellS (by first | exact (fun h : b6 = b5 => n56 h.symm) | exact (fun h : wr.heap.size = b5 => by omega)) c4; have zk5 := hE.cellS (by first | exact (fun h : b6 = b5 => n56 h.symm) | exact (fun h : wr.heap.size = b5 => by omega)) c5; have zk6 := hE.cellS (by first | exact (fun h : b6 = b5 => n56 h.symm) | exact (fun h : wr.heap.size = b5 => by omega)) t0; have zk7 := hE.cellS (by first | exact (fun h : b6 = b5 => n56 h.symm) | exact (fun h : wr.heap.size = b5 => by omega)) t1; have zk8 := hE.cellS (by first | exact (fun h : b6 = b5 => n56 h.symm) | exact (fun h : wr.heap.size = b5 => by omega)) t2; have zk9 := hE.cellS (by first | exact (fun h : b6 = b5 => n56 h.symm) | exact (fun h : wr.heap.size = b5 => by omega)) t3; have zk10 := hE.cellS (by first | exact (fun h : b6 = b5 => n56 h.symm) | exact (fun h : wr.heap.size = b5 => by omega)) t4; have zk11 := hE.cellS (by first | exact (fun h : b6 = b5 => n56 h.symm) | exact (fun h : wr.heap.size = b5 => by omega)) t5; go_simp; try with_reducible rfl)) ?_; simp only [Act.put, List.setIfInBounds_toArray, List.set_cons_zero, List.set_cons_succ]
            refine wpS_quiet (some 65) { dst := some 65, op := Op.load 24 (Operand.tmp 6), type := _, pos := _, after := _, guard := none } _ rfl rfl (by rfl) (fun wE hE => by (have zk0 := hE.cellS (by first | exact (fun h : b6 = b5 => n56 h.symm) | exact (fun h : wr.heap.size = b5 => by omega)) c0; have zk1 := hE.cellS (by first | exact (fun h : b6 = b5 => n56 h.symm) | exact (fun h : wr.heap.size = b5 => by omega)) c1; have zk2 := hE.cellS (by first | exact (fun h : b6 = b5 => n56 h.symm) | exact (fun h : wr.heap.size = b5 => by omega)) c2; have zk3 := hE.cellS (by first | exact (fun h : b6 = b5 => n56 h.symm) | exact (fun h : wr.heap.size = b5 => by omega)) c3; have zk4 := hE.cellS (by first | exact (fun h : b6 = b5 => n56 h.symm) | exact (fun h : wr.heap.size = b5 => by omega)) c4; have zk5 := hE.cellS (by first | exact (fun h : b6 = b5 => n56 h.symm) | exact (fun h : wr.heap.size = b5 => by omega)) c5; have zk6 := hE.cellS (by first | exact (fun h : b6 = b5 => n56 h.symm) | exact (fun h : wr.heap.size = b5 => by omega)) t0; have zk7 := hE.cellS (by first | exact (fun h : b6 = b5 => n56 h.symm) | exact (fun h : wr.heap.size = b5 => by omega)) t1; have zk8 := hE.cellS (by first | exact (fun h : b6 = b5 => n56 h.symm) | exact (fun h : wr.heap.size = b5 => by omega)) t2; have zk9 := hE.cellS (by first | exact (fun h : b6 = b5 => n56 h.symm) | exact (fun h : wr.heap.size = b5 => by omega)) t3; have zk10 := hE.cellS (by first | exact (fun h : b6 = b5 => n56 h.symm) | exact (fun h : wr.heap.size = b5 => by omega)) t4; have zk11 := hE.cellS (by first | exact (fun h : b6 = b5 => n56 h.symm) | exact (fun h : wr.heap.size = b5 => by omega)) t5; go_simp; try with_reducible rfl)) ?_; simp only [Act.put, List.setIfInBounds_toArray, List.set_cons_zero, List.set_cons_succ]
            refine wpS_quiet (some 66) { dst := some 66, op := Op.load 31 (Operand.tmp 8), type := _, pos := _, after := _, guard := none } _ rfl rfl (by rfl) (fun wE hE => by (have zk0 := hE.cellS (by first | exact (fun h : b6 = b5 => n56 h.symm) | exact (fun h : wr.heap.size = b5 => by omega)) c0; have zk1 := hE.cellS (by first | exact (fun h : b6 = b5 => n56 h.symm) | exact (fun h : wr.heap.size = b5 => by omega)) c1; have zk2 := hE.cellS (by first | exact (fun h : b6 = b5 => n56 h.symm) | exact (fun h : wr.heap.size = b5 => by omega)) c2; have zk3 := hE.cellS (by first | exact (fun h : b6 = b5 => n56 h.symm) | exact (fun h : wr.heap.size = b5 => by omega)) c3; have zk4 := hE.cellS (by first | exact (fun h : b6 = b5 => n56 h.symm) | exact (fun h : wr.heap.size = b5 => by omega)) c4; have zk5 := hE.cellS (by first | exact (fun h : b6 = b5 => n56 h.symm) | exact (fun h : wr.heap.size = b5 => by omega)) c5; have zk6 := hE.cellS (by first | exact (fun h : b6 = b5 => n56 h.symm) | exact (fun h : wr.heap.size = b5 => by omega)) t0; have zk7 := hE.cellS (by first | exact (fun h : b6 = b5 => n56 h.symm) | exact (fun h : wr.heap.size = b5 => by omega)) t1; have zk8 := hE.cellS (by first | exact (fun h : b6 = b5 => n56 h.symm) | exact (fun h : wr.heap.size = b5 => by omega)) t2; have zk9 := hE.cellS (by first | exact (fun h : b6 = b5 => n56 h.symm) | exact (fun h : wr.heap.size = b5 => by omega)) t3; have zk10 := hE.cellS (by first | exact (fun h : b6 = b5 => n56 h.symm) | exact (fun h : wr.heap.size = b5 => by omega)) t4; have zk11 := hE.cellS (by first | exact (fun h : b6 = b5 => n56 h.symm) | exact (fun h : wr.heap.size = b5 => by omega)) t5; go_simp; try with_reducible rfl)) ?_; simp only [Act.put, List.setIfInBounds_toArray, List.set_cons_zero, List.set_cons_succ]
            refine wpS_upd (some 62) { dst := some 62, op := Op.load 24 (Operand.tmp 5), type := _, pos := _, after := _, guard := none } rfl rfl (by rfl) ?_ trivial
            refine ⟨gdV v A5 v.members.length p5, w5.drew, by go_simp; try rfl, ExtX.refl _ _, ?_⟩
            simp only [Act.put, List.setIfInBounds_toArray, List.set_cons_zero, List.set_cons_succ]
            refine wpS_call (some 64) { dst := some 64, op := Op.call { callee := Callee.value (Operand.func 21), args := #[Operand.tmp 62, Operand.tmp 63], argTypes := #[24, 31] }, type := _, pos := _, after := _, guard := none } 21 _ rfl rfl (by rfl) (by go_simp; try first | with_reducible rfl | exact ⟨rfl, rfl⟩) ?_
            refine (seen_any v A5 _ p5 s1 _ rfl ((Rp.slice Rp.str).toAny ((Rp.slice Rp.str).ext' (Ext.refl _).drew M5)) hok.out HVT.out).mono ?_; rintro e w8 ⟨A8, _, p8, rfl, rfl, hm8, h8⟩; refine ⟨_, rfl, (h8.toX _), ?_⟩; simp only [Act.put, List.setIfInBounds_toArray, List.set_cons_zero, List.set_cons_succ]
            refine wpS_call (some 67) { dst := some 67, op := Op.call { callee := Callee.value (Operand.func 21), args := #[Operand.tmp 65, Operand.tmp 66], argTypes := #[24, 31] }, type := _, pos := _, after := _, guard := none } 21 _ rfl rfl (by rfl) (by go_simp; try first | with_reducible rfl | exact ⟨rfl, rfl⟩) ?_
            refine (seen_any v A6 _ p6 s1 w8 rfl ((Rp.slice Rp.str).toAny ((Rp.slice Rp.str).ext' h8.undrew M6)) hok.out HVT.out).mono ?_; rintro e w9 ⟨A9, _, p9, rfl, rfl, hm9, h9⟩; refine ⟨_, rfl, (h9.toX _), ?_⟩; simp only [Act.put, List.setIfInBounds_toArray, List.set_cons_zero, List.set_cons_succ]
            have K59 := (K5.ext h8.undrew).ext h9
            have K69 := (K6.ext h8.undrew).ext h9
            refine wpS_storeL none { dst := none, op := Op.store 24 (Operand.tmp 5) (Operand.tmp 64), type := _, pos := _, after := _, guard := none } rfl rfl (by rfl) (.tmp 5) (.tmp 64) 24 rfl rfl rfl rfl K59 rfl (Nat.le_of_ble_eq_true rfl) rfl (fun w' x => x) ?_ trivial
            intro we Ke xe
            simp only [Act.put, List.setIfInBounds_toArray, List.set_cons_zero, List.set_cons_succ]
            have K6e := K69.extX xe (fun h => n56 h.symm)
            refine wpS_store none { dst := none, op := Op.store 24 (Operand.tmp 6) (Operand.tmp 67), type := _, pos := _, after := _, guard := none } rfl rfl (by rfl) (.tmp 6) (.tmp 67) 24 rfl rfl rfl rfl K6e rfl (Nat.le_of_ble_eq_true rfl) rfl ?_
            intro wf Kf xf
            simp only [Act.put, List.setIfInBounds_toArray, List.set_cons_zero, List.set_cons_succ]
            change Exit.inBlock _ _ _ _ _
            have EV : Ext w5 w9 := h8.undrew.trans h9
            have l8 : w5.heap.size ≤ w8.heap.size := h8.undrew.size
            have hm8' := (Rp.slice Rp.str).mono (ok' := fun k => k ≠ b5 ∧ k ≠ b6) (fun k hk => (by have hk : w5.heap.size ≤ k := hk; exact ⟨by omega, by omega⟩)) hm8
            have hm9' := (Rp.slice Rp.str).mono (ok' := fun k => k ≠ b5 ∧ k ≠ b6) (fun k hk => (by have hk : w8.heap.size ≤ k := hk; exact ⟨by omega, by omega⟩)) hm9
            have M5f := (Rp.slice Rp.str).extX xf ((Rp.slice Rp.str).extX xe ((Rp.slice Rp.str).ext' h9 hm8') (fun k hk => hk.1)) (fun k hk => hk.2)
            have M6f := (Rp.slice Rp.str).extX xf ((Rp.slice Rp.str).extX xe hm9' (fun k hk => hk.1)) (fun k hk => hk.2)
            have K5f := Ke.extX xf n56
            have EF : Ext w wf := ext_56 (E05.trans EV) xe xf hs3 g5 g6
            have N5 : Hid (Seen wf b5 (fun k => k ≠ b5 ∧ k ≠ b6) (seenG v s1)) := Lib.hid ⟨A8, p8, K5f, M5f⟩
            have N6 : Hid (Seen wf b6 (fun k => k ≠ b5 ∧ k ≠ b6) (seenG v s1)) := Lib.hid ⟨A9, p9, Kf, M6f⟩
            have NOK : Hid (seenG v s1).ok := Lib.hid (seen_ok hok.out HVT.out)
            clear K5 K6 K59 K69 Ke K6e Kf xf xe h8 h9 EV M5f M6f K5f hm8 hm9 hm8' hm9' c0 c1 c2 c3 c4 c5 t0 t1 t2 t3 t4 t5 s0 s1' s2 s3 s4 s5
            go_wp2_with fail
            go_roundw
            case rel => exact ⟨k + 1, seenG v s1, by go_num, by omega, NOK, N5, N6, EF⟩
            case measure => simp [intOf]; omega
      · have hkn : Hid (k = xs.length) := Lib.hid (by omega)
        go_wp2_with fail
        refine (awake_any wr (HW.out.ext hE)).mono ?_
        rintro e w4 ⟨rfl, E5⟩
        go_wp2
        go_ret
        exact ⟨rfl, hE.trans E5⟩
end Go.Proofs.YtdokcengcekfgaaGreatDoor
