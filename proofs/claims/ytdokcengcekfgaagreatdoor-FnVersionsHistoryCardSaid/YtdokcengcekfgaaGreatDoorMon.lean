/-
  What a monitor decides about a cluster's version (Monitor.decideClusterVersion, UpdateClusterVersionIfNeeded).
-/
import Derived.Test.YtdokcengcekfgaaGreatDoorMin
namespace Go.Proofs.YtdokcengcekfgaaGreatDoor
open Go.RowKit Go.Maps Go.WideMaps
set_option linter.unusedSimpArgs false
set_option linter.unusedVariables false

def base (v : VD) : VD := ⟨v.maj, v.mnr, 0⟩
def vdownV (a b : VD) : Bool := vdown a.maj a.mnr b.maj b.mnr b.pat
def vchangeV (a b : VD) : Bool := vchange a.maj a.mnr b.maj b.mnr
def veqV (a b : VD) : Bool := veq a.maj a.mnr a.pat b.maj b.mnr b.pat
/-- what is decided: a version that is set, an error -/
def decideD (cv least : Option VD) (down : Bool) (tv : VD) : Option VD × Bool := match cv with
  | none => (some (least.getD ⟨3, 0, 0⟩), false)
  | some c => match least with
    | none => (none, false)
    | some l =>
      if down then (if veqV tv c then (none, false) else if vdownV c tv && vdownV l tv then (some tv, false) else (none, true))
      else if less c l && vchangeV c l then (some l, false) else (none, false)
def GD.tv (g : GD) : VD := (verOfD g.target).getD zeroV
theorem GD.ok.tgt {g : GD} (h : g.ok) (hd : g.down = true) : g.tv.ok ∧ g.target = vt g.tv ∧ g.hasDown = true := by
  obtain ⟨h1, v, hv⟩ := h.d hd
  unfold GD.tv
  rw [hv]
  obtain ⟨h2, h3⟩ := verOfD_some hv
  exact ⟨h2, h3, h1⟩
def errDown : Value := .iface 80 (.string ⟨#[105, 110, 118, 97, 108, 105, 100, 32, 100, 111, 119, 110, 103, 114, 97, 100, 101, 32, 116, 97, 114, 103, 101, 116]⟩)
/-- how it is answered -/
def DecE (w : World) (r : Option VD × Bool) (e : Ending) (w' : World) : Prop := Ext w w' ∧ match r with
  | (_, true) => e = .returned (.tuple #[.pointer none, errDown])
  | (none, false) => e = .returned (.tuple #[.pointer none, .nilIface])
  | (some v, false) => ∃ c, e = .returned (.tuple #[.pointer (some ⟨c, 0, none⟩), .nilIface]) ∧ w.heap.size ≤ c ∧ V3 w' c 0 v.maj v.mnr v.pat
def DecAns (g : GD) (w : World) (e : Ending) (w' : World) : Prop := ∃ l, Least (g.members.map verOfD) l ∧ DecE w (decideD (verOfD g.cluster) l g.down g.tv) e w'
theorem target_any (c : Nat) (d : Bool) (v : VD) (hv : v.ok) (w : World) (h : Blk w c 86 [.string (vt v), .bool d]) : Calls Tryz.prog 54 #[.pointer (some ⟨c, 0, none⟩)] w (NewV w v.maj v.mnr v.pat) := by
  have g0 := h.cell (o := 0) rfl
  go_enter Tryz.func54, Tryz.ntmps54
  go_wp2_with fail
  refine (newVersion_some _ v hv rfl w).mono ?_
  rintro e w1 ⟨b, rfl, hb, V, E1⟩
  go_wp2_with fail
  refine (must_any _ _).mono ?_
  rintro e w2 ⟨rfl, rfl⟩
  go_wp2
  go_ret
  exact ⟨b, rfl, hb, V, E1⟩
theorem vt300 : vt ⟨3, 0, 0⟩ = ⟨#[51, 46, 48, 46, 48]⟩ := by decide +kernel
theorem v300_ok : (⟨3, 0, 0⟩ : VD).ok := by unfold VD.ok; decide
theorem new300 (w : World) : Calls Tryz.prog 53 #[.string ⟨#[51, 46, 48, 46, 48]⟩] w (NewV w 3 0 0) := by
  rw [← vt300]
  go_enter Tryz.func53, Tryz.ntmps53
  go_wp2_with fail
  refine (newVersion_some _ ⟨3, 0, 0⟩ v300_ok rfl w).mono ?_
  rintro e w1 ⟨b, rfl, hb, V, E1⟩
  go_wp2_with fail
  refine (must_any _ _).mono ?_
  rintro e w2 ⟨rfl, rfl⟩
  go_wp2
  go_ret
  exact ⟨b, rfl, hb, V, E1⟩
theorem PtrV.of {w : World} {o : Option VD} {e : Ending} {w' : World} (h : PtrV w o e w') : (o = none ∧ e = .returned (.pointer none) ∧ Ext w w') ∨ (∃ v c, o = some v ∧ e = .returned (.pointer (some ⟨c, 0, none⟩)) ∧ w.heap.size ≤ c ∧ V3 w' c 0 v.maj v.mnr v.pat ∧ Ext w w') := by
  cases o with
  | none => exact .inl ⟨rfl, h.1, h.2⟩
  | some v => obtain ⟨c, h1, h2, h3, h4⟩ := h; exact .inr ⟨v, c, rfl, h1, h2, h3, h4⟩
noncomputable def ops_45_11 : Array Oper := opsAt Tryz.f45 11
noncomputable def ops_45_18 : Array Oper := opsAt Tryz.f45 18
set_option maxRecDepth 20000 in
set_option maxHeartbeats 4000000 in
theorem decide_any (mb b : Nat) (g : GD) (A : Option Addr) (n cap : Nat) (x : VoteD) (w : World) (h : Grd w b g A n cap x) (hmon : MonAt w mb b) (hn : n = g.members.length) (hm : (Rp.slice Rp.str).K w any g.members [.slice A n cap]) (hok : g.ok) (hw : VarsOk w) :
    Calls Tryz.prog 45 #[.pointer (some ⟨mb, 0, none⟩)] w (DecAns g w) := by
  have hle : n ≤ 12 := by rw [hn]; exact hok.n
  have g1 := hmon.cell (o := 1) rfl
  have hc := getCluster_any b g A n cap x w h hok.c hw
  have HC := Lib.hid hc
  have HOK := Lib.hid hok
  have HMIN : Hid (∀ w', Ext w w' → Calls Tryz.prog 52 #[.pointer (some ⟨mb, 0, none⟩)] w' (MinAns g.members w')) :=
    Lib.hid (fun w' e => min_any mb b g A n cap x w' (h.ext e) (hmon.ext e) hn hle ((Rp.slice Rp.str).ext' e hm) hok.m (hw.ext e))
  have HG := Lib.hid h
  have HW := Lib.hid hw
  clear hc hok h hw hm hn hle
  go_enter Tryz.func45, Tryz.ntmps45
  go_wp2_with fail
  refine HC.out.mono ?_
  intro e w1 hp
  rcases hp.of with ⟨hcv, rfl, E1⟩ | ⟨cv, cc, hcv, rfl, hcc, VC, E1⟩
  · replace hcv := Lib.hid hcv
    go_wp2_with fail
    refine (HMIN.out w1 E1).mono ?_
    rintro e w2 ⟨l, hl, hp2⟩
    have HL := Lib.hid hl
    rcases hp2.of with ⟨hlv, rfl, E2⟩ | ⟨lv, lc, hlv, rfl, hlc, VL, E2⟩
    · replace hlv := Lib.hid hlv
      clear hl hp hp2
      go_wp2_with fail
      refine (new300 w2).mono ?_
      rintro e w3 ⟨nb, rfl, hnb, VN, E3⟩
      go_wp2
      go_ret2
      refine ⟨l, HL.out, (E1.trans E2).trans E3, ?_⟩
      rw [hcv.out, hlv.out]
      exact ⟨nb, rfl, by have := E1.size; have := E2.size; omega, VN⟩
    · replace hlv := Lib.hid hlv
      clear hl hp hp2
      go_wp2
      go_ret2
      refine ⟨l, HL.out, E1.trans E2, ?_⟩
      rw [hcv.out, hlv.out]
      exact ⟨lc, rfl, by have := E1.size; omega, VL⟩
  · replace hcv := Lib.hid hcv
    go_wp2_with fail
    refine (HMIN.out w1 E1).mono ?_
    rintro e w2 ⟨l, hl, hp2⟩
    have HL := Lib.hid hl
    rcases hp2.of with ⟨hlv, rfl, E2⟩ | ⟨lv, lc, hlv, rfl, hlc, VL, E2⟩
    · replace hlv := Lib.hid hlv
      clear hl hp hp2
      go_wp2
      go_ret2
      refine ⟨l, HL.out, E1.trans E2, ?_⟩
      rw [hcv.out, hlv.out]
      rfl
    · replace hlv := Lib.hid hlv
      clear hl hp hp2
      have E12 := E1.trans E2
      have g1 := E12.cellS g1
      have VC2 := VC.ext E2
      go_wp2_with fail
      refine (getDown_any b g A n cap x w2 (HG.out.ext E12)).mono ?_
      intro e w3 hinfo
      rcases hinfo with ⟨hhd, rfl, E3⟩ | ⟨hhd, ib, rfl, hib, KI, E3⟩
      · have hdn : Hid (g.down = false) := Lib.hid (by
          cases hd : g.down with
          | false => rfl
          | true => have := (HOK.out.d hd).1; rw [hhd] at this; cases this)
        clear hhd
        have VC3 := VC2.ext E3
        have VL3 := VL.ext E3
        obtain ⟨c0, c1, c2⟩ := id VC3
        obtain ⟨l0, l1, l2⟩ := id VL3
        go_wp2_with fail
        cases hlb : less cv lv with
        | false =>
          refine wp_region_sched (ops := ops_45_18) Ext [] (.quiet 0 (.quiet 1 (.quiet 2 (.quiet 3 (.quiet 4 (.quiet 5 (.loud 6 (.quiet 7 (.quiet 8 (.quiet 9 (.loud 10 (.quiet 11 (.done)) (.stop))))) (.stop)))))))) (by kernel_rfl) ext_refl ext_trans (by kernel_rfl) (fun _ _ d _ _ h => by cases d <;> exact h) ?_
          refine wpS_quiet (some 57) { dst := some 57, op := Op.move (Operand.tmp 4), type := _, pos := _, after := _, guard := none } _ rfl rfl (by rfl) (fun wE hE => by (go_simp; try with_reducible rfl)) ?_; simp only [Act.put, List.setIfInBounds_toArray, List.set_cons_zero, List.set_cons_succ]
          refine wpS_quiet (some 58) { dst := some 58, op := Op.nilCheck (Operand.tmp 57), type := _, pos := _, after := _, guard := none } _ rfl rfl (by rfl) (fun wE hE => by (go_simp; try with_reducible rfl)) ?_; simp only [Act.put, List.setIfInBounds_toArray, List.set_cons_zero, List.set_cons_succ]
          refine wpS_quiet (some 59) { dst := some 59, op := Op.load 60 (Operand.tmp 58), type := _, pos := _, after := _, guard := none } _ rfl rfl (by rfl) (fun wE hE => by (have zk0 := hE.cellS c0; have zk1 := hE.cellS c1; have zk2 := hE.cellS c2; have zk3 := hE.cellS l0; have zk4 := hE.cellS l1; have zk5 := hE.cellS l2; go_simp; try with_reducible rfl)) ?_; simp only [Act.put, List.setIfInBounds_toArray, List.set_cons_zero, List.set_cons_succ]
          refine wpS_quiet (some 60) { dst := some 60, op := Op.move (Operand.tmp 5), type := _, pos := _, after := _, guard := none } _ rfl rfl (by rfl) (fun wE hE => by (go_simp; try with_reducible rfl)) ?_; simp only [Act.put, List.setIfInBounds_toArray, List.set_cons_zero, List.set_cons_succ]
          refine wpS_quiet (some 61) { dst := some 61, op := Op.nilCheck (Operand.tmp 60), type := _, pos := _, after := _, guard := none } _ rfl rfl (by rfl) (fun wE hE => by (go_simp; try with_reducible rfl)) ?_; simp only [Act.put, List.setIfInBounds_toArray, List.set_cons_zero, List.set_cons_succ]
          refine wpS_quiet (some 62) { dst := some 62, op := Op.load 60 (Operand.tmp 61), type := _, pos := _, after := _, guard := none } _ rfl rfl (by rfl) (fun wE hE => by (have zk0 := hE.cellS c0; have zk1 := hE.cellS c1; have zk2 := hE.cellS c2; have zk3 := hE.cellS l0; have zk4 := hE.cellS l1; have zk5 := hE.cellS l2; go_simp; try with_reducible rfl)) ?_; simp only [Act.put, List.setIfInBounds_toArray, List.set_cons_zero, List.set_cons_succ]
          refine wpS_call (some 63) { dst := some 63, op := Op.call { callee := Callee.value (Operand.func 57), args := #[Operand.tmp 59, Operand.tmp 62], argTypes := #[68, 60] }, type := _, pos := _, after := _, guard := none } 57 _ rfl rfl (by rfl) (by go_simp; try first | with_reducible rfl | exact ⟨rfl, rfl⟩) ?_
          refine (less_any cv.maj cv.mnr cv.pat lv.maj lv.mnr lv.pat _).mono ?_; rintro e w4 ⟨rfl, e4⟩; rw [show vless cv.maj cv.mnr cv.pat lv.maj lv.mnr lv.pat = false from hlb]; replace hlb := Lib.hid hlb; refine ⟨_, rfl, e4, ?_⟩; simp only [Act.put, List.setIfInBounds_toArray, List.set_cons_zero, List.set_cons_succ]
          refine wpS_quiet (some 64) { dst := some 64, op := Op.move (Operand.tmp 63), type := _, pos := _, after := _, guard := none } _ rfl rfl (by rfl) (fun wE hE => by (go_simp; try with_reducible rfl)) ?_; simp only [Act.put, List.setIfInBounds_toArray, List.set_cons_zero, List.set_cons_succ]
          (first | refine wpS_quiet (some 65) { dst := some 65, op := Op.move (Operand.tmp 4), type := _, pos := _, after := _, guard := some (7, true) } _ rfl rfl (by rfl) (fun wE hE => by (go_simp; try with_reducible rfl)) ?_ | refine wpS_pass (some 65) _ rfl rfl (by rfl) ?_); simp only [Act.put, List.setIfInBounds_toArray, List.set_cons_zero, List.set_cons_succ]
          (first | refine wpS_quiet (some 66) { dst := some 66, op := Op.move (Operand.tmp 5), type := _, pos := _, after := _, guard := some (7, true) } _ rfl rfl (by rfl) (fun wE hE => by (go_simp; try with_reducible rfl)) ?_ | refine wpS_pass (some 66) _ rfl rfl (by rfl) ?_); simp only [Act.put, List.setIfInBounds_toArray, List.set_cons_zero, List.set_cons_succ]
          refine wpS_loud_pass (ext_refl _) (some 67) _ rfl rfl (by rfl) ?_; simp only [Act.put, List.setIfInBounds_toArray, List.set_cons_zero, List.set_cons_succ]
          refine wpS_quiet (some 68) { dst := some 68, op := Op.pick (Operand.tmp 64) (Operand.tmp 67) (Operand.const (Value.bool false)), type := _, pos := _, after := _, guard := none } _ rfl rfl (by rfl) (fun wE hE => by (go_simp; try with_reducible rfl)) ?_; simp only [Act.put, List.setIfInBounds_toArray, List.set_cons_zero, List.set_cons_succ]
          change Exit.then _ _ _ _ _
          have E4 := e4.undrew
          go_wp2
          go_ret2
          refine ⟨l, HL.out, (E12.trans E3).trans E4, ?_⟩
          rw [hcv.out, hlv.out, hdn.out]
          simp only [decideD, hlb.out, Bool.false_and, if_false, Bool.false_eq_true]
          rfl
        | true =>
          cases hch : vchangeV cv lv with
          | false =>
            refine wp_region_sched (ops := ops_45_18) Ext [] (.quiet 0 (.quiet 1 (.quiet 2 (.quiet 3 (.quiet 4 (.quiet 5 (.loud 6 (.quiet 7 (.quiet 8 (.quiet 9 (.loud 10 (.quiet 11 (.done)) (.stop))))) (.stop)))))))) (by kernel_rfl) ext_refl ext_trans (by kernel_rfl) (fun _ _ d _ _ h => by cases d <;> exact h) ?_
            refine wpS_quiet (some 57) { dst := some 57, op := Op.move (Operand.tmp 4), type := _, pos := _, after := _, guard := none } _ rfl rfl (by rfl) (fun wE hE => by (go_simp; try with_reducible rfl)) ?_; simp only [Act.put, List.setIfInBounds_toArray, List.set_cons_zero, List.set_cons_succ]
            refine wpS_quiet (some 58) { dst := some 58, op := Op.nilCheck (Operand.tmp 57), type := _, pos := _, after := _, guard := none } _ rfl rfl (by rfl) (fun wE hE => by (go_simp; try with_reducible rfl)) ?_; simp only [Act.put, List.setIfInBounds_toArray, List.set_cons_zero, List.set_cons_succ]
            refine wpS_quiet (some 59) { dst := some 59, op := Op.load 60 (Operand.tmp 58), type := _, pos := _, after := _, guard := none } _ rfl rfl (by rfl) (fun wE hE => by (have zk0 := hE.cellS c0; have zk1 := hE.cellS c1; have zk2 := hE.cellS c2; have zk3 := hE.cellS l0; have zk4 := hE.cellS l1; have zk5 := hE.cellS l2; go_simp; try with_reducible rfl)) ?_; simp only [Act.put, List.setIfInBounds_toArray, List.set_cons_zero, List.set_cons_succ]
            refine wpS_quiet (some 60) { dst := some 60, op := Op.move (Operand.tmp 5), type := _, pos := _, after := _, guard := none } _ rfl rfl (by rfl) (fun wE hE => by (go_simp; try with_reducible rfl)) ?_; simp only [Act.put, List.setIfInBounds_toArray, List.set_cons_zero, List.set_cons_succ]
            refine wpS_quiet (some 61) { dst := some 61, op := Op.nilCheck (Operand.tmp 60), type := _, pos := _, after := _, guard := none } _ rfl rfl (by rfl) (fun wE hE => by (go_simp; try with_reducible rfl)) ?_; simp only [Act.put, List.setIfInBounds_toArray, List.set_cons_zero, List.set_cons_succ]
            refine wpS_quiet (some 62) { dst := some 62, op := Op.load 60 (Operand.tmp 61), type := _, pos := _, after := _, guard := none } _ rfl rfl (by rfl) (fun wE hE => by (have zk0 := hE.cellS c0; have zk1 := hE.cellS c1; have zk2 := hE.cellS c2; have zk3 := hE.cellS l0; have zk4 := hE.cellS l1; have zk5 := hE.cellS l2; go_simp; try with_reducible rfl)) ?_; simp only [Act.put, List.setIfInBounds_toArray, List.set_cons_zero, List.set_cons_succ]
            refine wpS_call (some 63) { dst := some 63, op := Op.call { callee := Callee.value (Operand.func 57), args := #[Operand.tmp 59, Operand.tmp 62], argTypes := #[68, 60] }, type := _, pos := _, after := _, guard := none } 57 _ rfl rfl (by rfl) (by go_simp; try first | with_reducible rfl | exact ⟨rfl, rfl⟩) ?_
            refine (less_any cv.maj cv.mnr cv.pat lv.maj lv.mnr lv.pat _).mono ?_; rintro e w4 ⟨rfl, e4⟩; rw [show vless cv.maj cv.mnr cv.pat lv.maj lv.mnr lv.pat = true from hlb]; replace hlb := Lib.hid hlb; refine ⟨_, rfl, e4, ?_⟩; simp only [Act.put, List.setIfInBounds_toArray, List.set_cons_zero, List.set_cons_succ]
            refine wpS_quiet (some 64) { dst := some 64, op := Op.move (Operand.tmp 63), type := _, pos := _, after := _, guard := none } _ rfl rfl (by rfl) (fun wE hE => by (go_simp; try with_reducible rfl)) ?_; simp only [Act.put, List.setIfInBounds_toArray, List.set_cons_zero, List.set_cons_succ]
            (first | refine wpS_quiet (some 65) { dst := some 65, op := Op.move (Operand.tmp 4), type := _, pos := _, after := _, guard := some (7, true) } _ rfl rfl (by rfl) (fun wE hE => by (go_simp; try with_reducible rfl)) ?_ | refine wpS_pass (some 65) _ rfl rfl (by rfl) ?_); simp only [Act.put, List.setIfInBounds_toArray, List.set_cons_zero, List.set_cons_succ]
            (first | refine wpS_quiet (some 66) { dst := some 66, op := Op.move (Operand.tmp 5), type := _, pos := _, after := _, guard := some (7, true) } _ rfl rfl (by rfl) (fun wE hE => by (go_simp; try with_reducible rfl)) ?_ | refine wpS_pass (some 66) _ rfl rfl (by rfl) ?_); simp only [Act.put, List.setIfInBounds_toArray, List.set_cons_zero, List.set_cons_succ]
            refine wpS_call (some 67) { dst := some 67, op := Op.call { callee := Callee.value (Operand.func 58), args := #[Operand.tmp 65, Operand.tmp 66], argTypes := #[68, 68] }, type := _, pos := _, after := _, guard := some (7, true) } 58 _ rfl rfl (by rfl) (by go_simp; try first | with_reducible rfl | exact ⟨rfl, rfl⟩) ?_
            refine (change_any cc 0 lc 0 cv.maj cv.mnr cv.pat lv.maj lv.mnr lv.pat _ (VC3.ext e4.undrew) (VL3.ext e4.undrew)).mono ?_; rintro e w5 ⟨rfl, e5⟩; rw [show vchange cv.maj cv.mnr lv.maj lv.mnr = false from hch]; replace hch := Lib.hid hch; refine ⟨_, rfl, e5, ?_⟩; simp only [Act.put, List.setIfInBounds_toArray, List.set_cons_zero, List.set_cons_succ]
            refine wpS_quiet (some 68) { dst := some 68, op := Op.pick (Operand.tmp 64) (Operand.tmp 67) (Operand.const (Value.bool false)), type := _, pos := _, after := _, guard := none } _ rfl rfl (by rfl) (fun wE hE => by (go_simp; try with_reducible rfl)) ?_; simp only [Act.put, List.setIfInBounds_toArray, List.set_cons_zero, List.set_cons_succ]
            change Exit.then _ _ _ _ _
            have E4 := e4.undrew.trans e5
            go_wp2
            go_ret2
            refine ⟨l, HL.out, (E12.trans E3).trans E4, ?_⟩
            rw [hcv.out, hlv.out, hdn.out]
            simp only [decideD, hlb.out, hch.out, Bool.and_false, if_false, Bool.false_eq_true]
            rfl
          | true =>
            refine wp_region_sched (ops := ops_45_18) Ext [] (.quiet 0 (.quiet 1 (.quiet 2 (.quiet 3 (.quiet 4 (.quiet 5 (.loud 6 (.quiet 7 (.quiet 8 (.quiet 9 (.loud 10 (.quiet 11 (.done)) (.stop))))) (.stop)))))))) (by kernel_rfl) ext_refl ext_trans (by kernel_rfl) (fun _ _ d _ _ h => by cases d <;> exact h) ?_
            refine wpS_quiet (some 57) { dst := some 57, op := Op.move (Operand.tmp 4), type := _, pos := _, after := _, guard := none } _ rfl rfl (by rfl) (fun wE hE => by (go_simp; try with_reducible rfl)) ?_; simp only [Act.put, List.setIfInBounds_toArray, List.set_cons_zero, List.set_cons_succ]
            refine wpS_quiet (some 58) { dst := some 58, op := Op.nilCheck (Operand.tmp 57), type := _, pos := _, after := _, guard := none } _ rfl rfl (by rfl) (fun wE hE => by (go_simp; try with_reducible rfl)) ?_; simp only [Act.put, List.setIfInBounds_toArray, List.set_cons_zero, List.set_cons_succ]
            refine wpS_quiet (some 59) { dst := some 59, op := Op.load 60 (Operand.tmp 58), type := _, pos := _, after := _, guard := none } _ rfl rfl (by rfl) (fun wE hE => by (have zk0 := hE.cellS c0; have zk1 := hE.cellS c1; have zk2 := hE.cellS c2; have zk3 := hE.cellS l0; have zk4 := hE.cellS l1; have zk5 := hE.cellS l2; go_simp; try with_reducible rfl)) ?_; simp only [Act.put, List.setIfInBounds_toArray, List.set_cons_zero, List.set_cons_succ]
            refine wpS_quiet (some 60) { dst := some 60, op := Op.move (Operand.tmp 5), type := _, pos := _, after := _, guard := none } _ rfl rfl (by rfl) (fun wE hE => by (go_simp; try with_reducible rfl)) ?_; simp only [Act.put, List.setIfInBounds_toArray, List.set_cons_zero, List.set_cons_succ]
            refine wpS_quiet (some 61) { dst := some 61, op := Op.nilCheck (Operand.tmp 60), type := _, pos := _, after := _, guard := none } _ rfl rfl (by rfl) (fun wE hE => by (go_simp; try with_reducible rfl)) ?_; simp only [Act.put, List.setIfInBounds_toArray, List.set_cons_zero, List.set_cons_succ]
            refine wpS_quiet (some 62) { dst := some 62, op := Op.load 60 (Operand.tmp 61), type := _, pos := _, after := _, guard := none } _ rfl rfl (by rfl) (fun wE hE => by (have zk0 := hE.cellS c0; have zk1 := hE.cellS c1; have zk2 := hE.cellS c2; have zk3 := hE.cellS l0; have zk4 := hE.cellS l1; have zk5 := hE.cellS l2; go_simp; try with_reducible rfl)) ?_; simp only [Act.put, List.setIfInBounds_toArray, List.set_cons_zero, List.set_cons_succ]
            refine wpS_call (some 63) { dst := some 63, op := Op.call { callee := Callee.value (Operand.func 57), args := #[Operand.tmp 59, Operand.tmp 62], argTypes := #[68, 60] }, type := _, pos := _, after := _, guard := none } 57 _ rfl rfl (by rfl) (by go_simp; try first | with_reducible rfl | exact ⟨rfl, rfl⟩) ?_
            refine (less_any cv.maj cv.mnr cv.pat lv.maj lv.mnr lv.pat _).mono ?_; rintro e w4 ⟨rfl, e4⟩; rw [show vless cv.maj cv.mnr cv.pat lv.maj lv.mnr lv.pat = true from hlb]; replace hlb := Lib.hid hlb; refine ⟨_, rfl, e4, ?_⟩; simp only [Act.put, List.setIfInBounds_toArray, List.set_cons_zero, List.set_cons_succ]
            refine wpS_quiet (some 64) { dst := some 64, op := Op.move (Operand.tmp 63), type := _, pos := _, after := _, guard := none } _ rfl rfl (by rfl) (fun wE hE => by (go_simp; try with_reducible rfl)) ?_; simp only [Act.put, List.setIfInBounds_toArray, List.set_cons_zero, List.set_cons_succ]
            (first | refine wpS_quiet (some 65) { dst := some 65, op := Op.move (Operand.tmp 4), type := _, pos := _, after := _, guard := some (7, true) } _ rfl rfl (by rfl) (fun wE hE => by (go_simp; try with_reducible rfl)) ?_ | refine wpS_pass (some 65) _ rfl rfl (by rfl) ?_); simp only [Act.put, List.setIfInBounds_toArray, List.set_cons_zero, List.set_cons_succ]
            (first | refine wpS_quiet (some 66) { dst := some 66, op := Op.move (Operand.tmp 5), type := _, pos := _, after := _, guard := some (7, true) } _ rfl rfl (by rfl) (fun wE hE => by (go_simp; try with_reducible rfl)) ?_ | refine wpS_pass (some 66) _ rfl rfl (by rfl) ?_); simp only [Act.put, List.setIfInBounds_toArray, List.set_cons_zero, List.set_cons_succ]
            refine wpS_call (some 67) { dst := some 67, op := Op.call { callee := Callee.value (Operand.func 58), args := #[Operand.tmp 65, Operand.tmp 66], argTypes := #[68, 68] }, type := _, pos := _, after := _, guard := some (7, true) } 58 _ rfl rfl (by rfl) (by go_simp; try first | with_reducible rfl | exact ⟨rfl, rfl⟩) ?_
            refine (change_any cc 0 lc 0 cv.maj cv.mnr cv.pat lv.maj lv.mnr lv.pat _ (VC3.ext e4.undrew) (VL3.ext e4.undrew)).mono ?_; rintro e w5 ⟨rfl, e5⟩; rw [show vchange cv.maj cv.mnr lv.maj lv.mnr = true from hch]; replace hch := Lib.hid hch; refine ⟨_, rfl, e5, ?_⟩; simp only [Act.put, List.setIfInBounds_toArray, List.set_cons_zero, List.set_cons_succ]
            refine wpS_quiet (some 68) { dst := some 68, op := Op.pick (Operand.tmp 64) (Operand.tmp 67) (Operand.const (Value.bool false)), type := _, pos := _, after := _, guard := none } _ rfl rfl (by rfl) (fun wE hE => by (go_simp; try with_reducible rfl)) ?_; simp only [Act.put, List.setIfInBounds_toArray, List.set_cons_zero, List.set_cons_succ]
            change Exit.then _ _ _ _ _
            have E4 := e4.undrew.trans e5
            go_wp2
            go_ret2
            refine ⟨l, HL.out, (E12.trans E3).trans E4, ?_⟩
            rw [hcv.out, hlv.out, hdn.out]
            simp only [decideD, hlb.out, hch.out, Bool.and_true, if_true, if_false, Bool.false_eq_true]
            exact ⟨lc, rfl, by have := E1.size; omega, VL3.ext E4⟩
      · have VC3 := VC2.ext E3
        have VL3 := VL.ext E3
        have k1 := KI.cell (o := 1) rfl
        clear hhd
        cases hd : g.down with
        | false =>
          rw [hd] at k1
          have hdn := Lib.hid hd
          clear hd
          obtain ⟨c0, c1, c2⟩ := id VC3
          obtain ⟨l0, l1, l2⟩ := id VL3
          go_wp2_with fail
          cases hlb : less cv lv with
          | false =>
            refine wp_region_sched (ops := ops_45_18) Ext [] (.quiet 0 (.quiet 1 (.quiet 2 (.quiet 3 (.quiet 4 (.quiet 5 (.loud 6 (.quiet 7 (.quiet 8 (.quiet 9 (.loud 10 (.quiet 11 (.done)) (.stop))))) (.stop)))))))) (by kernel_rfl) ext_refl ext_trans (by kernel_rfl) (fun _ _ d _ _ h => by cases d <;> exact h) ?_
            refine wpS_quiet (some 57) { dst := some 57, op := Op.move (Operand.tmp 4), type := _, pos := _, after := _, guard := none } _ rfl rfl (by rfl) (fun wE hE => by (go_simp; try with_reducible rfl)) ?_; simp only [Act.put, List.setIfInBounds_toArray, List.set_cons_zero, List.set_cons_succ]
            refine wpS_quiet (some 58) { dst := some 58, op := Op.nilCheck (Operand.tmp 57), type := _, pos := _, after := _, guard := none } _ rfl rfl (by rfl) (fun wE hE => by (go_simp; try with_reducible rfl)) ?_; simp only [Act.put, List.setIfInBounds_toArray, List.set_cons_zero, List.set_cons_succ]
            refine wpS_quiet (some 59) { dst := some 59, op := Op.load 60 (Operand.tmp 58), type := _, pos := _, after := _, guard := none } _ rfl rfl (by rfl) (fun wE hE => by (have zk0 := hE.cellS c0; have zk1 := hE.cellS c1; have zk2 := hE.cellS c2; have zk3 := hE.cellS l0; have zk4 := hE.cellS l1; have zk5 := hE.cellS l2; go_simp; try with_reducible rfl)) ?_; simp only [Act.put, List.setIfInBounds_toArray, List.set_cons_zero, List.set_cons_succ]
            refine wpS_quiet (some 60) { dst := some 60, op := Op.move (Operand.tmp 5), type := _, pos := _, after := _, guard := none } _ rfl rfl (by rfl) (fun wE hE => by (go_simp; try with_reducible rfl)) ?_; simp only [Act.put, List.setIfInBounds_toArray, List.set_cons_zero, List.set_cons_succ]
            refine wpS_quiet (some 61) { dst := some 61, op := Op.nilCheck (Operand.tmp 60), type := _, pos := _, after := _, guard := none } _ rfl rfl (by rfl) (fun wE hE => by (go_simp; try with_reducible rfl)) ?_; simp only [Act.put, List.setIfInBounds_toArray, List.set_cons_zero, List.set_cons_succ]
            refine wpS_quiet (some 62) { dst := some 62, op := Op.load 60 (Operand.tmp 61), type := _, pos := _, after := _, guard := none } _ rfl rfl (by rfl) (fun wE hE => by (have zk0 := hE.cellS c0; have zk1 := hE.cellS c1; have zk2 := hE.cellS c2; have zk3 := hE.cellS l0; have zk4 := hE.cellS l1; have zk5 := hE.cellS l2; go_simp; try with_reducible rfl)) ?_; simp only [Act.put, List.setIfInBounds_toArray, List.set_cons_zero, List.set_cons_succ]
            refine wpS_call (some 63) { dst := some 63, op := Op.call { callee := Callee.value (Operand.func 57), args := #[Operand.tmp 59, Operand.tmp 62], argTypes := #[68, 60] }, type := _, pos := _, after := _, guard := none } 57 _ rfl rfl (by rfl) (by go_simp; try first | with_reducible rfl | exact ⟨rfl, rfl⟩) ?_
            refine (less_any cv.maj cv.mnr cv.pat lv.maj lv.mnr lv.pat _).mono ?_; rintro e w4 ⟨rfl, e4⟩; rw [show vless cv.maj cv.mnr cv.pat lv.maj lv.mnr lv.pat = false from hlb]; replace hlb := Lib.hid hlb; refine ⟨_, rfl, e4, ?_⟩; simp only [Act.put, List.setIfInBounds_toArray, List.set_cons_zero, List.set_cons_succ]
            refine wpS_quiet (some 64) { dst := some 64, op := Op.move (Operand.tmp 63), type := _, pos := _, after := _, guard := none } _ rfl rfl (by rfl) (fun wE hE => by (go_simp; try with_reducible rfl)) ?_; simp only [Act.put, List.setIfInBounds_toArray, List.set_cons_zero, List.set_cons_succ]
            (first | refine wpS_quiet (some 65) { dst := some 65, op := Op.move (Operand.tmp 4), type := _, pos := _, after := _, guard := some (7, true) } _ rfl rfl (by rfl) (fun wE hE => by (go_simp; try with_reducible rfl)) ?_ | refine wpS_pass (some 65) _ rfl rfl (by rfl) ?_); simp only [Act.put, List.setIfInBounds_toArray, List.set_cons_zero, List.set_cons_succ]
            (first | refine wpS_quiet (some 66) { dst := some 66, op := Op.move (Operand.tmp 5), type := _, pos := _, after := _, guard := some (7, true) } _ rfl rfl (by rfl) (fun wE hE => by (go_simp; try with_reducible rfl)) ?_ | refine wpS_pass (some 66) _ rfl rfl (by rfl) ?_); simp only [Act.put, List.setIfInBounds_toArray, List.set_cons_zero, List.set_cons_succ]
            refine wpS_loud_pass (ext_refl _) (some 67) _ rfl rfl (by rfl) ?_; simp only [Act.put, List.setIfInBounds_toArray, List.set_cons_zero, List.set_cons_succ]
            refine wpS_quiet (some 68) { dst := some 68, op := Op.pick (Operand.tmp 64) (Operand.tmp 67) (Operand.const (Value.bool false)), type := _, pos := _, after := _, guard := none } _ rfl rfl (by rfl) (fun wE hE => by (go_simp; try with_reducible rfl)) ?_; simp only [Act.put, List.setIfInBounds_toArray, List.set_cons_zero, List.set_cons_succ]
            change Exit.then _ _ _ _ _
            have E4 := e4.undrew
            go_wp2
            go_ret2
            refine ⟨l, HL.out, (E12.trans E3).trans E4, ?_⟩
            rw [hcv.out, hlv.out, hdn.out]
            simp only [decideD, hlb.out, Bool.false_and, if_false, Bool.false_eq_true]
            rfl
          | true =>
            cases hch : vchangeV cv lv with
            | false =>
              refine wp_region_sched (ops := ops_45_18) Ext [] (.quiet 0 (.quiet 1 (.quiet 2 (.quiet 3 (.quiet 4 (.quiet 5 (.loud 6 (.quiet 7 (.quiet 8 (.quiet 9 (.loud 10 (.quiet 11 (.done)) (.stop))))) (.stop)))))))) (by kernel_rfl) ext_refl ext_trans (by kernel_rfl) (fun _ _ d _ _ h => by cases d <;> exact h) ?_
              refine wpS_quiet (some 57) { dst := some 57, op := Op.move (Operand.tmp 4), type := _, pos := _, after := _, guard := none } _ rfl rfl (by rfl) (fun wE hE => by (go_simp; try with_reducible rfl)) ?_; simp only [Act.put, List.setIfInBounds_toArray, List.set_cons_zero, List.set_cons_succ]
              refine wpS_quiet (some 58) { dst := some 58, op := Op.nilCheck (Operand.tmp 57), type := _, pos := _, after := _, guard := none } _ rfl rfl (by rfl) (fun wE hE => by (go_simp; try with_reducible rfl)) ?_; simp only [Act.put, List.setIfInBounds_toArray, List.set_cons_zero, List.set_cons_succ]
              refine wpS_quiet (some 59) { dst := some 59, op := Op.load 60 (Operand.tmp 58), type := _, pos := _, after := _, guard := none } _ rfl rfl (by rfl) (fun wE hE => by (have zk0 := hE.cellS c0; have zk1 := hE.cellS c1; have zk2 := hE.cellS c2; have zk3 := hE.cellS l0; have zk4 := hE.cellS l1; have zk5 := hE.cellS l2; go_simp; try with_reducible rfl)) ?_; simp only [Act.put, List.setIfInBounds_toArray, List.set_cons_zero, List.set_cons_succ]
              refine wpS_quiet (some 60) { dst := some 60, op := Op.move (Operand.tmp 5), type := _, pos := _, after := _, guard := none } _ rfl rfl (by rfl) (fun wE hE => by (go_simp; try with_reducible rfl)) ?_; simp only [Act.put, List.setIfInBounds_toArray, List.set_cons_zero, List.set_cons_succ]
              refine wpS_quiet (some 61) { dst := some 61, op := Op.nilCheck (Operand.tmp 60), type := _, pos := _, after := _, guard := none } _ rfl rfl (by rfl) (fun wE hE => by (go_simp; try with_reducible rfl)) ?_; simp only [Act.put, List.setIfInBounds_toArray, List.set_cons_zero, List.set_cons_succ]
              refine wpS_quiet (some 62) { dst := some 62, op := Op.load 60 (Operand.tmp 61), type := _, pos := _, after := _, guard := none } _ rfl rfl (by rfl) (fun wE hE => by (have zk0 := hE.cellS c0; have zk1 := hE.cellS c1; have zk2 := hE.cellS c2; have zk3 := hE.cellS l0; have zk4 := hE.cellS l1; have zk5 := hE.cellS l2; go_simp; try with_reducible rfl)) ?_; simp only [Act.put, List.setIfInBounds_toArray, List.set_cons_zero, List.set_cons_succ]
              refine wpS_call (some 63) { dst := some 63, op := Op.call { callee := Callee.value (Operand.func 57), args := #[Operand.tmp 59, Operand.tmp 62], argTypes := #[68, 60] }, type := _, pos := _, after := _, guard := none } 57 _ rfl rfl (by rfl) (by go_simp; try first | with_reducible rfl | exact ⟨rfl, rfl⟩) ?_
              refine (less_any cv.maj cv.mnr cv.pat lv.maj lv.mnr lv.pat _).mono ?_; rintro e w4 ⟨rfl, e4⟩; rw [show vless cv.maj cv.mnr cv.pat lv.maj lv.mnr lv.pat = true from hlb]; replace hlb := Lib.hid hlb; refine ⟨_, rfl, e4, ?_⟩; simp only [Act.put, List.setIfInBounds_toArray, List.set_cons_zero, List.set_cons_succ]
              refine wpS_quiet (some 64) { dst := some 64, op := Op.move (Operand.tmp 63), type := _, pos := _, after := _, guard := none } _ rfl rfl (by rfl) (fun wE hE => by (go_simp; try with_reducible rfl)) ?_; simp only [Act.put, List.setIfInBounds_toArray, List.set_cons_zero, List.set_cons_succ]
              (first | refine wpS_quiet (some 65) { dst := some 65, op := Op.move (Operand.tmp 4), type := _, pos := _, after := _, guard := some (7, true) } _ rfl rfl (by rfl) (fun wE hE => by (go_simp; try with_reducible rfl)) ?_ | refine wpS_pass (some 65) _ rfl rfl (by rfl) ?_); simp only [Act.put, List.setIfInBounds_toArray, List.set_cons_zero, List.set_cons_succ]
              (first | refine wpS_quiet (some 66) { dst := some 66, op := Op.move (Operand.tmp 5), type := _, pos := _, after := _, guard := some (7, true) } _ rfl rfl (by rfl) (fun wE hE => by (go_simp; try with_reducible rfl)) ?_ | refine wpS_pass (some 66) _ rfl rfl (by rfl) ?_); simp only [Act.put, List.setIfInBounds_toArray, List.set_cons_zero, List.set_cons_succ]
              refine wpS_call (some 67) { dst := some 67, op := Op.call { callee := Callee.value (Operand.func 58), args := #[Operand.tmp 65, Operand.tmp 66], argTypes := #[68, 68] }, type := _, pos := _, after := _, guard := some (7, true) } 58 _ rfl rfl (by rfl) (by go_simp; try first | with_reducible rfl | exact ⟨rfl, rfl⟩) ?_
              refine (change_any cc 0 lc 0 cv.maj cv.mnr cv.pat lv.maj lv.mnr lv.pat _ (VC3.ext e4.undrew) (VL3.ext e4.undrew)).mono ?_; rintro e w5 ⟨rfl, e5⟩; rw [show vchange cv.maj cv.mnr lv.maj lv.mnr = false from hch]; replace hch := Lib.hid hch; refine ⟨_, rfl, e5, ?_⟩; simp only [Act.put, List.setIfInBounds_toArray, List.set_cons_zero, List.set_cons_succ]
              refine wpS_quiet (some 68) { dst := some 68, op := Op.pick (Operand.tmp 64) (Operand.tmp 67) (Operand.const (Value.bool false)), type := _, pos := _, after := _, guard := none } _ rfl rfl (by rfl) (fun wE hE => by (go_simp; try with_reducible rfl)) ?_; simp only [Act.put, List.setIfInBounds_toArray, List.set_cons_zero, List.set_cons_succ]
              change Exit.then _ _ _ _ _
              have E4 := e4.undrew.trans e5
              go_wp2
              go_ret2
              refine ⟨l, HL.out, (E12.trans E3).trans E4, ?_⟩
              rw [hcv.out, hlv.out, hdn.out]
              simp only [decideD, hlb.out, hch.out, Bool.and_false, if_false, Bool.false_eq_true]
              rfl
            | true =>
              refine wp_region_sched (ops := ops_45_18) Ext [] (.quiet 0 (.quiet 1 (.quiet 2 (.quiet 3 (.quiet 4 (.quiet 5 (.loud 6 (.quiet 7 (.quiet 8 (.quiet 9 (.loud 10 (.quiet 11 (.done)) (.stop))))) (.stop)))))))) (by kernel_rfl) ext_refl ext_trans (by kernel_rfl) (fun _ _ d _ _ h => by cases d <;> exact h) ?_
              refine wpS_quiet (some 57) { dst := some 57, op := Op.move (Operand.tmp 4), type := _, pos := _, after := _, guard := none } _ rfl rfl (by rfl) (fun wE hE => by (go_simp; try with_reducible rfl)) ?_; simp only [Act.put, List.setIfInBounds_toArray, List.set_cons_zero, List.set_cons_succ]
              refine wpS_quiet (some 58) { dst := some 58, op := Op.nilCheck (Operand.tmp 57), type := _, pos := _, after := _, guard := none } _ rfl rfl (by rfl) (fun wE hE => by (go_simp; try with_reducible rfl)) ?_; simp only [Act.put, List.setIfInBounds_toArray, List.set_cons_zero, List.set_cons_succ]
              refine wpS_quiet (some 59) { dst := some 59, op := Op.load 60 (Operand.tmp 58), type := _, pos := _, after := _, guard := none } _ rfl rfl (by rfl) (fun wE hE => by (have zk0 := hE.cellS c0; have zk1 := hE.cellS c1; have zk2 := hE.cellS c2; have zk3 := hE.cellS l0; have zk4 := hE.cellS l1; have zk5 := hE.cellS l2; go_simp; try with_reducible rfl)) ?_; simp only [Act.put, List.setIfInBounds_toArray, List.set_cons_zero, List.set_cons_succ]
              refine wpS_quiet (some 60) { dst := some 60, op := Op.move (Operand.tmp 5), type := _, pos := _, after := _, guard := none } _ rfl rfl (by rfl) (fun wE hE => by (go_simp; try with_reducible rfl)) ?_; simp only [Act.put, List.setIfInBounds_toArray, List.set_cons_zero, List.set_cons_succ]
              refine wpS_quiet (some 61) { dst := some 61, op := Op.nilCheck (Operand.tmp 60), type := _, pos := _, after := _, guard := none } _ rfl rfl (by rfl) (fun wE hE => by (go_simp; try with_reducible rfl)) ?_; simp only [Act.put, List.setIfInBounds_toArray, List.set_cons_zero, List.set_cons_succ]
              refine wpS_quiet (some 62) { dst := some 62, op := Op.load 60 (Operand.tmp 61), type := _, pos := _, after := _, guard := none } _ rfl rfl (by rfl) (fun wE hE => by (have zk0 := hE.cellS c0; have zk1 := hE.cellS c1; have zk2 := hE.cellS c2; have zk3 := hE.cellS l0; have zk4 := hE.cellS l1; have zk5 := hE.cellS l2; go_simp; try with_reducible rfl)) ?_; simp only [Act.put, List.setIfInBounds_toArray, List.set_cons_zero, List.set_cons_succ]
              refine wpS_call (some 63) { dst := some 63, op := Op.call { callee := Callee.value (Operand.func 57), args := #[Operand.tmp 59, Operand.tmp 62], argTypes := #[68, 60] }, type := _, pos := _, after := _, guard := none } 57 _ rfl rfl (by rfl) (by go_simp; try first | with_reducible rfl | exact ⟨rfl, rfl⟩) ?_
              refine (less_any cv.maj cv.mnr cv.pat lv.maj lv.mnr lv.pat _).mono ?_; rintro e w4 ⟨rfl, e4⟩; rw [show vless cv.maj cv.mnr cv.pat lv.maj lv.mnr lv.pat = true from hlb]; replace hlb := Lib.hid hlb; refine ⟨_, rfl, e4, ?_⟩; simp only [Act.put, List.setIfInBounds_toArray, List.set_cons_zero, List.set_cons_succ]
              refine wpS_quiet (some 64) { dst := some 64, op := Op.move (Operand.tmp 63), type := _, pos := _, after := _, guard := none } _ rfl rfl (by rfl) (fun wE hE => by (go_simp; try with_reducible rfl)) ?_; simp only [Act.put, List.setIfInBounds_toArray, List.set_cons_zero, List.set_cons_succ]
              (first | refine wpS_quiet (some 65) { dst := some 65, op := Op.move (Operand.tmp 4), type := _, pos := _, after := _, guard := some (7, true) } _ rfl rfl (by rfl) (fun wE hE => by (go_simp; try with_reducible rfl)) ?_ | refine wpS_pass (some 65) _ rfl rfl (by rfl) ?_); simp only [Act.put, List.setIfInBounds_toArray, List.set_cons_zero, List.set_cons_succ]
              (first | refine wpS_quiet (some 66) { dst := some 66, op := Op.move (Operand.tmp 5), type := _, pos := _, after := _, guard := some (7, true) } _ rfl rfl (by rfl) (fun wE hE => by (go_simp; try with_reducible rfl)) ?_ | refine wpS_pass (some 66) _ rfl rfl (by rfl) ?_); simp only [Act.put, List.setIfInBounds_toArray, List.set_cons_zero, List.set_cons_succ]
              refine wpS_call (some 67) { dst := some 67, op := Op.call { callee := Callee.value (Operand.func 58), args := #[Operand.tmp 65, Operand.tmp 66], argTypes := #[68, 68] }, type := _, pos := _, after := _, guard := some (7, true) } 58 _ rfl rfl (by rfl) (by go_simp; try first | with_reducible rfl | exact ⟨rfl, rfl⟩) ?_
              refine (change_any cc 0 lc 0 cv.maj cv.mnr cv.pat lv.maj lv.mnr lv.pat _ (VC3.ext e4.undrew) (VL3.ext e4.undrew)).mono ?_; rintro e w5 ⟨rfl, e5⟩; rw [show vchange cv.maj cv.mnr lv.maj lv.mnr = true from hch]; replace hch := Lib.hid hch; refine ⟨_, rfl, e5, ?_⟩; simp only [Act.put, List.setIfInBounds_toArray, List.set_cons_zero, List.set_cons_succ]
              refine wpS_quiet (some 68) { dst := some 68, op := Op.pick (Operand.tmp 64) (Operand.tmp 67) (Operand.const (Value.bool false)), type := _, pos := _, after := _, guard := none } _ rfl rfl (by rfl) (fun wE hE => by (go_simp; try with_reducible rfl)) ?_; simp only [Act.put, List.setIfInBounds_toArray, List.set_cons_zero, List.set_cons_succ]
              change Exit.then _ _ _ _ _
              have E4 := e4.undrew.trans e5
              go_wp2
              go_ret2
              refine ⟨l, HL.out, (E12.trans E3).trans E4, ?_⟩
              rw [hcv.out, hlv.out, hdn.out]
              simp only [decideD, hlb.out, hch.out, Bool.and_true, if_true, if_false, Bool.false_eq_true]
              exact ⟨lc, rfl, by have := E1.size; omega, VL3.ext E4⟩
        | true =>
          rw [hd] at k1
          obtain ⟨tok, ht, _⟩ := HOK.out.tgt hd
          have hdn := Lib.hid hd
          rw [ht] at KI
          obtain ⟨c0, c1, c2⟩ := id VC3
          have HT := Lib.hid tok
          clear hd ht tok
          generalize htv : g.tv = tv at *
          replace htv := Lib.hid htv
          go_wp2_with fail
          cases heq : veqV tv cv with
          | true =>
            refine wp_region_sched (ops := ops_45_11) Ext [] (.quiet 0 (.quiet 4 (.quiet 5 (.quiet 6 (.loud 1 (.quiet 2 (.quiet 3 (.loud 7 (.done) (.stop)))) (.stop)))))) (by kernel_rfl) ext_refl ext_trans (by kernel_rfl) (fun _ _ d _ _ h => by cases d <;> exact h) ?_
            refine wpS_quiet (some 35) { dst := some 35, op := Op.move (Operand.tmp 6), type := _, pos := _, after := _, guard := none } _ rfl rfl (by rfl) (fun wE hE => by (go_simp; try with_reducible rfl)) ?_; simp only [Act.put, List.setIfInBounds_toArray, List.set_cons_zero, List.set_cons_succ]
            refine wpS_quiet (some 39) { dst := some 39, op := Op.move (Operand.tmp 4), type := _, pos := _, after := _, guard := none } _ rfl rfl (by rfl) (fun wE hE => by (go_simp; try with_reducible rfl)) ?_; simp only [Act.put, List.setIfInBounds_toArray, List.set_cons_zero, List.set_cons_succ]
            refine wpS_quiet (some 40) { dst := some 40, op := Op.nilCheck (Operand.tmp 39), type := _, pos := _, after := _, guard := none } _ rfl rfl (by rfl) (fun wE hE => by (go_simp; try with_reducible rfl)) ?_; simp only [Act.put, List.setIfInBounds_toArray, List.set_cons_zero, List.set_cons_succ]
            refine wpS_quiet (some 41) { dst := some 41, op := Op.load 60 (Operand.tmp 40), type := _, pos := _, after := _, guard := none } _ rfl rfl (by rfl) (fun wE hE => by (have zk0 := hE.cellS c0; have zk1 := hE.cellS c1; have zk2 := hE.cellS c2; go_simp; try with_reducible rfl)) ?_; simp only [Act.put, List.setIfInBounds_toArray, List.set_cons_zero, List.set_cons_succ]
            refine wpS_call (some 36) { dst := some 36, op := Op.call { callee := Callee.value (Operand.func 54), args := #[Operand.tmp 35], argTypes := #[83] }, type := _, pos := _, after := _, guard := none } 54 _ rfl rfl (by rfl) (by go_simp; try first | with_reducible rfl | exact ⟨rfl, rfl⟩) ?_
            refine (target_any ib _ tv HT.out _ KI.drew).mono ?_; rintro e w4 ⟨tb, rfl, htb, VT4, e4⟩; refine ⟨_, rfl, e4, ?_⟩; simp only [Act.put, List.setIfInBounds_toArray, List.set_cons_zero, List.set_cons_succ]
            obtain ⟨t0, t1, t2⟩ := id VT4
            refine wpS_quiet (some 37) { dst := some 37, op := Op.nilCheck (Operand.tmp 36), type := _, pos := _, after := _, guard := none } _ rfl rfl (by rfl) (fun wE hE => by (go_simp; try with_reducible rfl)) ?_; simp only [Act.put, List.setIfInBounds_toArray, List.set_cons_zero, List.set_cons_succ]
            refine wpS_quiet (some 38) { dst := some 38, op := Op.load 60 (Operand.tmp 37), type := _, pos := _, after := _, guard := none } _ rfl rfl (by rfl) (fun wE hE => by (have zk0 := hE.cellS t0; have zk1 := hE.cellS t1; have zk2 := hE.cellS t2; go_simp; try with_reducible rfl)) ?_; simp only [Act.put, List.setIfInBounds_toArray, List.set_cons_zero, List.set_cons_succ]
            refine wpS_call (some 42) { dst := some 42, op := Op.call { callee := Callee.value (Operand.func 55), args := #[Operand.tmp 38, Operand.tmp 41], argTypes := #[68, 60] }, type := _, pos := _, after := _, guard := none } 55 _ rfl rfl (by rfl) (by go_simp; try first | with_reducible rfl | exact ⟨rfl, rfl⟩) ?_
            refine (equal_any tv.maj tv.mnr tv.pat cv.maj cv.mnr cv.pat _).mono ?_; rintro e w5 ⟨rfl, e5⟩; rw [show veq tv.maj tv.mnr tv.pat cv.maj cv.mnr cv.pat = true from heq]; replace heq := Lib.hid heq; refine ⟨_, rfl, e5, ?_⟩; simp only [Act.put, List.setIfInBounds_toArray, List.set_cons_zero, List.set_cons_succ]
            change Exit.then _ _ _ _ _
            have E45 : Ext w3 w5 := e4.undrew.trans e5
            have KI5 := KI.ext E45
            have VC5 := VC3.ext E45
            have VL5 := VL3.ext E45
            clear e4 e5 htb VT4 t0 t1 t2 c0 c1 c2 k1
            go_wp2
            go_ret2
            refine ⟨l, HL.out, (E12.trans E3).trans E45, ?_⟩
            rw [hcv.out, hlv.out, hdn.out, htv.out]
            simp only [decideD, heq.out, if_true]
            rfl
          | false =>
            refine wp_region_sched (ops := ops_45_11) Ext [] (.quiet 0 (.quiet 4 (.quiet 5 (.quiet 6 (.loud 1 (.quiet 2 (.quiet 3 (.loud 7 (.done) (.stop)))) (.stop)))))) (by kernel_rfl) ext_refl ext_trans (by kernel_rfl) (fun _ _ d _ _ h => by cases d <;> exact h) ?_
            refine wpS_quiet (some 35) { dst := some 35, op := Op.move (Operand.tmp 6), type := _, pos := _, after := _, guard := none } _ rfl rfl (by rfl) (fun wE hE => by (go_simp; try with_reducible rfl)) ?_; simp only [Act.put, List.setIfInBounds_toArray, List.set_cons_zero, List.set_cons_succ]
            refine wpS_quiet (some 39) { dst := some 39, op := Op.move (Operand.tmp 4), type := _, pos := _, after := _, guard := none } _ rfl rfl (by rfl) (fun wE hE => by (go_simp; try with_reducible rfl)) ?_; simp only [Act.put, List.setIfInBounds_toArray, List.set_cons_zero, List.set_cons_succ]
            refine wpS_quiet (some 40) { dst := some 40, op := Op.nilCheck (Operand.tmp 39), type := _, pos := _, after := _, guard := none } _ rfl rfl (by rfl) (fun wE hE => by (go_simp; try with_reducible rfl)) ?_; simp only [Act.put, List.setIfInBounds_toArray, List.set_cons_zero, List.set_cons_succ]
            refine wpS_quiet (some 41) { dst := some 41, op := Op.load 60 (Operand.tmp 40), type := _, pos := _, after := _, guard := none } _ rfl rfl (by rfl) (fun wE hE => by (have zk0 := hE.cellS c0; have zk1 := hE.cellS c1; have zk2 := hE.cellS c2; go_simp; try with_reducible rfl)) ?_; simp only [Act.put, List.setIfInBounds_toArray, List.set_cons_zero, List.set_cons_succ]
            refine wpS_call (some 36) { dst := some 36, op := Op.call { callee := Callee.value (Operand.func 54), args := #[Operand.tmp 35], argTypes := #[83] }, type := _, pos := _, after := _, guard := none } 54 _ rfl rfl (by rfl) (by go_simp; try first | with_reducible rfl | exact ⟨rfl, rfl⟩) ?_
            refine (target_any ib _ tv HT.out _ KI.drew).mono ?_; rintro e w4 ⟨tb, rfl, htb, VT4, e4⟩; refine ⟨_, rfl, e4, ?_⟩; simp only [Act.put, List.setIfInBounds_toArray, List.set_cons_zero, List.set_cons_succ]
            obtain ⟨t0, t1, t2⟩ := id VT4
            refine wpS_quiet (some 37) { dst := some 37, op := Op.nilCheck (Operand.tmp 36), type := _, pos := _, after := _, guard := none } _ rfl rfl (by rfl) (fun wE hE => by (go_simp; try with_reducible rfl)) ?_; simp only [Act.put, List.setIfInBounds_toArray, List.set_cons_zero, List.set_cons_succ]
            refine wpS_quiet (some 38) { dst := some 38, op := Op.load 60 (Operand.tmp 37), type := _, pos := _, after := _, guard := none } _ rfl rfl (by rfl) (fun wE hE => by (have zk0 := hE.cellS t0; have zk1 := hE.cellS t1; have zk2 := hE.cellS t2; go_simp; try with_reducible rfl)) ?_; simp only [Act.put, List.setIfInBounds_toArray, List.set_cons_zero, List.set_cons_succ]
            refine wpS_call (some 42) { dst := some 42, op := Op.call { callee := Callee.value (Operand.func 55), args := #[Operand.tmp 38, Operand.tmp 41], argTypes := #[68, 60] }, type := _, pos := _, after := _, guard := none } 55 _ rfl rfl (by rfl) (by go_simp; try first | with_reducible rfl | exact ⟨rfl, rfl⟩) ?_
            refine (equal_any tv.maj tv.mnr tv.pat cv.maj cv.mnr cv.pat _).mono ?_; rintro e w5 ⟨rfl, e5⟩; rw [show veq tv.maj tv.mnr tv.pat cv.maj cv.mnr cv.pat = false from heq]; replace heq := Lib.hid heq; refine ⟨_, rfl, e5, ?_⟩; simp only [Act.put, List.setIfInBounds_toArray, List.set_cons_zero, List.set_cons_succ]
            change Exit.then _ _ _ _ _
            have E45 : Ext w3 w5 := e4.undrew.trans e5
            have KI5 := KI.ext E45
            have VC5 := VC3.ext E45
            have VL5 := VL3.ext E45
            clear e4 e5 htb VT4 t0 t1 t2 c0 c1 c2 k1
            go_wp2_with fail
            refine (target_any ib _ tv HT.out _ KI5).mono ?_
            rintro e w6 ⟨tb, rfl, htb, VT6, e6⟩
            have VC6 := VC5.ext e6
            have VL6 := VL5.ext e6
            have KI6 := KI5.ext e6
            go_wp2_with fail
            cases hd1 : vdownV cv tv with
            | false =>
              refine (isValid_any cc 0 tb 0 cv.maj cv.mnr cv.pat tv.maj tv.mnr tv.pat _ VC6 VT6).mono ?_
              rintro e w7 ⟨rfl, e7⟩
              rw [show vdown cv.maj cv.mnr tv.maj tv.mnr tv.pat = false from hd1]
              replace hd1 := Lib.hid hd1
              go_wp2
              go_ret2
              refine ⟨l, HL.out, (((E12.trans E3).trans E45).trans e6).trans e7, ?_⟩
              rw [hcv.out, hlv.out, hdn.out, htv.out]
              simp only [decideD, heq.out, hd1.out, if_true, if_false, Bool.false_eq_true, Bool.false_and]
              rfl
            | true =>
              refine (isValid_any cc 0 tb 0 cv.maj cv.mnr cv.pat tv.maj tv.mnr tv.pat _ VC6 VT6).mono ?_
              rintro e w7 ⟨rfl, e7⟩
              rw [show vdown cv.maj cv.mnr tv.maj tv.mnr tv.pat = true from hd1]
              replace hd1 := Lib.hid hd1
              go_wp2_with fail
              refine (target_any ib _ tv HT.out _ (KI6.ext e7)).mono ?_
              rintro e w8 ⟨tb2, rfl, htb2, VT8, e8⟩
              go_wp2_with fail
              have E68 := (e6.trans e7).trans e8
              cases hd2 : vdownV lv tv with
              | false =>
                refine (isValid_any lc 0 tb2 0 lv.maj lv.mnr lv.pat tv.maj tv.mnr tv.pat _ ((VL6.ext e7).ext e8) VT8).mono ?_
                rintro e w9 ⟨rfl, e9⟩
                rw [show vdown lv.maj lv.mnr tv.maj tv.mnr tv.pat = false from hd2]
                replace hd2 := Lib.hid hd2
                go_wp2
                go_ret2
                refine ⟨l, HL.out, (((E12.trans E3).trans E45).trans E68).trans e9, ?_⟩
                rw [hcv.out, hlv.out, hdn.out, htv.out]
                simp only [decideD, heq.out, hd1.out, hd2.out, if_true, if_false, Bool.false_eq_true, Bool.true_and]
                rfl
              | true =>
                refine (isValid_any lc 0 tb2 0 lv.maj lv.mnr lv.pat tv.maj tv.mnr tv.pat _ ((VL6.ext e7).ext e8) VT8).mono ?_
                rintro e w9 ⟨rfl, e9⟩
                rw [show vdown lv.maj lv.mnr tv.maj tv.mnr tv.pat = true from hd2]
                replace hd2 := Lib.hid hd2
                go_wp2_with fail
                refine (target_any ib _ tv HT.out _ (((KI6.ext e7).ext e8).ext e9)).mono ?_
                rintro e wa ⟨tb3, rfl, htb3, VTa, ea⟩
                go_wp2
                go_ret2
                have EA := ((((E12.trans E3).trans E45).trans E68).trans e9)
                refine ⟨l, HL.out, EA.trans ea, ?_⟩
                rw [hcv.out, hlv.out, hdn.out, htv.out]
                simp only [decideD, heq.out, hd1.out, hd2.out, if_true, if_false, Bool.false_eq_true, Bool.true_and]
                exact ⟨tb3, rfl, by have := EA.size; omega, VTa⟩
end Go.Proofs.YtdokcengcekfgaaGreatDoor
