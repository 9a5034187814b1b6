/-
  A monitor sets versions (Monitor.UpdateClusterVersionIfNeeded, UpdateStorageVersionIfNeeded).
-/
import Derived.Test.YtdokcengcekfgaaGreatDoorMon
namespace Go.Proofs.YtdokcengcekfgaaGreatDoor
open Go.RowKit Go.Maps Go.WideMaps
set_option linter.unusedSimpArgs false
set_option linter.unusedVariables false

theorem base_ok {v : VD} (h : v.ok) : (base v).ok := by
  obtain ⟨a, b, c, d, _⟩ := h
  exact ⟨a, b, c, d, Int.le_refl _, by show (0 : Int) ≤ 9999; decide⟩
theorem least_ok {ms : List ByteArray} {v : VD} (h : Least (ms.map verOfD) (some v)) : v.ok := by
  obtain ⟨m, _, hm⟩ := List.mem_map.1 h.2.1
  exact (verOfD_some hm).1
theorem decideD_ok {g : GD} (h : g.ok) {l : Option VD} (hl : Least (g.members.map verOfD) l) {v : VD} {e : Bool} (hd : decideD (verOfD g.cluster) l g.down g.tv = (some v, e)) : v.ok := by
  unfold decideD at hd
  split at hd
  · cases l with
    | none =>
      simp at hd
      rw [← hd.1]; exact v300_ok
    | some u =>
      simp at hd
      rw [← hd.1]; exact least_ok hl
  · split at hd
    · simp at hd
    · rename_i u
      cases hdn : g.down with
      | true =>
        rw [hdn] at hd
        simp only [if_true] at hd
        split at hd
        · simp at hd
        · split at hd
          · simp at hd
            rw [← hd.1]; exact (h.tgt hdn).1
          · simp at hd
      | false =>
        rw [hdn] at hd
        simp only [if_false, Bool.false_eq_true] at hd
        split at hd
        · simp at hd
          rw [← hd.1]; exact least_ok hl
        · simp at hd
theorem decideD_no {cv l : Option VD} {d : Bool} {t v : VD} : decideD cv l d t ≠ (some v, true) := by
  unfold decideD
  cases cv with
  | none => simp
  | some c =>
    cases l with
    | none => simp
    | some u =>
      cases d <;> simp only [if_true, if_false, Bool.false_eq_true]
      · split <;> simp
      · split
        · simp
        · split <;> simp
def updVote (x : VoteD) : Option VD → VoteD
  | some v => { x with cluster := vt (base v) }
  | none => x
def UpdAns (b : Nat) (g : GD) (A : Option Addr) (n cap : Nat) (x : VoteD) (w : World) (e : Ending) (w' : World) : Prop :=
  ∃ l, Least (g.members.map verOfD) l ∧ e = .returned (if (decideD (verOfD g.cluster) l g.down g.tv).2 then errDown else .nilIface) ∧
    Grd w' b g A n cap (updVote x (decideD (verOfD g.cluster) l g.down g.tv).1) ∧ ExtX (fun k => k = b) w w'
noncomputable def ops_28_3 : Array Oper := opsAt Tryz.f28 3
noncomputable def ops_28_4 : Array Oper := opsAt Tryz.f28 4
set_option maxRecDepth 20000 in
set_option maxHeartbeats 4000000 in
theorem updCluster_mon (mb b : Nat) (g : GD) (A : Option Addr) (n cap : Nat) (x : VoteD) (w : World) (h : Grd w b g A n cap x) (hmon : MonAt w mb b) (hmb : mb ≠ b) (hn : n = g.members.length) (hm : (Rp.slice Rp.str).K w any g.members [.slice A n cap]) (hok : g.ok) (hw : VarsOk w) :
    Calls Tryz.prog 28 #[.pointer (some ⟨mb, 0, none⟩)] w (UpdAns b g A n cap x w) := by
  have hc := decide_any mb b g A n cap x w h hmon hn hm hok hw
  have HC := Lib.hid hc
  have HOK := Lib.hid hok
  have HG := Lib.hid h
  have HW := Lib.hid hw
  have g1 := hmon.cell (o := 1) rfl
  have hbl := h.lt
  clear hc hok h hw hm hn
  go_enter Tryz.func28, Tryz.ntmps28
  go_wp2_with fail
  refine HC.out.mono ?_
  rintro e w1 ⟨l, hl, E1, hr⟩
  have HL := Lib.hid hl
  have hdok := Lib.hid (fun v e => decideD_ok HOK.out hl (v := v) (e := e))
  clear hl
  have GG1 := Lib.hid (HG.out.ext E1)
  obtain ⟨r, hrr⟩ : ∃ r, decideD (verOfD g.cluster) l g.down g.tv = r := ⟨_, rfl⟩
  rw [hrr] at hr hdok
  have HRR := Lib.hid hrr
  clear hrr
  rcases r with ⟨_ | v, _ | _⟩
  · obtain rfl := hr
    go_wp2
    go_ret
    refine ⟨l, HL.out, ?_⟩
    rw [HRR.out]
    exact ⟨rfl, GG1.out, E1.toX _⟩
  · obtain rfl := hr
    go_wp2
    go_ret
    refine ⟨l, HL.out, ?_⟩
    rw [HRR.out]
    exact ⟨rfl, GG1.out, E1.toX _⟩
  · obtain ⟨c, rfl, hc1, V⟩ := hr
    have hvok := Lib.hid (hdok.out v false rfl)
    obtain ⟨q0, q1, q2⟩ := id V
    have g1 := E1.cellS g1
    have hb1 : b < w1.heap.size := Nat.lt_of_lt_of_le hbl E1.size
    go_wp2_with fail
    refine wp_region_sched (ops := ops_28_3) Ext [] (.quiet 0 (.quiet 1 (.quiet 2 (.quiet 3 (.quiet 4 (.quiet 5 (.quiet 6 (.quiet 7 (.quiet 8 (.loud 9 (.quiet 10 (.done)) (.stop))))))))))) (by kernel_rfl) ext_refl ext_trans (by kernel_rfl) (fun _ _ d _ _ h => by cases d <;> exact h) ?_
    refine wpS_quiet (some 12) { dst := some 12, op := Op.move (Operand.tmp 3), type := _, pos := _, after := _, guard := none } _ rfl rfl (by rfl) (fun wE hE => by (go_simp; try with_reducible rfl)) ?_; simp only [Act.put, List.setIfInBounds_toArray, List.set_cons_zero, List.set_cons_succ]
    refine wpS_quiet (some 13) { dst := some 13, op := Op.nilCheck (Operand.tmp 12), type := _, pos := _, after := _, guard := none } _ rfl rfl (by rfl) (fun wE hE => by (go_simp; try with_reducible rfl)) ?_; simp only [Act.put, List.setIfInBounds_toArray, List.set_cons_zero, List.set_cons_succ]
    refine wpS_quiet (some 14) { dst := some 14, op := Op.fieldAddr 60 (Operand.tmp 13) 0, type := _, pos := _, after := _, guard := none } _ rfl rfl (by rfl) (fun wE hE => by (go_simp; try with_reducible rfl)) ?_; simp only [Act.put, List.setIfInBounds_toArray, List.set_cons_zero, List.set_cons_succ]
    refine wpS_quiet (some 15) { dst := some 15, op := Op.load 2 (Operand.tmp 14), type := _, pos := _, after := _, guard := none } _ rfl rfl (by rfl) (fun wE hE => by (have zk0 := hE.cellS q0; have zk1 := hE.cellS q1; have zk2 := hE.cellS q2; go_simp; try with_reducible rfl)) ?_; simp only [Act.put, List.setIfInBounds_toArray, List.set_cons_zero, List.set_cons_succ]
    refine wpS_quiet (some 16) { dst := some 16, op := Op.move (Operand.tmp 3), type := _, pos := _, after := _, guard := none } _ rfl rfl (by rfl) (fun wE hE => by (go_simp; try with_reducible rfl)) ?_; simp only [Act.put, List.setIfInBounds_toArray, List.set_cons_zero, List.set_cons_succ]
    refine wpS_quiet (some 17) { dst := some 17, op := Op.nilCheck (Operand.tmp 16), type := _, pos := _, after := _, guard := none } _ rfl rfl (by rfl) (fun wE hE => by (go_simp; try with_reducible rfl)) ?_; simp only [Act.put, List.setIfInBounds_toArray, List.set_cons_zero, List.set_cons_succ]
    refine wpS_quiet (some 18) { dst := some 18, op := Op.fieldAddr 60 (Operand.tmp 17) 1, type := _, pos := _, after := _, guard := none } _ rfl rfl (by rfl) (fun wE hE => by (go_simp; try with_reducible rfl)) ?_; simp only [Act.put, List.setIfInBounds_toArray, List.set_cons_zero, List.set_cons_succ]
    refine wpS_quiet (some 19) { dst := some 19, op := Op.load 2 (Operand.tmp 18), type := _, pos := _, after := _, guard := none } _ rfl rfl (by rfl) (fun wE hE => by (have zk0 := hE.cellS q0; have zk1 := hE.cellS q1; have zk2 := hE.cellS q2; go_simp; try with_reducible rfl)) ?_; simp only [Act.put, List.setIfInBounds_toArray, List.set_cons_zero, List.set_cons_succ]
    refine wpS_quiet (some 20) { dst := some 20, op := Op.build 60 #[(0, Operand.tmp 15), (1, Operand.tmp 19)], type := _, pos := _, after := _, guard := none } _ rfl rfl (by rfl) (fun wE hE => by (go_simp; try with_reducible rfl)) ?_; simp only [Act.put, List.setIfInBounds_toArray, List.set_cons_zero, List.set_cons_succ]
    refine wpS_alloc (some 21) { dst := some 21, op := Op.box 60 (Operand.tmp 20), type := _, pos := _, after := _, guard := none } _ _ rfl rfl (by rfl) (by go_simp; try rfl) (fun _ h => h) ?_ trivial
    intro nb w2 hb2 e2 K2
    have hnb : b ≠ nb := (by have : nb = w1.drew.heap.size := hb2; have : w1.drew.heap.size = w1.heap.size := rfl; omega)
    clear hb2
    simp only [Act.put, List.setIfInBounds_toArray, List.set_cons_zero, List.set_cons_succ]
    refine wpS_quiet (some 3) { dst := some 3, op := Op.assign (Operand.tmp 21), type := _, pos := _, after := _, guard := none } _ rfl rfl (by rfl) (fun wE hE => by (go_simp; try with_reducible rfl)) ?_; simp only [Act.put, List.setIfInBounds_toArray, List.set_cons_zero, List.set_cons_succ]
    change Exit.then _ _ _ _ _
    have E2 : Ext w1 w2 := e2.undrew
    have GG2 := Lib.hid (GG1.out.ext E2)
    have HW2 := Lib.hid (HW.out.ext (E1.trans E2))
    have g1 := E2.cellS g1
    have k0 := K2.cell (o := 0) rfl
    have k1 := K2.cell (o := 1) rfl
    have k2 := K2.cell (o := 2) rfl
    clear q0 q1 q2 e2 V
    go_wp2_with fail
    have hna : ∀ w : World, (nilAhead 262 47 (.pointer (some ⟨b, 0, none⟩)) "UpdateClusterVersion").run Tryz.prog w = .ok (some false) w := fun _ => by kernel_rfl
    have hme : ∀ w : World, (method 262 47 (.pointer (some ⟨b, 0, none⟩)) "UpdateClusterVersion").run Tryz.prog w = .ok (109, .pointer (some ⟨b, 0, none⟩)) w := fun _ => by kernel_rfl
    refine wp_region_sched (ops := ops_28_4) (ExtX (fun k => k = b)) [] (.quiet 0 (.quiet 1 (.quiet 2 (.quiet 3 (.quiet 4 (.quiet 5 (.quiet 6 (.quiet 8 (.quiet 9 (.loud 7 (.loud 10 (.done) (.stop)) (.stop))))))))))) (by kernel_rfl) (ExtX.refl (fun k => k = b)) (fun _ _ _ => ExtX.trans) (by kernel_rfl) (fun _ _ d _ _ h => by cases d <;> exact h) ?_
    refine wpS_quiet (some 22) { dst := some 22, op := Op.move (Operand.tmp 0), type := _, pos := _, after := _, guard := none } _ rfl rfl (by rfl) (fun wE hE => by (go_simp; try with_reducible rfl)) ?_; simp only [Act.put, List.setIfInBounds_toArray, List.set_cons_zero, List.set_cons_succ]
    refine wpS_quiet (some 23) { dst := some 23, op := Op.nilCheck (Operand.tmp 22), type := _, pos := _, after := _, guard := none } _ rfl rfl (by rfl) (fun wE hE => by (go_simp; try with_reducible rfl)) ?_; simp only [Act.put, List.setIfInBounds_toArray, List.set_cons_zero, List.set_cons_succ]
    refine wpS_quiet (some 24) { dst := some 24, op := Op.fieldAddr 75 (Operand.tmp 23) 1, type := _, pos := _, after := _, guard := none } _ rfl rfl (by rfl) (fun wE hE => by (go_simp; try with_reducible rfl)) ?_; simp only [Act.put, List.setIfInBounds_toArray, List.set_cons_zero, List.set_cons_succ]
    refine wpS_quiet (some 25) { dst := some 25, op := Op.load 73 (Operand.tmp 24), type := _, pos := _, after := _, guard := none } _ rfl rfl (by rfl) (fun wE hE => by (have zk0 := hE.cellS (by show ¬ (_ = b); simp only []; omega) g1; have zk1 := hE.cellS (by show ¬ (_ = b); simp only []; omega) k0; have zk2 := hE.cellS (by show ¬ (_ = b); simp only []; omega) k1; have zk3 := hE.cellS (by show ¬ (_ = b); simp only []; omega) k2; go_simp; try with_reducible rfl)) ?_; simp only [Act.put, List.setIfInBounds_toArray, List.set_cons_zero, List.set_cons_succ]
    refine wpS_quiet (some 26) { dst := some 26, op := Op.move (Operand.tmp 3), type := _, pos := _, after := _, guard := none } _ rfl rfl (by rfl) (fun wE hE => by (go_simp; try with_reducible rfl)) ?_; simp only [Act.put, List.setIfInBounds_toArray, List.set_cons_zero, List.set_cons_succ]
    refine wpS_quiet (some 27) { dst := some 27, op := Op.nilCheck (Operand.tmp 26), type := _, pos := _, after := _, guard := none } _ rfl rfl (by rfl) (fun wE hE => by (go_simp; try with_reducible rfl)) ?_; simp only [Act.put, List.setIfInBounds_toArray, List.set_cons_zero, List.set_cons_succ]
    refine wpS_quiet (some 28) { dst := some 28, op := Op.load 60 (Operand.tmp 27), type := _, pos := _, after := _, guard := none } _ rfl rfl (by rfl) (fun wE hE => by (have zk0 := hE.cellS (by show ¬ (_ = b); simp only []; omega) g1; have zk1 := hE.cellS (by show ¬ (_ = b); simp only []; omega) k0; have zk2 := hE.cellS (by show ¬ (_ = b); simp only []; omega) k1; have zk3 := hE.cellS (by show ¬ (_ = b); simp only []; omega) k2; go_simp; try with_reducible rfl)) ?_; simp only [Act.put, List.setIfInBounds_toArray, List.set_cons_zero, List.set_cons_succ]
    refine wpS_quiet (some 30) { dst := some 30, op := Op.nilCheck (Operand.tmp 25), type := _, pos := _, after := _, guard := none } _ rfl rfl (by rfl) (fun wE hE => by (go_simp; try with_reducible rfl)) ?_; simp only [Act.put, List.setIfInBounds_toArray, List.set_cons_zero, List.set_cons_succ]
    refine wpS_quiet (some 31) { dst := some 31, op := Op.move (Operand.tmp 25), type := _, pos := _, after := _, guard := none } _ rfl rfl (by rfl) (fun wE hE => by (go_simp; try with_reducible rfl)) ?_; simp only [Act.put, List.setIfInBounds_toArray, List.set_cons_zero, List.set_cons_succ]
    refine wpS_call (some 29) { dst := some 29, op := Op.call { callee := Callee.value (Operand.func 46), args := #[Operand.tmp 28], argTypes := #[68] }, type := _, pos := _, after := _, guard := none } 46 _ rfl rfl (by rfl) (by go_simp; try first | with_reducible rfl | exact ⟨rfl, rfl⟩) ?_
    refine (string_any (base v) (base_ok hvok.out) _ (HW2.out.ext (Ext.refl _).drew)).mono ?_; rintro e w3 ⟨rfl, e3⟩; refine ⟨_, rfl, (e3.toX _), ?_⟩; simp only [Act.put, List.setIfInBounds_toArray, List.set_cons_zero, List.set_cons_succ]
    refine wpS_call (some 32) { dst := some 32, op := Op.call { callee := Callee.invoke (Operand.tmp 31) "UpdateClusterVersion", args := #[Operand.tmp 29], argTypes := #[9] }, type := _, pos := _, after := _, guard := none } _ _ rfl rfl (by rfl) (by go_simp; try first | with_reducible rfl | exact ⟨rfl, rfl⟩) ?_
    refine (updCluster_any (vt (base v)) b g A n cap x _ (GG2.out.drew.ext e3)).mono ?_; rintro e w4 ⟨rfl, G4, e4⟩; refine ⟨_, rfl, e4, ?_⟩; simp only [Act.put, List.setIfInBounds_toArray, List.set_cons_zero, List.set_cons_succ]
    change Exit.then _ _ _ _ _
    clear hna hme
    have E4 : ExtX (fun k => k = b) w w4 := (((E1.trans E2).toX _).trans ((e3.toX _ : ExtX (fun k => k = b) w2.drew w3).undrew)).trans e4
    go_wp2
    go_ret
    refine ⟨l, HL.out, ?_⟩
    rw [HRR.out]
    exact ⟨rfl, G4, E4⟩
  · exact absurd HRR.out decideD_no

/-- the storage's version that is set -/
def storageD (cv sv : Option VD) : Option VD := match cv with
  | none => none
  | some c => if veqV c ⟨3, 0, 0⟩ then none else match sv with
    | none => some (base c)
    | some s => if s.maj == c.maj && s.mnr == c.mnr then none else some (base c)
def stVote (x : VoteD) : Option VD → VoteD
  | some v => { x with storage := vt v }
  | none => x
def StAns (b : Nat) (g : GD) (A : Option Addr) (n cap : Nat) (x : VoteD) (w : World) (e : Ending) (w' : World) : Prop :=
  e = .returned (.tuple #[]) ∧ Grd w' b g A n cap (stVote x (storageD (verOfD g.cluster) (verOfD g.storage))) ∧ ExtX (fun k => k = b) w w'
theorem veqV_iff (a b : VD) : veqV a b = true ↔ a = b := by
  obtain ⟨a1, a2, a3⟩ := a
  obtain ⟨b1, b2, b3⟩ := b
  simp [veqV, veq]
theorem vt_inj {a b : VD} (ha : a.ok) (hb : b.ok) (h : vt a = vt b) : a = b := by
  have := congrArg verOfD h
  rw [verOfD_vt ha, verOfD_vt hb] at this
  exact Option.some.inj this
theorem toList_vt (v : VD) : (vt v).toList = vtl v := by rw [ByteArray.toList_eq]; rfl
theorem toList300 : (vt ⟨3, 0, 0⟩).toList = [51, 46, 48, 46, 48] := by rw [toList_vt]; decide +kernel
theorem toList_ne {a b : VD} (ha : a.ok) (hb : b.ok) (h : a ≠ b) : ((vt a).toList == (vt b).toList) = false := by
  rw [beq_eq_false_iff_ne, toList_vt, toList_vt]
  intro he
  apply h
  refine vt_inj ha hb ?_
  unfold vt
  rw [he]
noncomputable def ops_30_3 : Array Oper := opsAt Tryz.f30 3
noncomputable def ops_30_5 : Array Oper := opsAt Tryz.f30 5
set_option maxRecDepth 20000 in
set_option maxHeartbeats 4000000 in
theorem updStorage_mon (mb b : Nat) (g : GD) (A : Option Addr) (n cap : Nat) (x : VoteD) (w : World) (h : Grd w b g A n cap x) (hmon : MonAt w mb b) (hmb : mb ≠ b) (hok : g.ok) (hw : VarsOk w) :
    Calls Tryz.prog 30 #[.pointer (some ⟨mb, 0, none⟩)] w (StAns b g A n cap x w) := by
  have HOK := Lib.hid hok
  have HG := Lib.hid h
  have HW := Lib.hid hw
  have HC := Lib.hid (getCluster_any b g A n cap x w h hok.c hw)
  have g1 := hmon.cell (o := 1) rfl
  have hbl := h.lt
  clear hok h hw
  go_enter Tryz.func30, Tryz.ntmps30
  go_wp2_with fail
  refine HC.out.mono ?_
  intro e w1 hp
  rcases hp.of with ⟨hcv, rfl, E1⟩ | ⟨cv, cc, hcv, rfl, hcc, VC, E1⟩
  · replace hcv := Lib.hid hcv
    clear hp
    go_wp2
    go_end0
    refine ⟨rfl, ?_, E1.toX _⟩
    rw [hcv.out]
    exact HG.out.ext E1
  · have hcok : cv.ok := (verOfD_some hcv).1
    replace hcv := Lib.hid hcv
    obtain ⟨c0, c1, c2⟩ := id VC
    clear hp
    go_wp2_with fail
    refine (string_any cv hcok w1 (HW.out.ext E1)).mono ?_
    rintro e w2 ⟨rfl, E2⟩
    have HCOK := Lib.hid hcok
    clear hcok c0 c1 c2
    by_cases h3 : cv = ⟨3, 0, 0⟩
    · subst h3
      rw [vt300]
      go_wp2
      go_end0
      refine ⟨rfl, ?_, (E1.trans E2).toX _⟩
      rw [hcv.out]
      exact HG.out.ext (E1.trans E2)
    · have g1 := (E1.trans E2).cellS g1
      have h3b : ((vt cv).toList == [51, 46, 48, 46, 48]) = false := by
        have := toList_ne HCOK.out v300_ok h3
        rwa [toList300] at this
      have h3v : veqV cv ⟨3, 0, 0⟩ = false := by
        cases hq : veqV cv ⟨3, 0, 0⟩ with
        | false => rfl
        | true => exact absurd ((veqV_iff _ _).1 hq) h3
      replace h3 := Lib.hid h3v
      clear h3v
      go_wp2_with fail
      clear h3b
      have E12 := E1.trans E2
      refine (getStorage_any b g A n cap x w2 (HG.out.ext E12) HOK.out.s (HW.out.ext E12)).mono ?_
      intro e w3 hp
      have VC3 := fun E3 : Ext w2 w3 => (VC.ext E2).ext E3
      rcases hp.of with ⟨hsv, rfl, E3⟩ | ⟨sv, sc, hsv, rfl, hsc, VS, E3⟩
      · replace hsv := Lib.hid hsv
        replace VC3 := VC3 E3
        have E13 := E12.trans E3
        have hset : Hid (storageD (verOfD g.cluster) (verOfD g.storage) = some (base cv)) := Lib.hid (by
          rw [hcv.out, hsv.out]; simp [storageD, h3.out])
        have g1 := E3.cellS g1
        clear hp
        obtain ⟨c0, c1, c2⟩ := id VC3
        go_wp2_with fail
        refine wp_region_sched (ops := ops_30_3) Ext [] (.quiet 0 (.quiet 1 (.quiet 2 (.quiet 3 (.quiet 4 (.quiet 5 (.quiet 6 (.quiet 7 (.quiet 8 (.quiet 9 (.quiet 10 (.quiet 11 (.quiet 12 (.quiet 13 (.quiet 14 (.quiet 15 (.quiet 16 (.quiet 17 (.quiet 18 (.quiet 19 (.quiet 20 (.quiet 21 (.quiet 22 (.quiet 23 (.done))))))))))))))))))))))))) (by kernel_rfl) ext_refl ext_trans (by kernel_rfl) (fun _ _ d _ _ h => by cases d <;> exact h) ?_
        refine wpS_quiet (some 25) { dst := some 25, op := Op.move (Operand.tmp 3), type := _, pos := _, after := _, guard := none } _ rfl rfl (by rfl) (fun wE hE => by (go_simp; try with_reducible rfl)) ?_; simp only [Act.put, List.setIfInBounds_toArray, List.set_cons_zero, List.set_cons_succ]
        refine wpS_quiet (some 26) { dst := some 26, op := Op.binOp BinOp.eql 68 (Operand.tmp 25) (Operand.const (Value.pointer none)) 68, type := _, pos := _, after := _, guard := none } _ rfl rfl (by rfl) (fun wE hE => by (go_simp; try with_reducible rfl)) ?_; simp only [Act.put, List.setIfInBounds_toArray, List.set_cons_zero, List.set_cons_succ]
        refine wpS_quiet (some 27) { dst := some 27, op := Op.move (Operand.tmp 26), type := _, pos := _, after := _, guard := none } _ rfl rfl (by rfl) (fun wE hE => by (go_simp; try with_reducible rfl)) ?_; simp only [Act.put, List.setIfInBounds_toArray, List.set_cons_zero, List.set_cons_succ]
        (first | refine wpS_quiet (some 28) { dst := some 28, op := Op.move (Operand.tmp 3), type := _, pos := _, after := _, guard := some (2, false) } _ rfl rfl (by rfl) (fun wE hE => by (go_simp; try with_reducible rfl)) ?_ | refine wpS_pass (some 28) _ rfl rfl (by rfl) ?_); simp only [Act.put, List.setIfInBounds_toArray, List.set_cons_zero, List.set_cons_succ]
        (first | refine wpS_quiet (some 29) { dst := some 29, op := Op.nilCheck (Operand.tmp 28), type := _, pos := _, after := _, guard := some (2, false) } _ rfl rfl (by rfl) (fun wE hE => by (go_simp; try with_reducible rfl)) ?_ | refine wpS_pass (some 29) _ rfl rfl (by rfl) ?_); simp only [Act.put, List.setIfInBounds_toArray, List.set_cons_zero, List.set_cons_succ]
        (first | refine wpS_quiet (some 30) { dst := some 30, op := Op.fieldAddr 60 (Operand.tmp 29) 0, type := _, pos := _, after := _, guard := some (2, false) } _ rfl rfl (by rfl) (fun wE hE => by (go_simp; try with_reducible rfl)) ?_ | refine wpS_pass (some 30) _ rfl rfl (by rfl) ?_); simp only [Act.put, List.setIfInBounds_toArray, List.set_cons_zero, List.set_cons_succ]
        (first | refine wpS_quiet (some 31) { dst := some 31, op := Op.load 2 (Operand.tmp 30), type := _, pos := _, after := _, guard := some (2, false) } _ rfl rfl (by rfl) (fun wE hE => by (have zk0 := hE.cellS c0; have zk1 := hE.cellS c1; have zk2 := hE.cellS c2; go_simp; try with_reducible rfl)) ?_ | refine wpS_pass (some 31) _ rfl rfl (by rfl) ?_); simp only [Act.put, List.setIfInBounds_toArray, List.set_cons_zero, List.set_cons_succ]
        (first | refine wpS_quiet (some 32) { dst := some 32, op := Op.move (Operand.tmp 2), type := _, pos := _, after := _, guard := some (2, false) } _ rfl rfl (by rfl) (fun wE hE => by (go_simp; try with_reducible rfl)) ?_ | refine wpS_pass (some 32) _ rfl rfl (by rfl) ?_); simp only [Act.put, List.setIfInBounds_toArray, List.set_cons_zero, List.set_cons_succ]
        (first | refine wpS_quiet (some 33) { dst := some 33, op := Op.nilCheck (Operand.tmp 32), type := _, pos := _, after := _, guard := some (2, false) } _ rfl rfl (by rfl) (fun wE hE => by (go_simp; try with_reducible rfl)) ?_ | refine wpS_pass (some 33) _ rfl rfl (by rfl) ?_); simp only [Act.put, List.setIfInBounds_toArray, List.set_cons_zero, List.set_cons_succ]
        (first | refine wpS_quiet (some 34) { dst := some 34, op := Op.fieldAddr 60 (Operand.tmp 33) 0, type := _, pos := _, after := _, guard := some (2, false) } _ rfl rfl (by rfl) (fun wE hE => by (go_simp; try with_reducible rfl)) ?_ | refine wpS_pass (some 34) _ rfl rfl (by rfl) ?_); simp only [Act.put, List.setIfInBounds_toArray, List.set_cons_zero, List.set_cons_succ]
        (first | refine wpS_quiet (some 35) { dst := some 35, op := Op.load 2 (Operand.tmp 34), type := _, pos := _, after := _, guard := some (2, false) } _ rfl rfl (by rfl) (fun wE hE => by (have zk0 := hE.cellS c0; have zk1 := hE.cellS c1; have zk2 := hE.cellS c2; go_simp; try with_reducible rfl)) ?_ | refine wpS_pass (some 35) _ rfl rfl (by rfl) ?_); simp only [Act.put, List.setIfInBounds_toArray, List.set_cons_zero, List.set_cons_succ]
        (first | refine wpS_quiet (some 36) { dst := some 36, op := Op.binOp BinOp.neq 2 (Operand.tmp 31) (Operand.tmp 35) 2, type := _, pos := _, after := _, guard := some (2, false) } _ rfl rfl (by rfl) (fun wE hE => by (go_simp; try with_reducible rfl)) ?_ | refine wpS_pass (some 36) _ rfl rfl (by rfl) ?_); simp only [Act.put, List.setIfInBounds_toArray, List.set_cons_zero, List.set_cons_succ]
        refine wpS_quiet (some 37) { dst := some 37, op := Op.pick (Operand.tmp 27) (Operand.const (Value.bool true)) (Operand.tmp 36), type := _, pos := _, after := _, guard := none } _ rfl rfl (by rfl) (fun wE hE => by (go_simp; try with_reducible rfl)) ?_; simp only [Act.put, List.setIfInBounds_toArray, List.set_cons_zero, List.set_cons_succ]
        refine wpS_quiet (some 38) { dst := some 38, op := Op.move (Operand.tmp 37), type := _, pos := _, after := _, guard := none } _ rfl rfl (by rfl) (fun wE hE => by (go_simp; try with_reducible rfl)) ?_; simp only [Act.put, List.setIfInBounds_toArray, List.set_cons_zero, List.set_cons_succ]
        (first | refine wpS_quiet (some 39) { dst := some 39, op := Op.move (Operand.tmp 3), type := _, pos := _, after := _, guard := some (13, false) } _ rfl rfl (by rfl) (fun wE hE => by (go_simp; try with_reducible rfl)) ?_ | refine wpS_pass (some 39) _ rfl rfl (by rfl) ?_); simp only [Act.put, List.setIfInBounds_toArray, List.set_cons_zero, List.set_cons_succ]
        (first | refine wpS_quiet (some 40) { dst := some 40, op := Op.nilCheck (Operand.tmp 39), type := _, pos := _, after := _, guard := some (13, false) } _ rfl rfl (by rfl) (fun wE hE => by (go_simp; try with_reducible rfl)) ?_ | refine wpS_pass (some 40) _ rfl rfl (by rfl) ?_); simp only [Act.put, List.setIfInBounds_toArray, List.set_cons_zero, List.set_cons_succ]
        (first | refine wpS_quiet (some 41) { dst := some 41, op := Op.fieldAddr 60 (Operand.tmp 40) 1, type := _, pos := _, after := _, guard := some (13, false) } _ rfl rfl (by rfl) (fun wE hE => by (go_simp; try with_reducible rfl)) ?_ | refine wpS_pass (some 41) _ rfl rfl (by rfl) ?_); simp only [Act.put, List.setIfInBounds_toArray, List.set_cons_zero, List.set_cons_succ]
        (first | refine wpS_quiet (some 42) { dst := some 42, op := Op.load 2 (Operand.tmp 41), type := _, pos := _, after := _, guard := some (13, false) } _ rfl rfl (by rfl) (fun wE hE => by (have zk0 := hE.cellS c0; have zk1 := hE.cellS c1; have zk2 := hE.cellS c2; go_simp; try with_reducible rfl)) ?_ | refine wpS_pass (some 42) _ rfl rfl (by rfl) ?_); simp only [Act.put, List.setIfInBounds_toArray, List.set_cons_zero, List.set_cons_succ]
        (first | refine wpS_quiet (some 43) { dst := some 43, op := Op.move (Operand.tmp 2), type := _, pos := _, after := _, guard := some (13, false) } _ rfl rfl (by rfl) (fun wE hE => by (go_simp; try with_reducible rfl)) ?_ | refine wpS_pass (some 43) _ rfl rfl (by rfl) ?_); simp only [Act.put, List.setIfInBounds_toArray, List.set_cons_zero, List.set_cons_succ]
        (first | refine wpS_quiet (some 44) { dst := some 44, op := Op.nilCheck (Operand.tmp 43), type := _, pos := _, after := _, guard := some (13, false) } _ rfl rfl (by rfl) (fun wE hE => by (go_simp; try with_reducible rfl)) ?_ | refine wpS_pass (some 44) _ rfl rfl (by rfl) ?_); simp only [Act.put, List.setIfInBounds_toArray, List.set_cons_zero, List.set_cons_succ]
        (first | refine wpS_quiet (some 45) { dst := some 45, op := Op.fieldAddr 60 (Operand.tmp 44) 1, type := _, pos := _, after := _, guard := some (13, false) } _ rfl rfl (by rfl) (fun wE hE => by (go_simp; try with_reducible rfl)) ?_ | refine wpS_pass (some 45) _ rfl rfl (by rfl) ?_); simp only [Act.put, List.setIfInBounds_toArray, List.set_cons_zero, List.set_cons_succ]
        (first | refine wpS_quiet (some 46) { dst := some 46, op := Op.load 2 (Operand.tmp 45), type := _, pos := _, after := _, guard := some (13, false) } _ rfl rfl (by rfl) (fun wE hE => by (have zk0 := hE.cellS c0; have zk1 := hE.cellS c1; have zk2 := hE.cellS c2; go_simp; try with_reducible rfl)) ?_ | refine wpS_pass (some 46) _ rfl rfl (by rfl) ?_); simp only [Act.put, List.setIfInBounds_toArray, List.set_cons_zero, List.set_cons_succ]
        (first | refine wpS_quiet (some 47) { dst := some 47, op := Op.binOp BinOp.neq 2 (Operand.tmp 42) (Operand.tmp 46) 2, type := _, pos := _, after := _, guard := some (13, false) } _ rfl rfl (by rfl) (fun wE hE => by (go_simp; try with_reducible rfl)) ?_ | refine wpS_pass (some 47) _ rfl rfl (by rfl) ?_); simp only [Act.put, List.setIfInBounds_toArray, List.set_cons_zero, List.set_cons_succ]
        refine wpS_quiet (some 48) { dst := some 48, op := Op.pick (Operand.tmp 38) (Operand.const (Value.bool true)) (Operand.tmp 47), type := _, pos := _, after := _, guard := none } _ rfl rfl (by rfl) (fun wE hE => by (go_simp; try with_reducible rfl)) ?_; simp only [Act.put, List.setIfInBounds_toArray, List.set_cons_zero, List.set_cons_succ]
        change Exit.then _ _ _ _ _
        go_wp2_with fail
        have GG3 := Lib.hid (HG.out.ext E13)
        have HW3 := Lib.hid (HW.out.ext E13)
        have hcb : cc ≠ b := by omega
        have hna : ∀ w : World, (nilAhead 262 47 (.pointer (some ⟨b, 0, none⟩)) "UpdateStorageVersion").run Tryz.prog w = .ok (some false) w := fun _ => by kernel_rfl
        have hme : ∀ w : World, (method 262 47 (.pointer (some ⟨b, 0, none⟩)) "UpdateStorageVersion").run Tryz.prog w = .ok (110, .pointer (some ⟨b, 0, none⟩)) w := fun _ => by kernel_rfl
        refine wp_region_sched (ops := ops_30_5) (ExtX (fun k => k = b)) [] (.quiet 0 (.quiet 1 (.quiet 2 (.quiet 3 (.quiet 4 (.quiet 5 (.quiet 6 (.quiet 7 (.quiet 8 (.quiet 9 (.quiet 10 (.quiet 11 (.quiet 12 (.quiet 13 (.quiet 14 (.loud 15 (.quiet 16 (.done)) (.stop))))))))))))))))) (by kernel_rfl) (ExtX.refl (fun k => k = b)) (fun _ _ _ => ExtX.trans) (by kernel_rfl) (fun _ _ d _ _ h => by cases d <;> exact h) ?_
        refine wpS_quiet (some 51) { dst := some 51, op := Op.move (Operand.tmp 0), type := _, pos := _, after := _, guard := none } _ rfl rfl (by rfl) (fun wE hE => by (go_simp; try with_reducible rfl)) ?_; simp only [Act.put, List.setIfInBounds_toArray, List.set_cons_zero, List.set_cons_succ]
        refine wpS_quiet (some 52) { dst := some 52, op := Op.nilCheck (Operand.tmp 51), type := _, pos := _, after := _, guard := none } _ rfl rfl (by rfl) (fun wE hE => by (go_simp; try with_reducible rfl)) ?_; simp only [Act.put, List.setIfInBounds_toArray, List.set_cons_zero, List.set_cons_succ]
        refine wpS_quiet (some 53) { dst := some 53, op := Op.fieldAddr 75 (Operand.tmp 52) 1, type := _, pos := _, after := _, guard := none } _ rfl rfl (by rfl) (fun wE hE => by (go_simp; try with_reducible rfl)) ?_; simp only [Act.put, List.setIfInBounds_toArray, List.set_cons_zero, List.set_cons_succ]
        refine wpS_quiet (some 54) { dst := some 54, op := Op.load 73 (Operand.tmp 53), type := _, pos := _, after := _, guard := none } _ rfl rfl (by rfl) (fun wE hE => by (have zk0 := hE.cellS (by show ¬ (_ = b); simp only []; omega) g1; have zk1 := hE.cellS (by show ¬ (_ = b); simp only []; omega) c0; have zk2 := hE.cellS (by show ¬ (_ = b); simp only []; omega) c1; have zk3 := hE.cellS (by show ¬ (_ = b); simp only []; omega) c2; go_simp; try with_reducible rfl)) ?_; simp only [Act.put, List.setIfInBounds_toArray, List.set_cons_zero, List.set_cons_succ]
        refine wpS_quiet (some 55) { dst := some 55, op := Op.move (Operand.tmp 2), type := _, pos := _, after := _, guard := none } _ rfl rfl (by rfl) (fun wE hE => by (go_simp; try with_reducible rfl)) ?_; simp only [Act.put, List.setIfInBounds_toArray, List.set_cons_zero, List.set_cons_succ]
        refine wpS_quiet (some 56) { dst := some 56, op := Op.nilCheck (Operand.tmp 55), type := _, pos := _, after := _, guard := none } _ rfl rfl (by rfl) (fun wE hE => by (go_simp; try with_reducible rfl)) ?_; simp only [Act.put, List.setIfInBounds_toArray, List.set_cons_zero, List.set_cons_succ]
        refine wpS_quiet (some 57) { dst := some 57, op := Op.fieldAddr 60 (Operand.tmp 56) 0, type := _, pos := _, after := _, guard := none } _ rfl rfl (by rfl) (fun wE hE => by (go_simp; try with_reducible rfl)) ?_; simp only [Act.put, List.setIfInBounds_toArray, List.set_cons_zero, List.set_cons_succ]
        refine wpS_quiet (some 58) { dst := some 58, op := Op.load 2 (Operand.tmp 57), type := _, pos := _, after := _, guard := none } _ rfl rfl (by rfl) (fun wE hE => by (have zk0 := hE.cellS (by show ¬ (_ = b); simp only []; omega) g1; have zk1 := hE.cellS (by show ¬ (_ = b); simp only []; omega) c0; have zk2 := hE.cellS (by show ¬ (_ = b); simp only []; omega) c1; have zk3 := hE.cellS (by show ¬ (_ = b); simp only []; omega) c2; go_simp; try with_reducible rfl)) ?_; simp only [Act.put, List.setIfInBounds_toArray, List.set_cons_zero, List.set_cons_succ]
        refine wpS_quiet (some 59) { dst := some 59, op := Op.move (Operand.tmp 2), type := _, pos := _, after := _, guard := none } _ rfl rfl (by rfl) (fun wE hE => by (go_simp; try with_reducible rfl)) ?_; simp only [Act.put, List.setIfInBounds_toArray, List.set_cons_zero, List.set_cons_succ]
        refine wpS_quiet (some 60) { dst := some 60, op := Op.nilCheck (Operand.tmp 59), type := _, pos := _, after := _, guard := none } _ rfl rfl (by rfl) (fun wE hE => by (go_simp; try with_reducible rfl)) ?_; simp only [Act.put, List.setIfInBounds_toArray, List.set_cons_zero, List.set_cons_succ]
        refine wpS_quiet (some 61) { dst := some 61, op := Op.fieldAddr 60 (Operand.tmp 60) 1, type := _, pos := _, after := _, guard := none } _ rfl rfl (by rfl) (fun wE hE => by (go_simp; try with_reducible rfl)) ?_; simp only [Act.put, List.setIfInBounds_toArray, List.set_cons_zero, List.set_cons_succ]
        refine wpS_quiet (some 62) { dst := some 62, op := Op.load 2 (Operand.tmp 61), type := _, pos := _, after := _, guard := none } _ rfl rfl (by rfl) (fun wE hE => by (have zk0 := hE.cellS (by show ¬ (_ = b); simp only []; omega) g1; have zk1 := hE.cellS (by show ¬ (_ = b); simp only []; omega) c0; have zk2 := hE.cellS (by show ¬ (_ = b); simp only []; omega) c1; have zk3 := hE.cellS (by show ¬ (_ = b); simp only []; omega) c2; go_simp; try with_reducible rfl)) ?_; simp only [Act.put, List.setIfInBounds_toArray, List.set_cons_zero, List.set_cons_succ]
        refine wpS_quiet (some 63) { dst := some 63, op := Op.build 60 #[(0, Operand.tmp 58), (1, Operand.tmp 62)], type := _, pos := _, after := _, guard := none } _ rfl rfl (by rfl) (fun wE hE => by (go_simp; try with_reducible rfl)) ?_; simp only [Act.put, List.setIfInBounds_toArray, List.set_cons_zero, List.set_cons_succ]
        refine wpS_quiet (some 64) { dst := some 64, op := Op.nilCheck (Operand.tmp 54), type := _, pos := _, after := _, guard := none } _ rfl rfl (by rfl) (fun wE hE => by (go_simp; try with_reducible rfl)) ?_; simp only [Act.put, List.setIfInBounds_toArray, List.set_cons_zero, List.set_cons_succ]
        refine wpS_quiet (some 65) { dst := some 65, op := Op.move (Operand.tmp 54), type := _, pos := _, after := _, guard := none } _ rfl rfl (by rfl) (fun wE hE => by (go_simp; try with_reducible rfl)) ?_; simp only [Act.put, List.setIfInBounds_toArray, List.set_cons_zero, List.set_cons_succ]
        refine wpS_call (some 66) { dst := some 66, op := Op.call { callee := Callee.invoke (Operand.tmp 65) "UpdateStorageVersion", args := #[Operand.tmp 63], argTypes := #[60] }, type := _, pos := _, after := _, guard := none } _ _ rfl rfl (by rfl) (by go_simp; try first | with_reducible rfl | exact ⟨rfl, rfl⟩) ?_
        refine (updStorage_any (base cv) (base_ok HCOK.out) b g A n cap x _ GG3.out.drew.drew (HW3.out.ext (Ext.refl _).drew.drew)).mono ?_; rintro e w4 ⟨rfl, G4, e4⟩; refine ⟨_, rfl, e4, ?_⟩; simp only [Act.put, List.setIfInBounds_toArray, List.set_cons_zero, List.set_cons_succ]
        refine wpS_quiet (some 4) { dst := some 4, op := Op.assign (Operand.tmp 66), type := _, pos := _, after := _, guard := none } _ rfl rfl (by rfl) (fun wE hE => by (go_simp; try with_reducible rfl)) ?_; simp only [Act.put, List.setIfInBounds_toArray, List.set_cons_zero, List.set_cons_succ]
        change Exit.then _ _ _ _ _
        clear hna hme
        have E4 : ExtX (fun k => k = b) w3 w4 := e4.undrew.undrew
        have g1 := E4.cellS (by show ¬ (mb = b); exact hmb) g1
        go_wp2_with fail
        refine (getDown_any b g A n cap _ w4 G4).mono ?_
        intro e w5 hinfo
        rcases hinfo with ⟨hhd, rfl, E5⟩ | ⟨hhd, ib, rfl, hib, KI, E5⟩
        · clear hhd
          go_wp2
          all_goals
            go_end0
            refine ⟨rfl, ?_, ((E13.toX _).trans E4).trans (E5.toX _)⟩
            rw [hset.out]
            exact G4.ext E5
        · have k1 := KI.cell (o := 1) rfl
          clear hhd
          go_wp2
          all_goals
            go_end0
            refine ⟨rfl, ?_, ((E13.toX _).trans E4).trans (E5.toX _)⟩
            rw [hset.out]
            exact G4.ext E5
      · replace hsv := Lib.hid hsv
        replace VC3 := VC3 E3
        have E13 := E12.trans E3
        have g1 := E3.cellS g1
        clear hp
        obtain ⟨c0, c1, c2⟩ := id VC3
        obtain ⟨s0, s1, s2⟩ := id VS
        by_cases hq1 : sv.maj = cv.maj
        · have hb1 : (sv.maj != cv.maj) = false := by simpa using hq1
          replace hq1 := Lib.hid hq1
          by_cases hq2 : sv.mnr = cv.mnr
          · have hb2 : (sv.mnr != cv.mnr) = false := by simpa using hq2
            replace hq2 := Lib.hid hq2
            have hset : Hid (storageD (verOfD g.cluster) (verOfD g.storage) = none) := Lib.hid (by
              rw [hcv.out, hsv.out]; simp [storageD, h3.out, hq1.out, hq2.out])
            go_wp2_with fail
            refine wp_region_sched (ops := ops_30_3) Ext [] (.quiet 0 (.quiet 1 (.quiet 2 (.quiet 3 (.quiet 4 (.quiet 5 (.quiet 6 (.quiet 7 (.quiet 8 (.quiet 9 (.quiet 10 (.quiet 11 (.quiet 12 (.quiet 13 (.quiet 14 (.quiet 15 (.quiet 16 (.quiet 17 (.quiet 18 (.quiet 19 (.quiet 20 (.quiet 21 (.quiet 22 (.quiet 23 (.done))))))))))))))))))))))))) (by kernel_rfl) ext_refl ext_trans (by kernel_rfl) (fun _ _ d _ _ h => by cases d <;> exact h) ?_
            refine wpS_quiet (some 25) { dst := some 25, op := Op.move (Operand.tmp 3), type := _, pos := _, after := _, guard := none } _ rfl rfl (by rfl) (fun wE hE => by (go_simp; try with_reducible rfl)) ?_; simp only [Act.put, List.setIfInBounds_toArray, List.set_cons_zero, List.set_cons_succ]
            refine wpS_quiet (some 26) { dst := some 26, op := Op.binOp BinOp.eql 68 (Operand.tmp 25) (Operand.const (Value.pointer none)) 68, type := _, pos := _, after := _, guard := none } _ rfl rfl (by rfl) (fun wE hE => by (go_simp; try with_reducible rfl)) ?_; simp only [Act.put, List.setIfInBounds_toArray, List.set_cons_zero, List.set_cons_succ]
            refine wpS_quiet (some 27) { dst := some 27, op := Op.move (Operand.tmp 26), type := _, pos := _, after := _, guard := none } _ rfl rfl (by rfl) (fun wE hE => by (go_simp; try with_reducible rfl)) ?_; simp only [Act.put, List.setIfInBounds_toArray, List.set_cons_zero, List.set_cons_succ]
            (first | refine wpS_quiet (some 28) { dst := some 28, op := Op.move (Operand.tmp 3), type := _, pos := _, after := _, guard := some (2, false) } _ rfl rfl (by rfl) (fun wE hE => by (go_simp; try with_reducible rfl)) ?_ | refine wpS_pass (some 28) _ rfl rfl (by rfl) ?_); simp only [Act.put, List.setIfInBounds_toArray, List.set_cons_zero, List.set_cons_succ]
            (first | refine wpS_quiet (some 29) { dst := some 29, op := Op.nilCheck (Operand.tmp 28), type := _, pos := _, after := _, guard := some (2, false) } _ rfl rfl (by rfl) (fun wE hE => by (go_simp; try with_reducible rfl)) ?_ | refine wpS_pass (some 29) _ rfl rfl (by rfl) ?_); simp only [Act.put, List.setIfInBounds_toArray, List.set_cons_zero, List.set_cons_succ]
            (first | refine wpS_quiet (some 30) { dst := some 30, op := Op.fieldAddr 60 (Operand.tmp 29) 0, type := _, pos := _, after := _, guard := some (2, false) } _ rfl rfl (by rfl) (fun wE hE => by (go_simp; try with_reducible rfl)) ?_ | refine wpS_pass (some 30) _ rfl rfl (by rfl) ?_); simp only [Act.put, List.setIfInBounds_toArray, List.set_cons_zero, List.set_cons_succ]
            (first | refine wpS_quiet (some 31) { dst := some 31, op := Op.load 2 (Operand.tmp 30), type := _, pos := _, after := _, guard := some (2, false) } _ rfl rfl (by rfl) (fun wE hE => by (have zk0 := hE.cellS c0; have zk1 := hE.cellS c1; have zk2 := hE.cellS c2; have zk3 := hE.cellS s0; have zk4 := hE.cellS s1; have zk5 := hE.cellS s2; go_simp; try with_reducible rfl)) ?_ | refine wpS_pass (some 31) _ rfl rfl (by rfl) ?_); simp only [Act.put, List.setIfInBounds_toArray, List.set_cons_zero, List.set_cons_succ]
            (first | refine wpS_quiet (some 32) { dst := some 32, op := Op.move (Operand.tmp 2), type := _, pos := _, after := _, guard := some (2, false) } _ rfl rfl (by rfl) (fun wE hE => by (go_simp; try with_reducible rfl)) ?_ | refine wpS_pass (some 32) _ rfl rfl (by rfl) ?_); simp only [Act.put, List.setIfInBounds_toArray, List.set_cons_zero, List.set_cons_succ]
            (first | refine wpS_quiet (some 33) { dst := some 33, op := Op.nilCheck (Operand.tmp 32), type := _, pos := _, after := _, guard := some (2, false) } _ rfl rfl (by rfl) (fun wE hE => by (go_simp; try with_reducible rfl)) ?_ | refine wpS_pass (some 33) _ rfl rfl (by rfl) ?_); simp only [Act.put, List.setIfInBounds_toArray, List.set_cons_zero, List.set_cons_succ]
            (first | refine wpS_quiet (some 34) { dst := some 34, op := Op.fieldAddr 60 (Operand.tmp 33) 0, type := _, pos := _, after := _, guard := some (2, false) } _ rfl rfl (by rfl) (fun wE hE => by (go_simp; try with_reducible rfl)) ?_ | refine wpS_pass (some 34) _ rfl rfl (by rfl) ?_); simp only [Act.put, List.setIfInBounds_toArray, List.set_cons_zero, List.set_cons_succ]
            (first | refine wpS_quiet (some 35) { dst := some 35, op := Op.load 2 (Operand.tmp 34), type := _, pos := _, after := _, guard := some (2, false) } _ rfl rfl (by rfl) (fun wE hE => by (have zk0 := hE.cellS c0; have zk1 := hE.cellS c1; have zk2 := hE.cellS c2; have zk3 := hE.cellS s0; have zk4 := hE.cellS s1; have zk5 := hE.cellS s2; go_simp; try with_reducible rfl)) ?_ | refine wpS_pass (some 35) _ rfl rfl (by rfl) ?_); simp only [Act.put, List.setIfInBounds_toArray, List.set_cons_zero, List.set_cons_succ]
            (first | refine wpS_quiet (some 36) { dst := some 36, op := Op.binOp BinOp.neq 2 (Operand.tmp 31) (Operand.tmp 35) 2, type := _, pos := _, after := _, guard := some (2, false) } _ rfl rfl (by rfl) (fun wE hE => by (go_simp; try with_reducible rfl)) ?_ | refine wpS_pass (some 36) _ rfl rfl (by rfl) ?_); simp only [Act.put, List.setIfInBounds_toArray, List.set_cons_zero, List.set_cons_succ]
            refine wpS_quiet (some 37) { dst := some 37, op := Op.pick (Operand.tmp 27) (Operand.const (Value.bool true)) (Operand.tmp 36), type := _, pos := _, after := _, guard := none } _ rfl rfl (by rfl) (fun wE hE => by (go_simp; try with_reducible rfl)) ?_; simp only [Act.put, List.setIfInBounds_toArray, List.set_cons_zero, List.set_cons_succ]
            refine wpS_quiet (some 38) { dst := some 38, op := Op.move (Operand.tmp 37), type := _, pos := _, after := _, guard := none } _ rfl rfl (by rfl) (fun wE hE => by (go_simp; try with_reducible rfl)) ?_; simp only [Act.put, List.setIfInBounds_toArray, List.set_cons_zero, List.set_cons_succ]
            (first | refine wpS_quiet (some 39) { dst := some 39, op := Op.move (Operand.tmp 3), type := _, pos := _, after := _, guard := some (13, false) } _ rfl rfl (by rfl) (fun wE hE => by (go_simp; try with_reducible rfl)) ?_ | refine wpS_pass (some 39) _ rfl rfl (by rfl) ?_); simp only [Act.put, List.setIfInBounds_toArray, List.set_cons_zero, List.set_cons_succ]
            (first | refine wpS_quiet (some 40) { dst := some 40, op := Op.nilCheck (Operand.tmp 39), type := _, pos := _, after := _, guard := some (13, false) } _ rfl rfl (by rfl) (fun wE hE => by (go_simp; try with_reducible rfl)) ?_ | refine wpS_pass (some 40) _ rfl rfl (by rfl) ?_); simp only [Act.put, List.setIfInBounds_toArray, List.set_cons_zero, List.set_cons_succ]
            (first | refine wpS_quiet (some 41) { dst := some 41, op := Op.fieldAddr 60 (Operand.tmp 40) 1, type := _, pos := _, after := _, guard := some (13, false) } _ rfl rfl (by rfl) (fun wE hE => by (go_simp; try with_reducible rfl)) ?_ | refine wpS_pass (some 41) _ rfl rfl (by rfl) ?_); simp only [Act.put, List.setIfInBounds_toArray, List.set_cons_zero, List.set_cons_succ]
            (first | refine wpS_quiet (some 42) { dst := some 42, op := Op.load 2 (Operand.tmp 41), type := _, pos := _, after := _, guard := some (13, false) } _ rfl rfl (by rfl) (fun wE hE => by (have zk0 := hE.cellS c0; have zk1 := hE.cellS c1; have zk2 := hE.cellS c2; have zk3 := hE.cellS s0; have zk4 := hE.cellS s1; have zk5 := hE.cellS s2; go_simp; try with_reducible rfl)) ?_ | refine wpS_pass (some 42) _ rfl rfl (by rfl) ?_); simp only [Act.put, List.setIfInBounds_toArray, List.set_cons_zero, List.set_cons_succ]
            (first | refine wpS_quiet (some 43) { dst := some 43, op := Op.move (Operand.tmp 2), type := _, pos := _, after := _, guard := some (13, false) } _ rfl rfl (by rfl) (fun wE hE => by (go_simp; try with_reducible rfl)) ?_ | refine wpS_pass (some 43) _ rfl rfl (by rfl) ?_); simp only [Act.put, List.setIfInBounds_toArray, List.set_cons_zero, List.set_cons_succ]
            (first | refine wpS_quiet (some 44) { dst := some 44, op := Op.nilCheck (Operand.tmp 43), type := _, pos := _, after := _, guard := some (13, false) } _ rfl rfl (by rfl) (fun wE hE => by (go_simp; try with_reducible rfl)) ?_ | refine wpS_pass (some 44) _ rfl rfl (by rfl) ?_); simp only [Act.put, List.setIfInBounds_toArray, List.set_cons_zero, List.set_cons_succ]
            (first | refine wpS_quiet (some 45) { dst := some 45, op := Op.fieldAddr 60 (Operand.tmp 44) 1, type := _, pos := _, after := _, guard := some (13, false) } _ rfl rfl (by rfl) (fun wE hE => by (go_simp; try with_reducible rfl)) ?_ | refine wpS_pass (some 45) _ rfl rfl (by rfl) ?_); simp only [Act.put, List.setIfInBounds_toArray, List.set_cons_zero, List.set_cons_succ]
            (first | refine wpS_quiet (some 46) { dst := some 46, op := Op.load 2 (Operand.tmp 45), type := _, pos := _, after := _, guard := some (13, false) } _ rfl rfl (by rfl) (fun wE hE => by (have zk0 := hE.cellS c0; have zk1 := hE.cellS c1; have zk2 := hE.cellS c2; have zk3 := hE.cellS s0; have zk4 := hE.cellS s1; have zk5 := hE.cellS s2; go_simp; try with_reducible rfl)) ?_ | refine wpS_pass (some 46) _ rfl rfl (by rfl) ?_); simp only [Act.put, List.setIfInBounds_toArray, List.set_cons_zero, List.set_cons_succ]
            (first | refine wpS_quiet (some 47) { dst := some 47, op := Op.binOp BinOp.neq 2 (Operand.tmp 42) (Operand.tmp 46) 2, type := _, pos := _, after := _, guard := some (13, false) } _ rfl rfl (by rfl) (fun wE hE => by (go_simp; try with_reducible rfl)) ?_ | refine wpS_pass (some 47) _ rfl rfl (by rfl) ?_); simp only [Act.put, List.setIfInBounds_toArray, List.set_cons_zero, List.set_cons_succ]
            refine wpS_quiet (some 48) { dst := some 48, op := Op.pick (Operand.tmp 38) (Operand.const (Value.bool true)) (Operand.tmp 47), type := _, pos := _, after := _, guard := none } _ rfl rfl (by rfl) (fun wE hE => by (go_simp; try with_reducible rfl)) ?_; simp only [Act.put, List.setIfInBounds_toArray, List.set_cons_zero, List.set_cons_succ]
            change Exit.then _ _ _ _ _
            go_wp2
            go_end0
            refine ⟨rfl, ?_, E13.toX _⟩
            rw [hset.out]
            exact HG.out.ext E13
          · have hb2 : (sv.mnr != cv.mnr) = true := by simpa using hq2
            replace hq2 := Lib.hid hq2
            have hset : Hid (storageD (verOfD g.cluster) (verOfD g.storage) = some (base cv)) := Lib.hid (by
              rw [hcv.out, hsv.out]; simp [storageD, h3.out, hq1.out, hq2.out])
            go_wp2_with fail
            refine wp_region_sched (ops := ops_30_3) Ext [] (.quiet 0 (.quiet 1 (.quiet 2 (.quiet 3 (.quiet 4 (.quiet 5 (.quiet 6 (.quiet 7 (.quiet 8 (.quiet 9 (.quiet 10 (.quiet 11 (.quiet 12 (.quiet 13 (.quiet 14 (.quiet 15 (.quiet 16 (.quiet 17 (.quiet 18 (.quiet 19 (.quiet 20 (.quiet 21 (.quiet 22 (.quiet 23 (.done))))))))))))))))))))))))) (by kernel_rfl) ext_refl ext_trans (by kernel_rfl) (fun _ _ d _ _ h => by cases d <;> exact h) ?_
            refine wpS_quiet (some 25) { dst := some 25, op := Op.move (Operand.tmp 3), type := _, pos := _, after := _, guard := none } _ rfl rfl (by rfl) (fun wE hE => by (go_simp; try with_reducible rfl)) ?_; simp only [Act.put, List.setIfInBounds_toArray, List.set_cons_zero, List.set_cons_succ]
            refine wpS_quiet (some 26) { dst := some 26, op := Op.binOp BinOp.eql 68 (Operand.tmp 25) (Operand.const (Value.pointer none)) 68, type := _, pos := _, after := _, guard := none } _ rfl rfl (by rfl) (fun wE hE => by (go_simp; try with_reducible rfl)) ?_; simp only [Act.put, List.setIfInBounds_toArray, List.set_cons_zero, List.set_cons_succ]
            refine wpS_quiet (some 27) { dst := some 27, op := Op.move (Operand.tmp 26), type := _, pos := _, after := _, guard := none } _ rfl rfl (by rfl) (fun wE hE => by (go_simp; try with_reducible rfl)) ?_; simp only [Act.put, List.setIfInBounds_toArray, List.set_cons_zero, List.set_cons_succ]
            (first | refine wpS_quiet (some 28) { dst := some 28, op := Op.move (Operand.tmp 3), type := _, pos := _, after := _, guard := some (2, false) } _ rfl rfl (by rfl) (fun wE hE => by (go_simp; try with_reducible rfl)) ?_ | refine wpS_pass (some 28) _ rfl rfl (by rfl) ?_); simp only [Act.put, List.setIfInBounds_toArray, List.set_cons_zero, List.set_cons_succ]
            (first | refine wpS_quiet (some 29) { dst := some 29, op := Op.nilCheck (Operand.tmp 28), type := _, pos := _, after := _, guard := some (2, false) } _ rfl rfl (by rfl) (fun wE hE => by (go_simp; try with_reducible rfl)) ?_ | refine wpS_pass (some 29) _ rfl rfl (by rfl) ?_); simp only [Act.put, List.setIfInBounds_toArray, List.set_cons_zero, List.set_cons_succ]
            (first | refine wpS_quiet (some 30) { dst := some 30, op := Op.fieldAddr 60 (Operand.tmp 29) 0, type := _, pos := _, after := _, guard := some (2, false) } _ rfl rfl (by rfl) (fun wE hE => by (go_simp; try with_reducible rfl)) ?_ | refine wpS_pass (some 30) _ rfl rfl (by rfl) ?_); simp only [Act.put, List.setIfInBounds_toArray, List.set_cons_zero, List.set_cons_succ]
            (first | refine wpS_quiet (some 31) { dst := some 31, op := Op.load 2 (Operand.tmp 30), type := _, pos := _, after := _, guard := some (2, false) } _ rfl rfl (by rfl) (fun wE hE => by (have zk0 := hE.cellS c0; have zk1 := hE.cellS c1; have zk2 := hE.cellS c2; have zk3 := hE.cellS s0; have zk4 := hE.cellS s1; have zk5 := hE.cellS s2; go_simp; try with_reducible rfl)) ?_ | refine wpS_pass (some 31) _ rfl rfl (by rfl) ?_); simp only [Act.put, List.setIfInBounds_toArray, List.set_cons_zero, List.set_cons_succ]
            (first | refine wpS_quiet (some 32) { dst := some 32, op := Op.move (Operand.tmp 2), type := _, pos := _, after := _, guard := some (2, false) } _ rfl rfl (by rfl) (fun wE hE => by (go_simp; try with_reducible rfl)) ?_ | refine wpS_pass (some 32) _ rfl rfl (by rfl) ?_); simp only [Act.put, List.setIfInBounds_toArray, List.set_cons_zero, List.set_cons_succ]
            (first | refine wpS_quiet (some 33) { dst := some 33, op := Op.nilCheck (Operand.tmp 32), type := _, pos := _, after := _, guard := some (2, false) } _ rfl rfl (by rfl) (fun wE hE => by (go_simp; try with_reducible rfl)) ?_ | refine wpS_pass (some 33) _ rfl rfl (by rfl) ?_); simp only [Act.put, List.setIfInBounds_toArray, List.set_cons_zero, List.set_cons_succ]
            (first | refine wpS_quiet (some 34) { dst := some 34, op := Op.fieldAddr 60 (Operand.tmp 33) 0, type := _, pos := _, after := _, guard := some (2, false) } _ rfl rfl (by rfl) (fun wE hE => by (go_simp; try with_reducible rfl)) ?_ | refine wpS_pass (some 34) _ rfl rfl (by rfl) ?_); simp only [Act.put, List.setIfInBounds_toArray, List.set_cons_zero, List.set_cons_succ]
            (first | refine wpS_quiet (some 35) { dst := some 35, op := Op.load 2 (Operand.tmp 34), type := _, pos := _, after := _, guard := some (2, false) } _ rfl rfl (by rfl) (fun wE hE => by (have zk0 := hE.cellS c0; have zk1 := hE.cellS c1; have zk2 := hE.cellS c2; have zk3 := hE.cellS s0; have zk4 := hE.cellS s1; have zk5 := hE.cellS s2; go_simp; try with_reducible rfl)) ?_ | refine wpS_pass (some 35) _ rfl rfl (by rfl) ?_); simp only [Act.put, List.setIfInBounds_toArray, List.set_cons_zero, List.set_cons_succ]
            (first | refine wpS_quiet (some 36) { dst := some 36, op := Op.binOp BinOp.neq 2 (Operand.tmp 31) (Operand.tmp 35) 2, type := _, pos := _, after := _, guard := some (2, false) } _ rfl rfl (by rfl) (fun wE hE => by (go_simp; try with_reducible rfl)) ?_ | refine wpS_pass (some 36) _ rfl rfl (by rfl) ?_); simp only [Act.put, List.setIfInBounds_toArray, List.set_cons_zero, List.set_cons_succ]
            refine wpS_quiet (some 37) { dst := some 37, op := Op.pick (Operand.tmp 27) (Operand.const (Value.bool true)) (Operand.tmp 36), type := _, pos := _, after := _, guard := none } _ rfl rfl (by rfl) (fun wE hE => by (go_simp; try with_reducible rfl)) ?_; simp only [Act.put, List.setIfInBounds_toArray, List.set_cons_zero, List.set_cons_succ]
            refine wpS_quiet (some 38) { dst := some 38, op := Op.move (Operand.tmp 37), type := _, pos := _, after := _, guard := none } _ rfl rfl (by rfl) (fun wE hE => by (go_simp; try with_reducible rfl)) ?_; simp only [Act.put, List.setIfInBounds_toArray, List.set_cons_zero, List.set_cons_succ]
            (first | refine wpS_quiet (some 39) { dst := some 39, op := Op.move (Operand.tmp 3), type := _, pos := _, after := _, guard := some (13, false) } _ rfl rfl (by rfl) (fun wE hE => by (go_simp; try with_reducible rfl)) ?_ | refine wpS_pass (some 39) _ rfl rfl (by rfl) ?_); simp only [Act.put, List.setIfInBounds_toArray, List.set_cons_zero, List.set_cons_succ]
            (first | refine wpS_quiet (some 40) { dst := some 40, op := Op.nilCheck (Operand.tmp 39), type := _, pos := _, after := _, guard := some (13, false) } _ rfl rfl (by rfl) (fun wE hE => by (go_simp; try with_reducible rfl)) ?_ | refine wpS_pass (some 40) _ rfl rfl (by rfl) ?_); simp only [Act.put, List.setIfInBounds_toArray, List.set_cons_zero, List.set_cons_succ]
            (first | refine wpS_quiet (some 41) { dst := some 41, op := Op.fieldAddr 60 (Operand.tmp 40) 1, type := _, pos := _, after := _, guard := some (13, false) } _ rfl rfl (by rfl) (fun wE hE => by (go_simp; try with_reducible rfl)) ?_ | refine wpS_pass (some 41) _ rfl rfl (by rfl) ?_); simp only [Act.put, List.setIfInBounds_toArray, List.set_cons_zero, List.set_cons_succ]
            (first | refine wpS_quiet (some 42) { dst := some 42, op := Op.load 2 (Operand.tmp 41), type := _, pos := _, after := _, guard := some (13, false) } _ rfl rfl (by rfl) (fun wE hE => by (have zk0 := hE.cellS c0; have zk1 := hE.cellS c1; have zk2 := hE.cellS c2; have zk3 := hE.cellS s0; have zk4 := hE.cellS s1; have zk5 := hE.cellS s2; go_simp; try with_reducible rfl)) ?_ | refine wpS_pass (some 42) _ rfl rfl (by rfl) ?_); simp only [Act.put, List.setIfInBounds_toArray, List.set_cons_zero, List.set_cons_succ]
            (first | refine wpS_quiet (some 43) { dst := some 43, op := Op.move (Operand.tmp 2), type := _, pos := _, after := _, guard := some (13, false) } _ rfl rfl (by rfl) (fun wE hE => by (go_simp; try with_reducible rfl)) ?_ | refine wpS_pass (some 43) _ rfl rfl (by rfl) ?_); simp only [Act.put, List.setIfInBounds_toArray, List.set_cons_zero, List.set_cons_succ]
            (first | refine wpS_quiet (some 44) { dst := some 44, op := Op.nilCheck (Operand.tmp 43), type := _, pos := _, after := _, guard := some (13, false) } _ rfl rfl (by rfl) (fun wE hE => by (go_simp; try with_reducible rfl)) ?_ | refine wpS_pass (some 44) _ rfl rfl (by rfl) ?_); simp only [Act.put, List.setIfInBounds_toArray, List.set_cons_zero, List.set_cons_succ]
            (first | refine wpS_quiet (some 45) { dst := some 45, op := Op.fieldAddr 60 (Operand.tmp 44) 1, type := _, pos := _, after := _, guard := some (13, false) } _ rfl rfl (by rfl) (fun wE hE => by (go_simp; try with_reducible rfl)) ?_ | refine wpS_pass (some 45) _ rfl rfl (by rfl) ?_); simp only [Act.put, List.setIfInBounds_toArray, List.set_cons_zero, List.set_cons_succ]
            (first | refine wpS_quiet (some 46) { dst := some 46, op := Op.load 2 (Operand.tmp 45), type := _, pos := _, after := _, guard := some (13, false) } _ rfl rfl (by rfl) (fun wE hE => by (have zk0 := hE.cellS c0; have zk1 := hE.cellS c1; have zk2 := hE.cellS c2; have zk3 := hE.cellS s0; have zk4 := hE.cellS s1; have zk5 := hE.cellS s2; go_simp; try with_reducible rfl)) ?_ | refine wpS_pass (some 46) _ rfl rfl (by rfl) ?_); simp only [Act.put, List.setIfInBounds_toArray, List.set_cons_zero, List.set_cons_succ]
            (first | refine wpS_quiet (some 47) { dst := some 47, op := Op.binOp BinOp.neq 2 (Operand.tmp 42) (Operand.tmp 46) 2, type := _, pos := _, after := _, guard := some (13, false) } _ rfl rfl (by rfl) (fun wE hE => by (go_simp; try with_reducible rfl)) ?_ | refine wpS_pass (some 47) _ rfl rfl (by rfl) ?_); simp only [Act.put, List.setIfInBounds_toArray, List.set_cons_zero, List.set_cons_succ]
            refine wpS_quiet (some 48) { dst := some 48, op := Op.pick (Operand.tmp 38) (Operand.const (Value.bool true)) (Operand.tmp 47), type := _, pos := _, after := _, guard := none } _ rfl rfl (by rfl) (fun wE hE => by (go_simp; try with_reducible rfl)) ?_; simp only [Act.put, List.setIfInBounds_toArray, List.set_cons_zero, List.set_cons_succ]
            change Exit.then _ _ _ _ _
            go_wp2_with fail
            have GG3 := Lib.hid (HG.out.ext E13)
            have HW3 := Lib.hid (HW.out.ext E13)
            have hcb : cc ≠ b := by omega
            have hna : ∀ w : World, (nilAhead 262 47 (.pointer (some ⟨b, 0, none⟩)) "UpdateStorageVersion").run Tryz.prog w = .ok (some false) w := fun _ => by kernel_rfl
            have hme : ∀ w : World, (method 262 47 (.pointer (some ⟨b, 0, none⟩)) "UpdateStorageVersion").run Tryz.prog w = .ok (110, .pointer (some ⟨b, 0, none⟩)) w := fun _ => by kernel_rfl
            refine wp_region_sched (ops := ops_30_5) (ExtX (fun k => k = b)) [] (.quiet 0 (.quiet 1 (.quiet 2 (.quiet 3 (.quiet 4 (.quiet 5 (.quiet 6 (.quiet 7 (.quiet 8 (.quiet 9 (.quiet 10 (.quiet 11 (.quiet 12 (.quiet 13 (.quiet 14 (.loud 15 (.quiet 16 (.done)) (.stop))))))))))))))))) (by kernel_rfl) (ExtX.refl (fun k => k = b)) (fun _ _ _ => ExtX.trans) (by kernel_rfl) (fun _ _ d _ _ h => by cases d <;> exact h) ?_
            refine wpS_quiet (some 51) { dst := some 51, op := Op.move (Operand.tmp 0), type := _, pos := _, after := _, guard := none } _ rfl rfl (by rfl) (fun wE hE => by (go_simp; try with_reducible rfl)) ?_; simp only [Act.put, List.setIfInBounds_toArray, List.set_cons_zero, List.set_cons_succ]
            refine wpS_quiet (some 52) { dst := some 52, op := Op.nilCheck (Operand.tmp 51), type := _, pos := _, after := _, guard := none } _ rfl rfl (by rfl) (fun wE hE => by (go_simp; try with_reducible rfl)) ?_; simp only [Act.put, List.setIfInBounds_toArray, List.set_cons_zero, List.set_cons_succ]
            refine wpS_quiet (some 53) { dst := some 53, op := Op.fieldAddr 75 (Operand.tmp 52) 1, type := _, pos := _, after := _, guard := none } _ rfl rfl (by rfl) (fun wE hE => by (go_simp; try with_reducible rfl)) ?_; simp only [Act.put, List.setIfInBounds_toArray, List.set_cons_zero, List.set_cons_succ]
            refine wpS_quiet (some 54) { dst := some 54, op := Op.load 73 (Operand.tmp 53), type := _, pos := _, after := _, guard := none } _ rfl rfl (by rfl) (fun wE hE => by (have zk0 := hE.cellS (by show ¬ (_ = b); simp only []; omega) g1; have zk1 := hE.cellS (by show ¬ (_ = b); simp only []; omega) c0; have zk2 := hE.cellS (by show ¬ (_ = b); simp only []; omega) c1; have zk3 := hE.cellS (by show ¬ (_ = b); simp only []; omega) c2; go_simp; try with_reducible rfl)) ?_; simp only [Act.put, List.setIfInBounds_toArray, List.set_cons_zero, List.set_cons_succ]
            refine wpS_quiet (some 55) { dst := some 55, op := Op.move (Operand.tmp 2), type := _, pos := _, after := _, guard := none } _ rfl rfl (by rfl) (fun wE hE => by (go_simp; try with_reducible rfl)) ?_; simp only [Act.put, List.setIfInBounds_toArray, List.set_cons_zero, List.set_cons_succ]
            refine wpS_quiet (some 56) { dst := some 56, op := Op.nilCheck (Operand.tmp 55), type := _, pos := _, after := _, guard := none } _ rfl rfl (by rfl) (fun wE hE => by (go_simp; try with_reducible rfl)) ?_; simp only [Act.put, List.setIfInBounds_toArray, List.set_cons_zero, List.set_cons_succ]
            refine wpS_quiet (some 57) { dst := some 57, op := Op.fieldAddr 60 (Operand.tmp 56) 0, type := _, pos := _, after := _, guard := none } _ rfl rfl (by rfl) (fun wE hE => by (go_simp; try with_reducible rfl)) ?_; simp only [Act.put, List.setIfInBounds_toArray, List.set_cons_zero, List.set_cons_succ]
            refine wpS_quiet (some 58) { dst := some 58, op := Op.load 2 (Operand.tmp 57), type := _, pos := _, after := _, guard := none } _ rfl rfl (by rfl) (fun wE hE => by (have zk0 := hE.cellS (by show ¬ (_ = b); simp only []; omega) g1; have zk1 := hE.cellS (by show ¬ (_ = b); simp only []; omega) c0; have zk2 := hE.cellS (by show ¬ (_ = b); simp only []; omega) c1; have zk3 := hE.cellS (by show ¬ (_ = b); simp only []; omega) c2; go_simp; try with_reducible rfl)) ?_; simp only [Act.put, List.setIfInBounds_toArray, List.set_cons_zero, List.set_cons_succ]
            refine wpS_quiet (some 59) { dst := some 59, op := Op.move (Operand.tmp 2), type := _, pos := _, after := _, guard := none } _ rfl rfl (by rfl) (fun wE hE => by (go_simp; try with_reducible rfl)) ?_; simp only [Act.put, List.setIfInBounds_toArray, List.set_cons_zero, List.set_cons_succ]
            refine wpS_quiet (some 60) { dst := some 60, op := Op.nilCheck (Operand.tmp 59), type := _, pos := _, after := _, guard := none } _ rfl rfl (by rfl) (fun wE hE => by (go_simp; try with_reducible rfl)) ?_; simp only [Act.put, List.setIfInBounds_toArray, List.set_cons_zero, List.set_cons_succ]
            refine wpS_quiet (some 61) { dst := some 61, op := Op.fieldAddr 60 (Operand.tmp 60) 1, type := _, pos := _, after := _, guard := none } _ rfl rfl (by rfl) (fun wE hE => by (go_simp; try with_reducible rfl)) ?_; simp only [Act.put, List.setIfInBounds_toArray, List.set_cons_zero, List.set_cons_succ]
            refine wpS_quiet (some 62) { dst := some 62, op := Op.load 2 (Operand.tmp 61), type := _, pos := _, after := _, guard := none } _ rfl rfl (by rfl) (fun wE hE => by (have zk0 := hE.cellS (by show ¬ (_ = b); simp only []; omega) g1; have zk1 := hE.cellS (by show ¬ (_ = b); simp only []; omega) c0; have zk2 := hE.cellS (by show ¬ (_ = b); simp only []; omega) c1; have zk3 := hE.cellS (by show ¬ (_ = b); simp only []; omega) c2; go_simp; try with_reducible rfl)) ?_; simp only [Act.put, List.setIfInBounds_toArray, List.set_cons_zero, List.set_cons_succ]
            refine wpS_quiet (some 63) { dst := some 63, op := Op.build 60 #[(0, Operand.tmp 58), (1, Operand.tmp 62)], type := _, pos := _, after := _, guard := none } _ rfl rfl (by rfl) (fun wE hE => by (go_simp; try with_reducible rfl)) ?_; simp only [Act.put, List.setIfInBounds_toArray, List.set_cons_zero, List.set_cons_succ]
            refine wpS_quiet (some 64) { dst := some 64, op := Op.nilCheck (Operand.tmp 54), type := _, pos := _, after := _, guard := none } _ rfl rfl (by rfl) (fun wE hE => by (go_simp; try with_reducible rfl)) ?_; simp only [Act.put, List.setIfInBounds_toArray, List.set_cons_zero, List.set_cons_succ]
            refine wpS_quiet (some 65) { dst := some 65, op := Op.move (Operand.tmp 54), type := _, pos := _, after := _, guard := none } _ rfl rfl (by rfl) (fun wE hE => by (go_simp; try with_reducible rfl)) ?_; simp only [Act.put, List.setIfInBounds_toArray, List.set_cons_zero, List.set_cons_succ]
            refine wpS_call (some 66) { dst := some 66, op := Op.call { callee := Callee.invoke (Operand.tmp 65) "UpdateStorageVersion", args := #[Operand.tmp 63], argTypes := #[60] }, type := _, pos := _, after := _, guard := none } _ _ rfl rfl (by rfl) (by go_simp; try first | with_reducible rfl | exact ⟨rfl, rfl⟩) ?_
            refine (updStorage_any (base cv) (base_ok HCOK.out) b g A n cap x _ GG3.out.drew.drew (HW3.out.ext (Ext.refl _).drew.drew)).mono ?_; rintro e w4 ⟨rfl, G4, e4⟩; refine ⟨_, rfl, e4, ?_⟩; simp only [Act.put, List.setIfInBounds_toArray, List.set_cons_zero, List.set_cons_succ]
            refine wpS_quiet (some 4) { dst := some 4, op := Op.assign (Operand.tmp 66), type := _, pos := _, after := _, guard := none } _ rfl rfl (by rfl) (fun wE hE => by (go_simp; try with_reducible rfl)) ?_; simp only [Act.put, List.setIfInBounds_toArray, List.set_cons_zero, List.set_cons_succ]
            change Exit.then _ _ _ _ _
            clear hna hme
            have E4 : ExtX (fun k => k = b) w3 w4 := e4.undrew.undrew
            have g1 := E4.cellS (by show ¬ (mb = b); exact hmb) g1
            go_wp2_with fail
            refine (getDown_any b g A n cap _ w4 G4).mono ?_
            intro e w5 hinfo
            rcases hinfo with ⟨hhd, rfl, E5⟩ | ⟨hhd, ib, rfl, hib, KI, E5⟩
            · clear hhd
              go_wp2
              all_goals
                go_end0
                refine ⟨rfl, ?_, ((E13.toX _).trans E4).trans (E5.toX _)⟩
                rw [hset.out]
                exact G4.ext E5
            · have k1 := KI.cell (o := 1) rfl
              clear hhd
              go_wp2
              all_goals
                go_end0
                refine ⟨rfl, ?_, ((E13.toX _).trans E4).trans (E5.toX _)⟩
                rw [hset.out]
                exact G4.ext E5
        · have hb1 : (sv.maj != cv.maj) = true := by simpa using hq1
          replace hq1 := Lib.hid hq1
          have hset : Hid (storageD (verOfD g.cluster) (verOfD g.storage) = some (base cv)) := Lib.hid (by
            rw [hcv.out, hsv.out]; simp [storageD, h3.out, hq1.out])
          go_wp2_with fail
          refine wp_region_sched (ops := ops_30_3) Ext [] (.quiet 0 (.quiet 1 (.quiet 2 (.quiet 3 (.quiet 4 (.quiet 5 (.quiet 6 (.quiet 7 (.quiet 8 (.quiet 9 (.quiet 10 (.quiet 11 (.quiet 12 (.quiet 13 (.quiet 14 (.quiet 15 (.quiet 16 (.quiet 17 (.quiet 18 (.quiet 19 (.quiet 20 (.quiet 21 (.quiet 22 (.quiet 23 (.done))))))))))))))))))))))))) (by kernel_rfl) ext_refl ext_trans (by kernel_rfl) (fun _ _ d _ _ h => by cases d <;> exact h) ?_
          refine wpS_quiet (some 25) { dst := some 25, op := Op.move (Operand.tmp 3), type := _, pos := _, after := _, guard := none } _ rfl rfl (by rfl) (fun wE hE => by (go_simp; try with_reducible rfl)) ?_; simp only [Act.put, List.setIfInBounds_toArray, List.set_cons_zero, List.set_cons_succ]
          refine wpS_quiet (some 26) { dst := some 26, op := Op.binOp BinOp.eql 68 (Operand.tmp 25) (Operand.const (Value.pointer none)) 68, type := _, pos := _, after := _, guard := none } _ rfl rfl (by rfl) (fun wE hE => by (go_simp; try with_reducible rfl)) ?_; simp only [Act.put, List.setIfInBounds_toArray, List.set_cons_zero, List.set_cons_succ]
          refine wpS_quiet (some 27) { dst := some 27, op := Op.move (Operand.tmp 26), type := _, pos := _, after := _, guard := none } _ rfl rfl (by rfl) (fun wE hE => by (go_simp; try with_reducible rfl)) ?_; simp only [Act.put, List.setIfInBounds_toArray, List.set_cons_zero, List.set_cons_succ]
          (first | refine wpS_quiet (some 28) { dst := some 28, op := Op.move (Operand.tmp 3), type := _, pos := _, after := _, guard := some (2, false) } _ rfl rfl (by rfl) (fun wE hE => by (go_simp; try with_reducible rfl)) ?_ | refine wpS_pass (some 28) _ rfl rfl (by rfl) ?_); simp only [Act.put, List.setIfInBounds_toArray, List.set_cons_zero, List.set_cons_succ]
          (first | refine wpS_quiet (some 29) { dst := some 29, op := Op.nilCheck (Operand.tmp 28), type := _, pos := _, after := _, guard := some (2, false) } _ rfl rfl (by rfl) (fun wE hE => by (go_simp; try with_reducible rfl)) ?_ | refine wpS_pass (some 29) _ rfl rfl (by rfl) ?_); simp only [Act.put, List.setIfInBounds_toArray, List.set_cons_zero, List.set_cons_succ]
          (first | refine wpS_quiet (some 30) { dst := some 30, op := Op.fieldAddr 60 (Operand.tmp 29) 0, type := _, pos := _, after := _, guard := some (2, false) } _ rfl rfl (by rfl) (fun wE hE => by (go_simp; try with_reducible rfl)) ?_ | refine wpS_pass (some 30) _ rfl rfl (by rfl) ?_); simp only [Act.put, List.setIfInBounds_toArray, List.set_cons_zero, List.set_cons_succ]
          (first | refine wpS_quiet (some 31) { dst := some 31, op := Op.load 2 (Operand.tmp 30), type := _, pos := _, after := _, guard := some (2, false) } _ rfl rfl (by rfl) (fun wE hE => by (have zk0 := hE.cellS c0; have zk1 := hE.cellS c1; have zk2 := hE.cellS c2; have zk3 := hE.cellS s0; have zk4 := hE.cellS s1; have zk5 := hE.cellS s2; go_simp; try with_reducible rfl)) ?_ | refine wpS_pass (some 31) _ rfl rfl (by rfl) ?_); simp only [Act.put, List.setIfInBounds_toArray, List.set_cons_zero, List.set_cons_succ]
          (first | refine wpS_quiet (some 32) { dst := some 32, op := Op.move (Operand.tmp 2), type := _, pos := _, after := _, guard := some (2, false) } _ rfl rfl (by rfl) (fun wE hE => by (go_simp; try with_reducible rfl)) ?_ | refine wpS_pass (some 32) _ rfl rfl (by rfl) ?_); simp only [Act.put, List.setIfInBounds_toArray, List.set_cons_zero, List.set_cons_succ]
          (first | refine wpS_quiet (some 33) { dst := some 33, op := Op.nilCheck (Operand.tmp 32), type := _, pos := _, after := _, guard := some (2, false) } _ rfl rfl (by rfl) (fun wE hE => by (go_simp; try with_reducible rfl)) ?_ | refine wpS_pass (some 33) _ rfl rfl (by rfl) ?_); simp only [Act.put, List.setIfInBounds_toArray, List.set_cons_zero, List.set_cons_succ]
          (first | refine wpS_quiet (some 34) { dst := some 34, op := Op.fieldAddr 60 (Operand.tmp 33) 0, type := _, pos := _, after := _, guard := some (2, false) } _ rfl rfl (by rfl) (fun wE hE => by (go_simp; try with_reducible rfl)) ?_ | refine wpS_pass (some 34) _ rfl rfl (by rfl) ?_); simp only [Act.put, List.setIfInBounds_toArray, List.set_cons_zero, List.set_cons_succ]
          (first | refine wpS_quiet (some 35) { dst := some 35, op := Op.load 2 (Operand.tmp 34), type := _, pos := _, after := _, guard := some (2, false) } _ rfl rfl (by rfl) (fun wE hE => by (have zk0 := hE.cellS c0; have zk1 := hE.cellS c1; have zk2 := hE.cellS c2; have zk3 := hE.cellS s0; have zk4 := hE.cellS s1; have zk5 := hE.cellS s2; go_simp; try with_reducible rfl)) ?_ | refine wpS_pass (some 35) _ rfl rfl (by rfl) ?_); simp only [Act.put, List.setIfInBounds_toArray, List.set_cons_zero, List.set_cons_succ]
          (first | refine wpS_quiet (some 36) { dst := some 36, op := Op.binOp BinOp.neq 2 (Operand.tmp 31) (Operand.tmp 35) 2, type := _, pos := _, after := _, guard := some (2, false) } _ rfl rfl (by rfl) (fun wE hE => by (go_simp; try with_reducible rfl)) ?_ | refine wpS_pass (some 36) _ rfl rfl (by rfl) ?_); simp only [Act.put, List.setIfInBounds_toArray, List.set_cons_zero, List.set_cons_succ]
          refine wpS_quiet (some 37) { dst := some 37, op := Op.pick (Operand.tmp 27) (Operand.const (Value.bool true)) (Operand.tmp 36), type := _, pos := _, after := _, guard := none } _ rfl rfl (by rfl) (fun wE hE => by (go_simp; try with_reducible rfl)) ?_; simp only [Act.put, List.setIfInBounds_toArray, List.set_cons_zero, List.set_cons_succ]
          refine wpS_quiet (some 38) { dst := some 38, op := Op.move (Operand.tmp 37), type := _, pos := _, after := _, guard := none } _ rfl rfl (by rfl) (fun wE hE => by (go_simp; try with_reducible rfl)) ?_; simp only [Act.put, List.setIfInBounds_toArray, List.set_cons_zero, List.set_cons_succ]
          (first | refine wpS_quiet (some 39) { dst := some 39, op := Op.move (Operand.tmp 3), type := _, pos := _, after := _, guard := some (13, false) } _ rfl rfl (by rfl) (fun wE hE => by (go_simp; try with_reducible rfl)) ?_ | refine wpS_pass (some 39) _ rfl rfl (by rfl) ?_); simp only [Act.put, List.setIfInBounds_toArray, List.set_cons_zero, List.set_cons_succ]
          (first | refine wpS_quiet (some 40) { dst := some 40, op := Op.nilCheck (Operand.tmp 39), type := _, pos := _, after := _, guard := some (13, false) } _ rfl rfl (by rfl) (fun wE hE => by (go_simp; try with_reducible rfl)) ?_ | refine wpS_pass (some 40) _ rfl rfl (by rfl) ?_); simp only [Act.put, List.setIfInBounds_toArray, List.set_cons_zero, List.set_cons_succ]
          (first | refine wpS_quiet (some 41) { dst := some 41, op := Op.fieldAddr 60 (Operand.tmp 40) 1, type := _, pos := _, after := _, guard := some (13, false) } _ rfl rfl (by rfl) (fun wE hE => by (go_simp; try with_reducible rfl)) ?_ | refine wpS_pass (some 41) _ rfl rfl (by rfl) ?_); simp only [Act.put, List.setIfInBounds_toArray, List.set_cons_zero, List.set_cons_succ]
          (first | refine wpS_quiet (some 42) { dst := some 42, op := Op.load 2 (Operand.tmp 41), type := _, pos := _, after := _, guard := some (13, false) } _ rfl rfl (by rfl) (fun wE hE => by (have zk0 := hE.cellS c0; have zk1 := hE.cellS c1; have zk2 := hE.cellS c2; have zk3 := hE.cellS s0; have zk4 := hE.cellS s1; have zk5 := hE.cellS s2; go_simp; try with_reducible rfl)) ?_ | refine wpS_pass (some 42) _ rfl rfl (by rfl) ?_); simp only [Act.put, List.setIfInBounds_toArray, List.set_cons_zero, List.set_cons_succ]
          (first | refine wpS_quiet (some 43) { dst := some 43, op := Op.move (Operand.tmp 2), type := _, pos := _, after := _, guard := some (13, false) } _ rfl rfl (by rfl) (fun wE hE => by (go_simp; try with_reducible rfl)) ?_ | refine wpS_pass (some 43) _ rfl rfl (by rfl) ?_); simp only [Act.put, List.setIfInBounds_toArray, List.set_cons_zero, List.set_cons_succ]
          (first | refine wpS_quiet (some 44) { dst := some 44, op := Op.nilCheck (Operand.tmp 43), type := _, pos := _, after := _, guard := some (13, false) } _ rfl rfl (by rfl) (fun wE hE => by (go_simp; try with_reducible rfl)) ?_ | refine wpS_pass (some 44) _ rfl rfl (by rfl) ?_); simp only [Act.put, List.setIfInBounds_toArray, List.set_cons_zero, List.set_cons_succ]
          (first | refine wpS_quiet (some 45) { dst := some 45, op := Op.fieldAddr 60 (Operand.tmp 44) 1, type := _, pos := _, after := _, guard := some (13, false) } _ rfl rfl (by rfl) (fun wE hE => by (go_simp; try with_reducible rfl)) ?_ | refine wpS_pass (some 45) _ rfl rfl (by rfl) ?_); simp only [Act.put, List.setIfInBounds_toArray, List.set_cons_zero, List.set_cons_succ]
          (first | refine wpS_quiet (some 46) { dst := some 46, op := Op.load 2 (Operand.tmp 45), type := _, pos := _, after := _, guard := some (13, false) } _ rfl rfl (by rfl) (fun wE hE => by (have zk0 := hE.cellS c0; have zk1 := hE.cellS c1; have zk2 := hE.cellS c2; have zk3 := hE.cellS s0; have zk4 := hE.cellS s1; have zk5 := hE.cellS s2; go_simp; try with_reducible rfl)) ?_ | refine wpS_pass (some 46) _ rfl rfl (by rfl) ?_); simp only [Act.put, List.setIfInBounds_toArray, List.set_cons_zero, List.set_cons_succ]
          (first | refine wpS_quiet (some 47) { dst := some 47, op := Op.binOp BinOp.neq 2 (Operand.tmp 42) (Operand.tmp 46) 2, type := _, pos := _, after := _, guard := some (13, false) } _ rfl rfl (by rfl) (fun wE hE => by (go_simp; try with_reducible rfl)) ?_ | refine wpS_pass (some 47) _ rfl rfl (by rfl) ?_); simp only [Act.put, List.setIfInBounds_toArray, List.set_cons_zero, List.set_cons_succ]
          refine wpS_quiet (some 48) { dst := some 48, op := Op.pick (Operand.tmp 38) (Operand.const (Value.bool true)) (Operand.tmp 47), type := _, pos := _, after := _, guard := none } _ rfl rfl (by rfl) (fun wE hE => by (go_simp; try with_reducible rfl)) ?_; simp only [Act.put, List.setIfInBounds_toArray, List.set_cons_zero, List.set_cons_succ]
          change Exit.then _ _ _ _ _
          go_wp2_with fail
          have GG3 := Lib.hid (HG.out.ext E13)
          have HW3 := Lib.hid (HW.out.ext E13)
          have hcb : cc ≠ b := by omega
          have hna : ∀ w : World, (nilAhead 262 47 (.pointer (some ⟨b, 0, none⟩)) "UpdateStorageVersion").run Tryz.prog w = .ok (some false) w := fun _ => by kernel_rfl
          have hme : ∀ w : World, (method 262 47 (.pointer (some ⟨b, 0, none⟩)) "UpdateStorageVersion").run Tryz.prog w = .ok (110, .pointer (some ⟨b, 0, none⟩)) w := fun _ => by kernel_rfl
          refine wp_region_sched (ops := ops_30_5) (ExtX (fun k => k = b)) [] (.quiet 0 (.quiet 1 (.quiet 2 (.quiet 3 (.quiet 4 (.quiet 5 (.quiet 6 (.quiet 7 (.quiet 8 (.quiet 9 (.quiet 10 (.quiet 11 (.quiet 12 (.quiet 13 (.quiet 14 (.loud 15 (.quiet 16 (.done)) (.stop))))))))))))))))) (by kernel_rfl) (ExtX.refl (fun k => k = b)) (fun _ _ _ => ExtX.trans) (by kernel_rfl) (fun _ _ d _ _ h => by cases d <;> exact h) ?_
          refine wpS_quiet (some 51) { dst := some 51, op := Op.move (Operand.tmp 0), type := _, pos := _, after := _, guard := none } _ rfl rfl (by rfl) (fun wE hE => by (go_simp; try with_reducible rfl)) ?_; simp only [Act.put, List.setIfInBounds_toArray, List.set_cons_zero, List.set_cons_succ]
          refine wpS_quiet (some 52) { dst := some 52, op := Op.nilCheck (Operand.tmp 51), type := _, pos := _, after := _, guard := none } _ rfl rfl (by rfl) (fun wE hE => by (go_simp; try with_reducible rfl)) ?_; simp only [Act.put, List.setIfInBounds_toArray, List.set_cons_zero, List.set_cons_succ]
          refine wpS_quiet (some 53) { dst := some 53, op := Op.fieldAddr 75 (Operand.tmp 52) 1, type := _, pos := _, after := _, guard := none } _ rfl rfl (by rfl) (fun wE hE => by (go_simp; try with_reducible rfl)) ?_; simp only [Act.put, List.setIfInBounds_toArray, List.set_cons_zero, List.set_cons_succ]
          refine wpS_quiet (some 54) { dst := some 54, op := Op.load 73 (Operand.tmp 53), type := _, pos := _, after := _, guard := none } _ rfl rfl (by rfl) (fun wE hE => by (have zk0 := hE.cellS (by show ¬ (_ = b); simp only []; omega) g1; have zk1 := hE.cellS (by show ¬ (_ = b); simp only []; omega) c0; have zk2 := hE.cellS (by show ¬ (_ = b); simp only []; omega) c1; have zk3 := hE.cellS (by show ¬ (_ = b); simp only []; omega) c2; go_simp; try with_reducible rfl)) ?_; simp only [Act.put, List.setIfInBounds_toArray, List.set_cons_zero, List.set_cons_succ]
          refine wpS_quiet (some 55) { dst := some 55, op := Op.move (Operand.tmp 2), type := _, pos := _, after := _, guard := none } _ rfl rfl (by rfl) (fun wE hE => by (go_simp; try with_reducible rfl)) ?_; simp only [Act.put, List.setIfInBounds_toArray, List.set_cons_zero, List.set_cons_succ]
          refine wpS_quiet (some 56) { dst := some 56, op := Op.nilCheck (Operand.tmp 55), type := _, pos := _, after := _, guard := none } _ rfl rfl (by rfl) (fun wE hE => by (go_simp; try with_reducible rfl)) ?_; simp only [Act.put, List.setIfInBounds_toArray, List.set_cons_zero, List.set_cons_succ]
          refine wpS_quiet (some 57) { dst := some 57, op := Op.fieldAddr 60 (Operand.tmp 56) 0, type := _, pos := _, after := _, guard := none } _ rfl rfl (by rfl) (fun wE hE => by (go_simp; try with_reducible rfl)) ?_; simp only [Act.put, List.setIfInBounds_toArray, List.set_cons_zero, List.set_cons_succ]
          refine wpS_quiet (some 58) { dst := some 58, op := Op.load 2 (Operand.tmp 57), type := _, pos := _, after := _, guard := none } _ rfl rfl (by rfl) (fun wE hE => by (have zk0 := hE.cellS (by show ¬ (_ = b); simp only []; omega) g1; have zk1 := hE.cellS (by show ¬ (_ = b); simp only []; omega) c0; have zk2 := hE.cellS (by show ¬ (_ = b); simp only []; omega) c1; have zk3 := hE.cellS (by show ¬ (_ = b); simp only []; omega) c2; go_simp; try with_reducible rfl)) ?_; simp only [Act.put, List.setIfInBounds_toArray, List.set_cons_zero, List.set_cons_succ]
          refine wpS_quiet (some 59) { dst := some 59, op := Op.move (Operand.tmp 2), type := _, pos := _, after := _, guard := none } _ rfl rfl (by rfl) (fun wE hE => by (go_simp; try with_reducible rfl)) ?_; simp only [Act.put, List.setIfInBounds_toArray, List.set_cons_zero, List.set_cons_succ]
          refine wpS_quiet (some 60) { dst := some 60, op := Op.nilCheck (Operand.tmp 59), type := _, pos := _, after := _, guard := none } _ rfl rfl (by rfl) (fun wE hE => by (go_simp; try with_reducible rfl)) ?_; simp only [Act.put, List.setIfInBounds_toArray, List.set_cons_zero, List.set_cons_succ]
          refine wpS_quiet (some 61) { dst := some 61, op := Op.fieldAddr 60 (Operand.tmp 60) 1, type := _, pos := _, after := _, guard := none } _ rfl rfl (by rfl) (fun wE hE => by (go_simp; try with_reducible rfl)) ?_; simp only [Act.put, List.setIfInBounds_toArray, List.set_cons_zero, List.set_cons_succ]
          refine wpS_quiet (some 62) { dst := some 62, op := Op.load 2 (Operand.tmp 61), type := _, pos := _, after := _, guard := none } _ rfl rfl (by rfl) (fun wE hE => by (have zk0 := hE.cellS (by show ¬ (_ = b); simp only []; omega) g1; have zk1 := hE.cellS (by show ¬ (_ = b); simp only []; omega) c0; have zk2 := hE.cellS (by show ¬ (_ = b); simp only []; omega) c1; have zk3 := hE.cellS (by show ¬ (_ = b); simp only []; omega) c2; go_simp; try with_reducible rfl)) ?_; simp only [Act.put, List.setIfInBounds_toArray, List.set_cons_zero, List.set_cons_succ]
          refine wpS_quiet (some 63) { dst := some 63, op := Op.build 60 #[(0, Operand.tmp 58), (1, Operand.tmp 62)], type := _, pos := _, after := _, guard := none } _ rfl rfl (by rfl) (fun wE hE => by (go_simp; try with_reducible rfl)) ?_; simp only [Act.put, List.setIfInBounds_toArray, List.set_cons_zero, List.set_cons_succ]
          refine wpS_quiet (some 64) { dst := some 64, op := Op.nilCheck (Operand.tmp 54), type := _, pos := _, after := _, guard := none } _ rfl rfl (by rfl) (fun wE hE => by (go_simp; try with_reducible rfl)) ?_; simp only [Act.put, List.setIfInBounds_toArray, List.set_cons_zero, List.set_cons_succ]
          refine wpS_quiet (some 65) { dst := some 65, op := Op.move (Operand.tmp 54), type := _, pos := _, after := _, guard := none } _ rfl rfl (by rfl) (fun wE hE => by (go_simp; try with_reducible rfl)) ?_; simp only [Act.put, List.setIfInBounds_toArray, List.set_cons_zero, List.set_cons_succ]
          refine wpS_call (some 66) { dst := some 66, op := Op.call { callee := Callee.invoke (Operand.tmp 65) "UpdateStorageVersion", args := #[Operand.tmp 63], argTypes := #[60] }, type := _, pos := _, after := _, guard := none } _ _ rfl rfl (by rfl) (by go_simp; try first | with_reducible rfl | exact ⟨rfl, rfl⟩) ?_
          refine (updStorage_any (base cv) (base_ok HCOK.out) b g A n cap x _ GG3.out.drew.drew (HW3.out.ext (Ext.refl _).drew.drew)).mono ?_; rintro e w4 ⟨rfl, G4, e4⟩; refine ⟨_, rfl, e4, ?_⟩; simp only [Act.put, List.setIfInBounds_toArray, List.set_cons_zero, List.set_cons_succ]
          refine wpS_quiet (some 4) { dst := some 4, op := Op.assign (Operand.tmp 66), type := _, pos := _, after := _, guard := none } _ rfl rfl (by rfl) (fun wE hE => by (go_simp; try with_reducible rfl)) ?_; simp only [Act.put, List.setIfInBounds_toArray, List.set_cons_zero, List.set_cons_succ]
          change Exit.then _ _ _ _ _
          clear hna hme
          have E4 : ExtX (fun k => k = b) w3 w4 := e4.undrew.undrew
          have g1 := E4.cellS (by show ¬ (mb = b); exact hmb) g1
          go_wp2_with fail
          refine (getDown_any b g A n cap _ w4 G4).mono ?_
          intro e w5 hinfo
          rcases hinfo with ⟨hhd, rfl, E5⟩ | ⟨hhd, ib, rfl, hib, KI, E5⟩
          · clear hhd
            go_wp2
            all_goals
              go_end0
              refine ⟨rfl, ?_, ((E13.toX _).trans E4).trans (E5.toX _)⟩
              rw [hset.out]
              exact G4.ext E5
          · have k1 := KI.cell (o := 1) rfl
            clear hhd
            go_wp2
            all_goals
              go_end0
              refine ⟨rfl, ?_, ((E13.toX _).trans E4).trans (E5.toX _)⟩
              rw [hset.out]
              exact G4.ext E5
end Go.Proofs.YtdokcengcekfgaaGreatDoor
