/-
  A downgrade's end (Monitor.versionsMatchTarget, CancelDowngradeIfNeeded, impl.DecideCancel).
-/
import Derived.Test.YtdokcengcekfgaaGreatDoorImpl
namespace Go.Proofs.YtdokcengcekfgaaGreatDoor
open Go.RowKit Go.Maps Go.WideMaps
set_option linter.unusedSimpArgs false
set_option linter.unusedVariables false

def okFor (t : VD) : Option VD → Bool
  | some v => veqV (base t) (base v)
  | none => false
def matchD (ms : List (Option VD)) (t : VD) : Bool := ms.all (okFor t)
def MatchSo (ms : List ByteArray) (left : Lit → Bool) (t : VD) : Prop := ∀ (j : Nat) (m : ByteArray), ms[j]? = some m → left (kl j) = false → okFor t (verOfD m) = true
theorem MatchSo.done {ms : List ByteArray} {left : Lit → Bool} {t : VD} (h : MatchSo ms left t) (hl : ∀ z, left z = false) : matchD (ms.map verOfD) t = true := by
  unfold matchD
  rw [List.all_eq_true]
  intro x hx
  obtain ⟨m, hm, rfl⟩ := List.mem_map.1 hx
  obtain ⟨j, hj⟩ := List.getElem?_of_mem hm
  exact h j m hj (hl _)
theorem match_no {ms : List ByteArray} {k : Nat} {m : ByteArray} {t : VD} (hm : ms[k]? = some m) (h : okFor t (verOfD m) = false) : matchD (ms.map verOfD) t = false := by
  unfold matchD
  rw [List.all_eq_false]
  exact ⟨verOfD m, List.mem_map.2 ⟨m, List.mem_of_getElem? hm, rfl⟩, by rw [h]; simp⟩
theorem MatchSo.step {ms : List ByteArray} {left : Lit → Bool} {t : VD} {k : Nat} {m : ByteArray} (h : MatchSo ms left t) (hm : ms[k]? = some m) (hk : okFor t (verOfD m) = true) : MatchSo ms (fun z => left z && !z.sameKey (kl k)) t := by
  intro j m' hj hl
  by_cases hjk : j = k
  · subst hjk
    obtain rfl := Option.some.inj (hm.symm.trans hj)
    exact hk
  · exact h j m' hj (by simpa [kl_same, hjk] using hl)
def MatchAns (g : GD) (t : VD) (w : World) (e : Ending) (w' : World) : Prop := e = .returned (.bool (matchD (g.members.map verOfD) t)) ∧ Ext w w'
noncomputable def ops_49_2 : Array Oper := opsAt Tryz.f49 2
noncomputable def ops_49_11 : Array Oper := opsAt Tryz.f49 11
noncomputable def ops_49_12 : Array Oper := opsAt Tryz.f49 12
set_option maxRecDepth 20000 in
set_option maxHeartbeats 4000000 in
theorem match_any (mb b tb : Nat) (t : VD) (g : GD) (A : Option Addr) (n cap : Nat) (x : VoteD) (w : World) (h : Grd w b g A n cap x) (hmon : MonAt w mb b) (ht : V3 w tb 0 t.maj t.mnr t.pat) (hn : n = g.members.length) (hle : n ≤ 12) (hm : (Rp.slice Rp.str).K w any g.members [.slice A n cap]) (hok : ∀ s ∈ g.members, VTx s) (hw : VarsOk w) :
    Calls Tryz.prog 49 #[.pointer (some ⟨mb, 0, none⟩), .pointer (some ⟨tb, 0, none⟩)] w (MatchAns g t w) := by
  have g1 := hmon.cell (o := 1) rfl
  have HOK := Lib.hid hok
  have HC := Lib.hid (getMembers_any b g A n cap x w h hn hle hm)
  have hw' := Lib.hid hw
  clear hok hw hn hm
  go_enter Tryz.func49, Tryz.ntmps49
  go_wp2_with fail
  refine HC.out.mono ?_
  rintro e w1 ⟨mp, D, rfl, hmp, hown, hD, E1⟩
  have HOWN := Lib.hid hown
  have HD := Lib.hid hD
  obtain ⟨t0, t1, t2⟩ := ht.ext E1
  clear hown hD
  go_wp2_with fail
  refine wp_region_sched (ops := ops_49_2) Ext [] (.quiet 0 (.quiet 1 (.quiet 2 (.quiet 3 (.quiet 4 (.quiet 5 (.quiet 6 (.quiet 7 (.quiet 8 (.loud 9 (.quiet 10 (.done)) (.stop))))))))))) (by kernel_rfl) ext_refl ext_trans (by kernel_rfl) (fun _ _ d _ _ h => by cases d <;> exact h) ?_
  refine wpS_quiet (some 15) { dst := some 15, op := Op.move (Operand.tmp 1), type := _, pos := _, after := _, guard := none } _ rfl rfl (by rfl) (fun wE hE => by (go_simp; try with_reducible rfl)) ?_; simp only [Act.put, List.setIfInBounds_toArray, List.set_cons_zero, List.set_cons_succ]
  refine wpS_quiet (some 16) { dst := some 16, op := Op.nilCheck (Operand.tmp 15), type := _, pos := _, after := _, guard := none } _ rfl rfl (by rfl) (fun wE hE => by (go_simp; try with_reducible rfl)) ?_; simp only [Act.put, List.setIfInBounds_toArray, List.set_cons_zero, List.set_cons_succ]
  refine wpS_quiet (some 17) { dst := some 17, op := Op.fieldAddr 60 (Operand.tmp 16) 0, type := _, pos := _, after := _, guard := none } _ rfl rfl (by rfl) (fun wE hE => by (go_simp; try with_reducible rfl)) ?_; simp only [Act.put, List.setIfInBounds_toArray, List.set_cons_zero, List.set_cons_succ]
  refine wpS_quiet (some 18) { dst := some 18, op := Op.load 2 (Operand.tmp 17), type := _, pos := _, after := _, guard := none } _ rfl rfl (by rfl) (fun wE hE => by (have zk0 := hE.cellS t0; have zk1 := hE.cellS t1; have zk2 := hE.cellS t2; go_simp; try with_reducible rfl)) ?_; simp only [Act.put, List.setIfInBounds_toArray, List.set_cons_zero, List.set_cons_succ]
  refine wpS_quiet (some 19) { dst := some 19, op := Op.move (Operand.tmp 1), type := _, pos := _, after := _, guard := none } _ rfl rfl (by rfl) (fun wE hE => by (go_simp; try with_reducible rfl)) ?_; simp only [Act.put, List.setIfInBounds_toArray, List.set_cons_zero, List.set_cons_succ]
  refine wpS_quiet (some 20) { dst := some 20, op := Op.nilCheck (Operand.tmp 19), type := _, pos := _, after := _, guard := none } _ rfl rfl (by rfl) (fun wE hE => by (go_simp; try with_reducible rfl)) ?_; simp only [Act.put, List.setIfInBounds_toArray, List.set_cons_zero, List.set_cons_succ]
  refine wpS_quiet (some 21) { dst := some 21, op := Op.fieldAddr 60 (Operand.tmp 20) 1, type := _, pos := _, after := _, guard := none } _ rfl rfl (by rfl) (fun wE hE => by (go_simp; try with_reducible rfl)) ?_; simp only [Act.put, List.setIfInBounds_toArray, List.set_cons_zero, List.set_cons_succ]
  refine wpS_quiet (some 22) { dst := some 22, op := Op.load 2 (Operand.tmp 21), type := _, pos := _, after := _, guard := none } _ rfl rfl (by rfl) (fun wE hE => by (have zk0 := hE.cellS t0; have zk1 := hE.cellS t1; have zk2 := hE.cellS t2; go_simp; try with_reducible rfl)) ?_; simp only [Act.put, List.setIfInBounds_toArray, List.set_cons_zero, List.set_cons_succ]
  refine wpS_quiet (some 23) { dst := some 23, op := Op.build 60 #[(0, Operand.tmp 18), (1, Operand.tmp 22)], type := _, pos := _, after := _, guard := none } _ rfl rfl (by rfl) (fun wE hE => by (go_simp; try with_reducible rfl)) ?_; simp only [Act.put, List.setIfInBounds_toArray, List.set_cons_zero, List.set_cons_succ]
  refine wpS_alloc (some 24) { dst := some 24, op := Op.box 60 (Operand.tmp 23), type := _, pos := _, after := _, guard := none } _ _ rfl rfl (by rfl) (by go_simp; try rfl) (fun _ h => h) ?_ trivial
  intro lb w2 hb2 e2 K2
  clear hb2
  simp only [Act.put, List.setIfInBounds_toArray, List.set_cons_zero, List.set_cons_succ]
  refine wpS_quiet (some 1) { dst := some 1, op := Op.assign (Operand.tmp 24), type := _, pos := _, after := _, guard := none } _ rfl rfl (by rfl) (fun wE hE => by (go_simp; try with_reducible rfl)) ?_; simp only [Act.put, List.setIfInBounds_toArray, List.set_cons_zero, List.set_cons_succ]
  change Exit.then _ _ _ _ _
  have E2 : Ext w1 w2 := e2.undrew
  have LV := V3.of K2
  have HOWN2 := Lib.hid (HOWN.out.kept (Ext.grownBy E2) (by simp))
  have HD2 := Lib.hid (HD.out.ext (fun c T cs K => K.ext E2))
  clear HOWN HD e2 K2 t0 t1 t2
  go_wp2_with (at_range; refine wpList_range_own _ rfl _ 101 rfl 9 103 strKeyed Tryz.underlying101 ptrElem mp g.members.length D rfl HOWN2.out ?_; intro w0 hrg0 hg0 hs0)
  go_frame
  have HRG := Lib.hid hrg0
  have E3 : Ext w2 w0 := Ext.ofGrown hg0
  have hs3 := E3.size
  have hs2 := E2.size
  have hs1 := E1.size
  have LV3 := LV.ext E3
  have HD3 := Lib.hid (HD2.out.ext (fun c T cs K => K.ext E3))
  have ER : Ext w w0 := (E1.trans E2).trans E3
  clear hrg0 hg0 hs0 LV HD2 HOWN2 E1 E2 E3
  obtain ⟨r, hr⟩ : ∃ r, w2.heap.size = r := ⟨_, rfl⟩
  rw [hr] at HRG
  rw [hr]
  have hrw : w.heap.size ≤ r := by omega
  have FIN : Hid (∀ w', ExtX (fun k => k = r) w0 w' → Ext w w') := Lib.hid (fun w' h => ((ER.toX (fun k => k = r)).trans h).toExt (fun k hk => by have hk : k = r := hk; omega))
  clear hs1 hs2 hs3 hrw
  go_loopw [7] (fun _ wr => ∃ (left : Lit → Bool) (cnt : Nat), Hid (wr.ranges Tryz.prog 9 ptrElem mp r g.members.length D left cnt) ∧ Hid (MapHas wr D g.members g.members.length) ∧ Hid (∀ z, left z = true → has D z = true) ∧ Hid (MatchSo g.members left t) ∧ Hid (VarsOk wr) ∧ Hid (V3 wr lb 0 t.maj t.mnr 0) ∧ ExtX (fun k => k = r) w0 wr) (fun _ wr => wr.rangeLeft mp r)
  case atStart => exact ⟨_, _, HRG, HD3, Lib.hid (fun z h => h), Lib.hid (fun j m hj hl => by
      have := (HD3.out.1 j m (List.getElem?_eq_some_iff.1 hj).1 hj).1
      rw [this] at hl
      cases hl), Lib.hid (hw'.out.ext ER), Lib.hid LV3, ExtX.refl _ _⟩
  case round =>
    obtain ⟨left, cnt, hrg, hD, hleft, hmin, hvars, hlv, hE⟩ := hrel
    clear HRG HD3 LV3 hr
    go_wp2_with (first
      | (at_next; refine wpList_next_ranges _ rfl _ rfl 9 strKeyed ptrElem Value.string Value.pointer (fun key z hk => by obtain ⟨s, rfl, _⟩ := string_of_keyOf Tryz.underlying9 hk; exact ⟨s, rfl⟩) (fun v y hy => by unfold ptrElem at hy; split at hy <;> first | exact ⟨_, rfl⟩ | cases hy) mp r g.members.length D left cnt (by first | rfl | (simp [Act.eval]; done) | (go_simp; done)) hrg.out ?_ ?_)
      | go_in)
    · intro _ hl0
      have hL := Lib.hid (hmin.out.done hl0)
      clear hl0
      go_wp2
      go_ret
      exact ⟨by rw [hL.out]; rfl, FIN.out _ hE⟩
    · intro s c z y ps w4 cnt4 _ hz hy hat hrg4 hlt hg4 hs4 hen
      obtain ⟨k, m, rfl, hm, hcase⟩ := entry_of (y := (y, ps)) hD.out hleft.out hz hy hat
      have hi := ranges_iter hrg.out
      have HRG4 := Lib.hid hrg4
      have HD4 := Lib.hid (hD.out.ext (blk_grown hg4 hi))
      have HV4 := Lib.hid (iter_vars hi hg4 hvars.out)
      have HL4 := Lib.hid (iter_v3 hi hg4 hlv.out)
      have E4 : ExtX (fun k => k = r) w0 w4 := hE.grown hg4 (fun k hk => (Option.some.inj hk).symm)
      have HM := Lib.hid hm
      have HEN := hen
      have e4 := blk_grown hg4 hi
      have hleft4 : Hid (∀ z, (fun z => left z && !z.sameKey (kl k)) z = true → has D z = true) := Lib.hid (fun z hz => hleft.out z (by simp at hz; exact hz.1))
      clear hrg4 hm hz hy hat hi hvars hlv hD hg4 hs4
      rcases hcase with ⟨hm0, rfl⟩ | ⟨hm0, bm, rfl, K⟩
      · have hv0 : Hid (matchD (g.members.map verOfD) t = false) := Lib.hid (match_no HM.out (by rw [verOfD_empty hm0]; rfl))
        clear e4 hm0
        go_wp2
        go_ret
        exact ⟨by rw [hv0.out]; rfl, FIN.out _ E4⟩
      · have K4 := e4 _ _ _ K
        have gm := K4.cell (o := 0) rfl
        have hmem : m ∈ g.members := List.mem_of_getElem? HM.out
        have hnv := newVersion_vt m w4 (HOK.out m hmem) HV4.out
        clear e4 K K4 hm0 hmem
        cases hv : verOfD m with
        | none =>
          rw [hv] at hnv
          have HNV := Lib.hid hnv
          have hv0 : Hid (matchD (g.members.map verOfD) t = false) := Lib.hid (match_no HM.out (by rw [hv]; rfl))
          clear hnv hv
          go_wp2_with fail
          refine HNV.out.mono ?_
          rintro e w5 ⟨te, ev, rfl, E5⟩
          go_wp2
          go_ret
          exact ⟨by rw [hv0.out]; rfl, FIN.out _ (E4.trans (E5.toX _))⟩
        | some u =>
          rw [hv] at hnv
          have HNV := Lib.hid hnv
          replace hv := Lib.hid hv
          clear hnv
          go_wp2_with fail
          refine HNV.out.mono ?_
          rintro e w5 ⟨bu, rfl, hbu, VU, E5⟩
          obtain ⟨q0, q1, q2⟩ := id VU
          clear gm
          go_wp2_with fail
          refine wp_region_sched (ops := ops_49_11) Ext [] (.quiet 0 (.quiet 1 (.quiet 2 (.quiet 3 (.quiet 4 (.quiet 5 (.quiet 6 (.quiet 7 (.quiet 8 (.loud 9 (.quiet 10 (.done)) (.stop))))))))))) (by kernel_rfl) ext_refl ext_trans (by kernel_rfl) (fun _ _ d _ _ h => by cases d <;> exact h) ?_
          refine wpS_quiet (some 43) { dst := some 43, op := Op.move (Operand.tmp 8), type := _, pos := _, after := _, guard := none } _ rfl rfl (by rfl) (fun wE hE => by (go_simp; try with_reducible rfl)) ?_; simp only [Act.put, List.setIfInBounds_toArray, List.set_cons_zero, List.set_cons_succ]
          refine wpS_quiet (some 44) { dst := some 44, op := Op.nilCheck (Operand.tmp 43), type := _, pos := _, after := _, guard := none } _ rfl rfl (by rfl) (fun wE hE => by (go_simp; try with_reducible rfl)) ?_; simp only [Act.put, List.setIfInBounds_toArray, List.set_cons_zero, List.set_cons_succ]
          refine wpS_quiet (some 45) { dst := some 45, op := Op.fieldAddr 60 (Operand.tmp 44) 0, type := _, pos := _, after := _, guard := none } _ rfl rfl (by rfl) (fun wE hE => by (go_simp; try with_reducible rfl)) ?_; simp only [Act.put, List.setIfInBounds_toArray, List.set_cons_zero, List.set_cons_succ]
          refine wpS_quiet (some 46) { dst := some 46, op := Op.load 2 (Operand.tmp 45), type := _, pos := _, after := _, guard := none } _ rfl rfl (by rfl) (fun wE hE => by (have zk0 := hE.cellS q0; have zk1 := hE.cellS q1; have zk2 := hE.cellS q2; go_simp; try with_reducible rfl)) ?_; simp only [Act.put, List.setIfInBounds_toArray, List.set_cons_zero, List.set_cons_succ]
          refine wpS_quiet (some 47) { dst := some 47, op := Op.move (Operand.tmp 8), type := _, pos := _, after := _, guard := none } _ rfl rfl (by rfl) (fun wE hE => by (go_simp; try with_reducible rfl)) ?_; simp only [Act.put, List.setIfInBounds_toArray, List.set_cons_zero, List.set_cons_succ]
          refine wpS_quiet (some 48) { dst := some 48, op := Op.nilCheck (Operand.tmp 47), type := _, pos := _, after := _, guard := none } _ rfl rfl (by rfl) (fun wE hE => by (go_simp; try with_reducible rfl)) ?_; simp only [Act.put, List.setIfInBounds_toArray, List.set_cons_zero, List.set_cons_succ]
          refine wpS_quiet (some 49) { dst := some 49, op := Op.fieldAddr 60 (Operand.tmp 48) 1, type := _, pos := _, after := _, guard := none } _ rfl rfl (by rfl) (fun wE hE => by (go_simp; try with_reducible rfl)) ?_; simp only [Act.put, List.setIfInBounds_toArray, List.set_cons_zero, List.set_cons_succ]
          refine wpS_quiet (some 50) { dst := some 50, op := Op.load 2 (Operand.tmp 49), type := _, pos := _, after := _, guard := none } _ rfl rfl (by rfl) (fun wE hE => by (have zk0 := hE.cellS q0; have zk1 := hE.cellS q1; have zk2 := hE.cellS q2; go_simp; try with_reducible rfl)) ?_; simp only [Act.put, List.setIfInBounds_toArray, List.set_cons_zero, List.set_cons_succ]
          refine wpS_quiet (some 51) { dst := some 51, op := Op.build 60 #[(0, Operand.tmp 46), (1, Operand.tmp 50)], type := _, pos := _, after := _, guard := none } _ rfl rfl (by rfl) (fun wE hE => by (go_simp; try with_reducible rfl)) ?_; simp only [Act.put, List.setIfInBounds_toArray, List.set_cons_zero, List.set_cons_succ]
          refine wpS_alloc (some 52) { dst := some 52, op := Op.box 60 (Operand.tmp 51), type := _, pos := _, after := _, guard := none } _ _ rfl rfl (by rfl) (by go_simp; try rfl) (fun _ h => h) ?_ trivial
          intro nb w6 hb6 e6 K6
          clear hb6
          simp only [Act.put, List.setIfInBounds_toArray, List.set_cons_zero, List.set_cons_succ]
          refine wpS_quiet (some 8) { dst := some 8, op := Op.assign (Operand.tmp 52), type := _, pos := _, after := _, guard := none } _ rfl rfl (by rfl) (fun wE hE => by (go_simp; try with_reducible rfl)) ?_; simp only [Act.put, List.setIfInBounds_toArray, List.set_cons_zero, List.set_cons_succ]
          change Exit.then _ _ _ _ _
          have E6 : Ext w5 w6 := e6.undrew
          have E46 := E5.trans E6
          obtain ⟨l0, l1, l2⟩ := HL4.out.ext E46
          obtain ⟨k0, k1, k2⟩ := V3.of K6
          simp only [Nat.zero_add] at k1 k2 l1 l2
          clear q0 q1 q2 e6 VU
          go_wp2_with fail
          cases hq : veqV (base t) (base u) with
          | false =>
            refine wp_region_sched (ops := ops_49_12) Ext [] (.quiet 0 (.quiet 1 (.quiet 2 (.quiet 3 (.quiet 4 (.quiet 5 (.loud 6 (.quiet 7 (.done)) (.stop)))))))) (by kernel_rfl) ext_refl ext_trans (by kernel_rfl) (fun _ _ d _ _ h => by cases d <;> exact h) ?_
            refine wpS_quiet (some 53) { dst := some 53, op := Op.move (Operand.tmp 1), type := _, pos := _, after := _, guard := none } _ rfl rfl (by rfl) (fun wE hE => by (go_simp; try with_reducible rfl)) ?_; simp only [Act.put, List.setIfInBounds_toArray, List.set_cons_zero, List.set_cons_succ]
            refine wpS_quiet (some 54) { dst := some 54, op := Op.nilCheck (Operand.tmp 53), type := _, pos := _, after := _, guard := none } _ rfl rfl (by rfl) (fun wE hE => by (go_simp; try with_reducible rfl)) ?_; simp only [Act.put, List.setIfInBounds_toArray, List.set_cons_zero, List.set_cons_succ]
            refine wpS_quiet (some 55) { dst := some 55, op := Op.load 60 (Operand.tmp 54), type := _, pos := _, after := _, guard := none } _ rfl rfl (by rfl) (fun wE hE => by (have zk0 := hE.cellS l0; have zk1 := hE.cellS l1; have zk2 := hE.cellS l2; have zk3 := hE.cellS k0; have zk4 := hE.cellS k1; have zk5 := hE.cellS k2; go_simp; try with_reducible rfl)) ?_; simp only [Act.put, List.setIfInBounds_toArray, List.set_cons_zero, List.set_cons_succ]
            refine wpS_quiet (some 56) { dst := some 56, op := Op.move (Operand.tmp 8), type := _, pos := _, after := _, guard := none } _ rfl rfl (by rfl) (fun wE hE => by (go_simp; try with_reducible rfl)) ?_; simp only [Act.put, List.setIfInBounds_toArray, List.set_cons_zero, List.set_cons_succ]
            refine wpS_quiet (some 57) { dst := some 57, op := Op.nilCheck (Operand.tmp 56), type := _, pos := _, after := _, guard := none } _ rfl rfl (by rfl) (fun wE hE => by (go_simp; try with_reducible rfl)) ?_; simp only [Act.put, List.setIfInBounds_toArray, List.set_cons_zero, List.set_cons_succ]
            refine wpS_quiet (some 58) { dst := some 58, op := Op.load 60 (Operand.tmp 57), type := _, pos := _, after := _, guard := none } _ rfl rfl (by rfl) (fun wE hE => by (have zk0 := hE.cellS l0; have zk1 := hE.cellS l1; have zk2 := hE.cellS l2; have zk3 := hE.cellS k0; have zk4 := hE.cellS k1; have zk5 := hE.cellS k2; go_simp; try with_reducible rfl)) ?_; simp only [Act.put, List.setIfInBounds_toArray, List.set_cons_zero, List.set_cons_succ]
            refine wpS_call (some 59) { dst := some 59, op := Op.call { callee := Callee.value (Operand.func 55), args := #[Operand.tmp 55, Operand.tmp 58], argTypes := #[68, 60] }, type := _, pos := _, after := _, guard := none } 55 _ rfl rfl (by rfl) (by go_simp; try first | with_reducible rfl | exact ⟨rfl, rfl⟩) ?_
            refine (equal_any t.maj t.mnr 0 u.maj u.mnr 0 _).mono ?_; rintro e w7 ⟨rfl, e7⟩; rw [show veq t.maj t.mnr 0 u.maj u.mnr 0 = false from hq]; replace hq := Lib.hid hq; refine ⟨_, rfl, e7, ?_⟩; simp only [Act.put, List.setIfInBounds_toArray, List.set_cons_zero, List.set_cons_succ]
            refine wpS_quiet (some 60) { dst := some 60, op := Op.unOp UnOp.not 4 (Operand.tmp 59), type := _, pos := _, after := _, guard := none } _ rfl rfl (by rfl) (fun wE hE => by (go_simp; try with_reducible rfl)) ?_; simp only [Act.put, List.setIfInBounds_toArray, List.set_cons_zero, List.set_cons_succ]
            change Exit.then _ _ _ _ _
            have hv0 : Hid (matchD (g.members.map verOfD) t = false) := Lib.hid (match_no HM.out (by rw [hv.out]; exact hq.out))
            go_wp2
            go_ret
            exact ⟨by rw [hv0.out]; rfl, FIN.out _ (E4.trans ((E46.trans e7.undrew).toX _))⟩
          | true =>
            refine wp_region_sched (ops := ops_49_12) Ext [] (.quiet 0 (.quiet 1 (.quiet 2 (.quiet 3 (.quiet 4 (.quiet 5 (.loud 6 (.quiet 7 (.done)) (.stop)))))))) (by kernel_rfl) ext_refl ext_trans (by kernel_rfl) (fun _ _ d _ _ h => by cases d <;> exact h) ?_
            refine wpS_quiet (some 53) { dst := some 53, op := Op.move (Operand.tmp 1), type := _, pos := _, after := _, guard := none } _ rfl rfl (by rfl) (fun wE hE => by (go_simp; try with_reducible rfl)) ?_; simp only [Act.put, List.setIfInBounds_toArray, List.set_cons_zero, List.set_cons_succ]
            refine wpS_quiet (some 54) { dst := some 54, op := Op.nilCheck (Operand.tmp 53), type := _, pos := _, after := _, guard := none } _ rfl rfl (by rfl) (fun wE hE => by (go_simp; try with_reducible rfl)) ?_; simp only [Act.put, List.setIfInBounds_toArray, List.set_cons_zero, List.set_cons_succ]
            refine wpS_quiet (some 55) { dst := some 55, op := Op.load 60 (Operand.tmp 54), type := _, pos := _, after := _, guard := none } _ rfl rfl (by rfl) (fun wE hE => by (have zk0 := hE.cellS l0; have zk1 := hE.cellS l1; have zk2 := hE.cellS l2; have zk3 := hE.cellS k0; have zk4 := hE.cellS k1; have zk5 := hE.cellS k2; go_simp; try with_reducible rfl)) ?_; simp only [Act.put, List.setIfInBounds_toArray, List.set_cons_zero, List.set_cons_succ]
            refine wpS_quiet (some 56) { dst := some 56, op := Op.move (Operand.tmp 8), type := _, pos := _, after := _, guard := none } _ rfl rfl (by rfl) (fun wE hE => by (go_simp; try with_reducible rfl)) ?_; simp only [Act.put, List.setIfInBounds_toArray, List.set_cons_zero, List.set_cons_succ]
            refine wpS_quiet (some 57) { dst := some 57, op := Op.nilCheck (Operand.tmp 56), type := _, pos := _, after := _, guard := none } _ rfl rfl (by rfl) (fun wE hE => by (go_simp; try with_reducible rfl)) ?_; simp only [Act.put, List.setIfInBounds_toArray, List.set_cons_zero, List.set_cons_succ]
            refine wpS_quiet (some 58) { dst := some 58, op := Op.load 60 (Operand.tmp 57), type := _, pos := _, after := _, guard := none } _ rfl rfl (by rfl) (fun wE hE => by (have zk0 := hE.cellS l0; have zk1 := hE.cellS l1; have zk2 := hE.cellS l2; have zk3 := hE.cellS k0; have zk4 := hE.cellS k1; have zk5 := hE.cellS k2; go_simp; try with_reducible rfl)) ?_; simp only [Act.put, List.setIfInBounds_toArray, List.set_cons_zero, List.set_cons_succ]
            refine wpS_call (some 59) { dst := some 59, op := Op.call { callee := Callee.value (Operand.func 55), args := #[Operand.tmp 55, Operand.tmp 58], argTypes := #[68, 60] }, type := _, pos := _, after := _, guard := none } 55 _ rfl rfl (by rfl) (by go_simp; try first | with_reducible rfl | exact ⟨rfl, rfl⟩) ?_
            refine (equal_any t.maj t.mnr 0 u.maj u.mnr 0 _).mono ?_; rintro e w7 ⟨rfl, e7⟩; rw [show veq t.maj t.mnr 0 u.maj u.mnr 0 = true from hq]; replace hq := Lib.hid hq; refine ⟨_, rfl, e7, ?_⟩; simp only [Act.put, List.setIfInBounds_toArray, List.set_cons_zero, List.set_cons_succ]
            refine wpS_quiet (some 60) { dst := some 60, op := Op.unOp UnOp.not 4 (Operand.tmp 59), type := _, pos := _, after := _, guard := none } _ rfl rfl (by rfl) (fun wE hE => by (go_simp; try with_reducible rfl)) ?_; simp only [Act.put, List.setIfInBounds_toArray, List.set_cons_zero, List.set_cons_succ]
            change Exit.then _ _ _ _ _
            have E47 : Ext w4 w7 := E46.trans e7.undrew
            have HRG7 := Lib.hid (HRG4.out.kept (Ext.grownBy E47) (by simp) (by simp))
            go_wp2
            go_roundw
            case rel => exact ⟨_, cnt4, HRG7, Lib.hid (HD4.out.ext (fun c T cs K => K.ext E47)), hleft4, Lib.hid (hmin.out.step HM.out (by rw [hv.out]; exact hq.out)), Lib.hid (HV4.out.ext E47), Lib.hid (HL4.out.ext E47), E4.trans (E47.toX _)⟩
            case measure => rw [HRG7.out.left_eq, hrg.out.left_eq]; exact hlt

/-- is a downgrade over? -/
def cancelD (g : GD) : Bool := g.down && matchD (g.members.map verOfD) g.tv
def canVote (x : VoteD) (c : Bool) : VoteD := if c then { x with cancelled := true } else x
def CanAns (b : Nat) (g : GD) (A : Option Addr) (n cap : Nat) (x : VoteD) (w : World) (e : Ending) (w' : World) : Prop := e = .returned (.tuple #[]) ∧ Grd w' b g A n cap (canVote x (cancelD g)) ∧ ExtX (fun k => k = b) w w'
noncomputable def ops_31_5 : Array Oper := opsAt Tryz.f31 5
set_option maxRecDepth 20000 in
set_option maxHeartbeats 4000000 in
theorem cancel_mon (mb b : Nat) (g : GD) (A : Option Addr) (n cap : Nat) (x : VoteD) (w : World) (h : Grd w b g A n cap x) (hmon : MonAt w mb b) (hmb : mb ≠ b) (hn : n = g.members.length) (hm : (Rp.slice Rp.str).K w any g.members [.slice A n cap]) (hok : g.ok) (hw : VarsOk w) :
    Calls Tryz.prog 31 #[.pointer (some ⟨mb, 0, none⟩)] w (CanAns b g A n cap x w) := by
  have hle : n ≤ 12 := by rw [hn]; exact hok.n
  have g1 := hmon.cell (o := 1) rfl
  have HOK := Lib.hid hok
  have HG := Lib.hid h
  have HW := Lib.hid hw
  have HM := Lib.hid hm
  have HN := Lib.hid hn
  have hbl := h.lt
  clear hok h hw hm hn
  go_enter Tryz.func31, Tryz.ntmps31
  go_wp2_with fail
  refine (getDown_any b g A n cap x w HG.out).mono ?_
  intro e w1 hinfo
  rcases hinfo with ⟨hhd, rfl, E1⟩ | ⟨hhd, ib, rfl, hib, KI, E1⟩
  · have hdn : Hid (cancelD g = false) := Lib.hid (by
      unfold cancelD
      cases hd : g.down with
      | false => rfl
      | true => have := (HOK.out.d hd).1; rw [hhd] at this; cases this)
    clear hhd
    go_wp2
    go_end0
    refine ⟨rfl, ?_, E1.toX _⟩
    rw [hdn.out]
    exact HG.out.ext E1
  · have k0 := KI.cell (o := 0) rfl
    have k1 := KI.cell (o := 1) rfl
    clear hhd
    cases hd : g.down with
    | false =>
      rw [hd] at k1
      have hdn : Hid (cancelD g = false) := Lib.hid (by unfold cancelD; rw [hd]; rfl)
      clear hd
      go_wp2
      go_end0
      refine ⟨rfl, ?_, E1.toX _⟩
      rw [hdn.out]
      exact HG.out.ext E1
    | true =>
      rw [hd] at k1
      obtain ⟨tok, ht, _⟩ := HOK.out.tgt hd
      rw [ht] at k0
      have HT := Lib.hid tok
      have hcd : Hid (cancelD g = matchD (g.members.map verOfD) g.tv) := Lib.hid (by unfold cancelD; rw [hd]; rfl)
      clear hd ht tok KI
      generalize htv : g.tv = tv at *
      replace htv := Lib.hid htv
      go_wp2_with fail
      refine (newVersion_some _ tv HT.out rfl w1).mono ?_
      rintro e w2 ⟨tb, rfl, htb, VT2, E2⟩
      go_wp2_with fail
      refine (must_any _ _).mono ?_
      rintro e w3 ⟨rfl, rfl⟩
      have E12 := E1.trans E2
      go_wp2_with fail
      refine (match_any mb b tb tv g A n cap x w2 (HG.out.ext E12) (hmon.ext E12) VT2 HN.out hle ((Rp.slice Rp.str).ext' E12 HM.out) HOK.out.m (HW.out.ext E12)).mono ?_
      rintro e w4 ⟨rfl, E4⟩
      have E14 := E12.trans E4
      have GG4 := Lib.hid (HG.out.ext E14)
      replace g1 := E14.cellS g1
      rw [show matchD (g.members.map verOfD) tv = cancelD g from hcd.out.symm]
      clear k0 k1
      cases hm : cancelD g with
      | false =>
        replace hm := Lib.hid hm
        go_wp2
        go_end0
        refine ⟨rfl, ?_, E14.toX _⟩
        rw [hm.out]
        exact GG4.out
      | true =>
        replace hm := Lib.hid hm
        go_wp2_with fail
        have hna : ∀ w : World, (nilAhead 262 47 (.pointer (some ⟨b, 0, none⟩)) "DowngradeCancel").run Tryz.prog w = .ok (some false) w := fun _ => by kernel_rfl
        have hme : ∀ w : World, (method 262 47 (.pointer (some ⟨b, 0, none⟩)) "DowngradeCancel").run Tryz.prog w = .ok (102, .pointer (some ⟨b, 0, none⟩)) w := fun _ => by kernel_rfl
        refine wp_region_sched (ops := ops_31_5) (ExtX (fun k => k = b)) [] (.quiet 0 (.quiet 1 (.quiet 2 (.quiet 3 (.quiet 5 (.quiet 6 (.loud 4 (.loud 7 (.quiet 8 (.done)) (.stop)) (.stop)))))))) (by kernel_rfl) (ExtX.refl (fun k => k = b)) (fun _ _ _ => ExtX.trans) (by kernel_rfl) (fun _ _ d _ _ h => by cases d <;> exact h) ?_
        refine wpS_quiet (some 32) { dst := some 32, op := Op.move (Operand.tmp 0), type := _, pos := _, after := _, guard := none } _ rfl rfl (by rfl) (fun wE hE => by (go_simp; try with_reducible rfl)) ?_; simp only [Act.put, List.setIfInBounds_toArray, List.set_cons_zero, List.set_cons_succ]
        refine wpS_quiet (some 33) { dst := some 33, op := Op.nilCheck (Operand.tmp 32), type := _, pos := _, after := _, guard := none } _ rfl rfl (by rfl) (fun wE hE => by (go_simp; try with_reducible rfl)) ?_; simp only [Act.put, List.setIfInBounds_toArray, List.set_cons_zero, List.set_cons_succ]
        refine wpS_quiet (some 34) { dst := some 34, op := Op.fieldAddr 75 (Operand.tmp 33) 1, type := _, pos := _, after := _, guard := none } _ rfl rfl (by rfl) (fun wE hE => by (go_simp; try with_reducible rfl)) ?_; simp only [Act.put, List.setIfInBounds_toArray, List.set_cons_zero, List.set_cons_succ]
        refine wpS_quiet (some 35) { dst := some 35, op := Op.load 73 (Operand.tmp 34), type := _, pos := _, after := _, guard := none } _ rfl rfl (by rfl) (fun wE hE => by (have zk0 := hE.cellS (by show ¬ (_ = b); simp only []; omega) g1; go_simp; try with_reducible rfl)) ?_; simp only [Act.put, List.setIfInBounds_toArray, List.set_cons_zero, List.set_cons_succ]
        refine wpS_quiet (some 37) { dst := some 37, op := Op.nilCheck (Operand.tmp 35), type := _, pos := _, after := _, guard := none } _ rfl rfl (by rfl) (fun wE hE => by (go_simp; try with_reducible rfl)) ?_; simp only [Act.put, List.setIfInBounds_toArray, List.set_cons_zero, List.set_cons_succ]
        refine wpS_quiet (some 38) { dst := some 38, op := Op.move (Operand.tmp 35), type := _, pos := _, after := _, guard := none } _ rfl rfl (by rfl) (fun wE hE => by (go_simp; try with_reducible rfl)) ?_; simp only [Act.put, List.setIfInBounds_toArray, List.set_cons_zero, List.set_cons_succ]
        refine wpS_call (some 36) { dst := some 36, op := Op.call { callee := Callee.value (Operand.func 42), args := #[], argTypes := #[] }, type := _, pos := _, after := _, guard := none } 42 _ rfl rfl (by rfl) (by go_simp; try first | with_reducible rfl | exact ⟨rfl, rfl⟩) ?_
        refine (bg_any _).mono ?_; rintro e w5 ⟨u, rfl, e5⟩; refine ⟨_, rfl, (e5.toX _), ?_⟩; simp only [Act.put, List.setIfInBounds_toArray, List.set_cons_zero, List.set_cons_succ]
        refine wpS_call (some 39) { dst := some 39, op := Op.call { callee := Callee.invoke (Operand.tmp 38) "DowngradeCancel", args := #[Operand.tmp 36], argTypes := #[66] }, type := _, pos := _, after := _, guard := none } _ _ rfl rfl (by rfl) (by go_simp; try first | with_reducible rfl | exact ⟨rfl, rfl⟩) ?_
        refine (downCancel_any b g A n cap x u w5 (GG4.out.drew.ext e5)).mono ?_; rintro e w6 ⟨rfl, G6, e6⟩; refine ⟨_, rfl, e6, ?_⟩; simp only [Act.put, List.setIfInBounds_toArray, List.set_cons_zero, List.set_cons_succ]
        refine wpS_quiet (some 5) { dst := some 5, op := Op.assign (Operand.tmp 39), type := _, pos := _, after := _, guard := none } _ rfl rfl (by rfl) (fun wE hE => by (go_simp; try with_reducible rfl)) ?_; simp only [Act.put, List.setIfInBounds_toArray, List.set_cons_zero, List.set_cons_succ]
        change Exit.then _ _ _ _ _
        clear hna hme
        have E46 : ExtX (fun k => k = b) w4 w6 := ((e5.toX _ : ExtX (fun k => k = b) w4.drew w5).undrew).trans e6
        go_wp2
        all_goals
          go_end0
          refine ⟨rfl, ?_, (E14.toX _).trans E46⟩
          rw [hm.out]
          exact G6
def CancelAns (g : GD) (w : World) (e : Ending) (w' : World) : Prop := e = .returned (voteV (canVote vote0 (cancelD g))) ∧ Ext w w'
set_option maxRecDepth 20000 in
set_option maxHeartbeats 4000000 in
theorem implCancel_any (g : GD) (A : Option Addr) (n cap : Nat) (w : World) (hn : n = g.members.length) (hm : (Rp.slice Rp.str).K w any g.members [.slice A n cap]) (hok : g.ok) (hw : VarsOk w) :
    Calls Tryz.prog 11 #[gdV g A n cap] w (CancelAns g w) := by
  have HM := Lib.hid hm
  have HOK := Lib.hid hok
  have HW := Lib.hid hw
  have HN := Lib.hid hn
  clear hm hok hw hn
  go_enter Tryz.func11, Tryz.ntmps11
  go_wp2_with fail
  obtain ⟨W, hW⟩ : ∃ W, W = ((w.alloc (.cells (gdCells g A n cap).toArray 24)).alloc (.cells (voteCells vote0).toArray 35)).alloc (.cells (guardCells g A n cap vote0).toArray 49) := ⟨_, rfl⟩
  have EW : Ext w W := by rw [hW]; exact (((Ext.refl w).alloc _).alloc _).alloc _
  have KR : Blk W (w.heap.size + 1) 35 (voteCells vote0) := by
    rw [hW]
    have := Blk.new (w.alloc (.cells (gdCells g A n cap).toArray 24)) 35 (voteCells vote0)
    rw [World.size_alloc] at this
    exact this.ext ((Ext.refl _).alloc _)
  have KG : Grd W (w.heap.size + 1 + 1) g A n cap vote0 := by
    rw [hW]
    have := Blk.new ((w.alloc (.cells (gdCells g A n cap).toArray 24)).alloc (.cells (voteCells vote0).toArray 35)) 49 (guardCells g A n cap vote0)
    rw [World.size_alloc, World.size_alloc] at this
    exact this
  change Calls _ _ _ (((w.alloc (.cells (gdCells g A n cap).toArray 24)).alloc (.cells (voteCells vote0).toArray 35)).alloc (.cells (guardCells g A n cap vote0).toArray 49)) _
  rw [← hW]
  clear hW
  refine (sane_any _ g A n cap vote0 W KG HOK.out (HW.out.ext EW)).mono ?_
  rintro e w1 ⟨rfl, E1⟩
  go_wp2_with fail
  refine (newMon_any _ w1).mono ?_
  rintro e w2 ⟨mb, rfl, hmb, KM, E2⟩
  have E02 := EW.trans (E1.trans E2)
  have hmb2 : mb ≠ w.heap.size + 1 + 1 := by have := (KG.ext E1).lt; omega
  go_wp2_with fail
  refine (cancel_mon mb _ g A n cap vote0 w2 ((KG.ext E1).ext E2) KM hmb2 HN.out ((Rp.slice Rp.str).ext' E02 HM.out) HOK.out (HW.out.ext E02)).mono ?_
  rintro e w3 ⟨rfl, G3, E3⟩
  generalize hr : canVote vote0 (cancelD g) = x at *
  replace hr := Lib.hid hr
  have E23 : ExtX (fun k => k = w.heap.size + 1 + 1) W w3 := ((E1.trans E2).toX _).trans E3
  have KR3 := KR.extX E23 (by omega)
  have K4 := G3
  have q0 := K4.cell (o := 0) rfl
  have q6 := K4.cell (o := 6) rfl
  have q7 := K4.cell (o := 7) rfl
  have q8 := K4.cell (o := 8) rfl
  have q9 := K4.cell (o := 9) rfl
  have q10 := K4.cell (o := 10) rfl
  have q11 := K4.cell (o := 11) rfl
  clear q0
  go_wp2_with (refine wpList_store rfl rfl (.tmp 2) (.tmp 18) 35 rfl rfl rfl rfl KR3 rfl (Nat.le_of_ble_eq_true rfl) rfl ?_; intro w5 K5 x5)
  refine bodyPost_ret (results_cell_row rfl _ _ (w.heap.size + 1) _ _ (0, 0) _ rfl K5 Tryz.underlying35 rfl rfl) rfl ?_
  refine ⟨?_, ?_⟩
  · rw [hr.out]
    rfl
  · exact ext_two EW E23 x5
def ManCan (b : Nat) (g : GD) (A : Option Addr) (n cap : Nat) (x : VoteD) (w : World) (e : Ending) (w' : World) : Prop := e = .returned (errOf (if g.down then 0 else 3)) ∧ Grd w' b g A n cap (canVote x g.down) ∧ ExtX (fun k => k = b) w w'
/-- a downgrade is cancelled just if it goes on -/
def downCancelD (g : GD) : VoteD := if g.down then { vote0 with cancelled := true } else { vote0 with err := 3 }
set_option maxRecDepth 20000 in
set_option maxHeartbeats 4000000 in
theorem manCancel_any (mb b : Nat) (g : GD) (A : Option Addr) (n cap : Nat) (x : VoteD) (u : Value) (w : World) (h : Grd w b g A n cap x) (hmon : ManAt w mb b) (hh : g.hasDown = true) :
    Calls Tryz.prog 44 #[.pointer (some ⟨mb, 0, none⟩), u] w (ManCan b g A n cap x w) := by
  have g1 := hmon.cell (o := 1) rfl
  have HG := Lib.hid h
  replace hh := Lib.hid hh
  clear h
  go_enter Tryz.func44, Tryz.ntmps44
  go_wp2_with fail
  refine (readNotify_any _ _ w).mono ?_
  rintro e w0 ⟨rfl, rfl⟩
  go_wp2_with fail
  refine (getDown_any b g A n cap x w HG.out).mono ?_
  intro e w1 hinfo
  rcases hinfo with ⟨hhd, rfl, E1⟩ | ⟨hhd, ib, rfl, hib, KI, E1⟩
  · have := hh.out
    rw [hhd] at this
    cases this
  · have k1 := KI.cell (o := 1) rfl
    replace g1 := E1.cellS g1
    clear hhd
    cases hd : g.down with
    | false =>
      rw [hd] at k1
      replace hd := Lib.hid hd
      go_wp2
      go_ret
      unfold ManCan
      rw [hd.out]
      exact ⟨rfl, HG.out.ext E1, E1.toX _⟩
    | true =>
      rw [hd] at k1
      replace hd := Lib.hid hd
      go_wp2_with fail
      refine (downCancel_any b g A n cap x u w1 (HG.out.ext E1)).mono ?_
      rintro e w2 ⟨rfl, G2, E2⟩
      go_wp2
      go_ret
      unfold ManCan
      rw [hd.out]
      exact ⟨rfl, G2, (E1.toX _).trans E2⟩
set_option maxRecDepth 20000 in
set_option maxHeartbeats 4000000 in
theorem implDownCancel_any (g : GD) (A : Option Addr) (n cap : Nat) (w : World) (hh : g.hasDown = true) :
    Calls Tryz.prog 19 #[gdV g A n cap] w fun e w' => e = .returned (voteV (downCancelD g)) ∧ Ext w w' := by
  have hhb : (!g.hasDown) = false := by rw [hh]; rfl
  replace hh := Lib.hid hh
  go_enter Tryz.func19, Tryz.ntmps19
  go_wp2_with fail
  obtain ⟨W, hW⟩ : ∃ W, W = ((w.alloc (.cells (gdCells g A n cap).toArray 24)).alloc (.cells (voteCells vote0).toArray 35)).alloc (.cells (guardCells g A n cap vote0).toArray 49) := ⟨_, rfl⟩
  have EW : Ext w W := by rw [hW]; exact (((Ext.refl w).alloc _).alloc _).alloc _
  have KR : Blk W (w.heap.size + 1) 35 (voteCells vote0) := by
    rw [hW]
    have := Blk.new (w.alloc (.cells (gdCells g A n cap).toArray 24)) 35 (voteCells vote0)
    rw [World.size_alloc] at this
    exact this.ext ((Ext.refl _).alloc _)
  have KG : Grd W (w.heap.size + 1 + 1) g A n cap vote0 := by
    rw [hW]
    have := Blk.new ((w.alloc (.cells (gdCells g A n cap).toArray 24)).alloc (.cells (voteCells vote0).toArray 35)) 49 (guardCells g A n cap vote0)
    rw [World.size_alloc, World.size_alloc] at this
    exact this
  change Calls _ _ _ (((w.alloc (.cells (gdCells g A n cap).toArray 24)).alloc (.cells (voteCells vote0).toArray 35)).alloc (.cells (guardCells g A n cap vote0).toArray 49)) _
  rw [← hW]
  clear hW
  refine (newMan_any _ W).mono ?_
  rintro e w2 ⟨mb, rfl, hmb, KM, E2⟩
  have E02 := EW.trans E2
  go_wp2_with fail
  refine (bg_any _).mono ?_
  rintro e w3 ⟨u, rfl, E3⟩
  have E23 := E2.trans E3
  go_wp2_with fail
  refine (manCancel_any mb _ g A n cap vote0 u w3 (KG.ext E23) (KM.ext E3) hh.out).mono ?_
  rintro e w4 ⟨rfl, G3, E4⟩
  have E24 : ExtX (fun k => k = w.heap.size + 1 + 1) W w4 := (E23.toX _).trans E4
  have KR3 := KR.extX E24 (by omega)
  generalize hr : canVote vote0 g.down = x at *
  replace hr := Lib.hid hr
  obtain ⟨k, hk⟩ : ∃ k, (if g.down then 0 else 3) = k := ⟨_, rfl⟩
  rw [hk]
  replace hk := Lib.hid hk
  go_wp2_with fail
  refine (voteKind_any _ w4).mono ?_
  rintro e w3' ⟨rfl, rfl⟩
  go_wp2_with (first
    | (refine wpList_store rfl rfl (.tmp 22) (.tmp 19) 3 rfl rfl rfl rfl G3 rfl (Nat.le_of_ble_eq_true rfl) rfl ?_; intro w5 K4 x4; have KR4 := KR3.extX x4 (by omega); have q6 := K4.cell (o := 6) rfl; have q7 := K4.cell (o := 7) rfl; have q8 := K4.cell (o := 8) rfl; have q9 := K4.cell (o := 9) rfl; have q10 := K4.cell (o := 10) rfl; have q11 := K4.cell (o := 11) rfl)
    | (refine wpList_store rfl rfl (.tmp 2) (.tmp 26) 35 rfl rfl rfl rfl KR4 rfl (Nat.le_of_ble_eq_true rfl) rfl ?_; intro w6 K5 x5))
  refine bodyPost_ret (results_cell_row rfl _ _ (w.heap.size + 1) _ _ (0, 0) _ rfl K5 Tryz.underlying35 rfl rfl) rfl ?_
  refine ⟨?_, ?_⟩
  · unfold downCancelD
    have h1 := hr.out
    have h2 := hk.out
    cases hd : g.down with
    | true => rw [hd] at h1 h2; rw [← h1, ← h2]; rfl
    | false => rw [hd] at h1 h2; rw [← h1, ← h2]; rfl
  · exact ext_two EW (E24.trans x4) x5
end Go.Proofs.YtdokcengcekfgaaGreatDoor
