/-
  What the reference says of the leader's check (spec.PeriodicCheck).
-/
import Derived.Test.YthnhgfpkmbgkdaaCr
import Derived.Deep.DeepCutAuto
namespace Go.Proofs.Ythnhgfpkmbgkdaa
open Go.RowKit
set_option linter.unusedSimpArgs false
set_option linter.unusedVariables false

set_option maxRecDepth 20000 in
set_option maxHeartbeats 4000000 in
theorem specPeriodic_any (f s : HsD) (rev own : Int) (ps : List CkD) (v : Value) (w : World) (hp : (Rp.slice Rp.ck).K w any ps [v]) (hl : ps.length ≤ 1000) :
    Calls Try.prog 18 #[hsV f, hsV s, .int .i64 rev, .int .u64 own, v] w (IdsAns (periodicD f s rev own ps) w) := by
  obtain ⟨A, cap, hv, p1, p2, p3, hrow⟩ := hp
  simp only [List.cons.injEq, and_true] at hv
  subst hv
  have HR := Lib.hid hrow
  clear hrow
  obtain ⟨W, hW⟩ : ∃ W, W = (w.alloc (.cells (hsCells f).toArray 25)).alloc (.cells (hsCells s).toArray 25) := ⟨_, rfl⟩
  have E0 : Ext w W := by rw [hW]; exact ((Ext.refl w).alloc _).alloc _
  have K1 : Blk W w.heap.size 25 (hsCells f) := by rw [hW]; exact (blk_at _ _ _ _ rfl).ext ((Ext.refl _).alloc _)
  have K2 : Blk W (w.heap.size + 1) 25 (hsCells s) := by rw [hW]; exact blk_at _ _ _ _ (by simp)
  have HFD : Hid (selfQ f s = false → ∀ {k : Nat} {p : CkD}, ps[k]? = some p → (ps.take k).any (badQ f s rev) = false → badQ f s rev p = true → periodicD f s rev own ps = [p.id]) := Lib.hid (fun q1 _ _ h1 h2 h3 => by unfold periodicD; rw [q1, find_first h1 h2 h3]; rfl)
  have HND : Hid (selfQ f s = false → ps.any (badQ f s rev) = false → periodicD f s rev own ps = []) := Lib.hid (fun q1 h => by unfold periodicD; rw [q1, find_none h]; rfl)
  go_enter Try.func18, Try.ntmps18
  go_upto_region 1 with fail
  change Code.wp _ _ _ _ ((w.alloc (.cells (hsCells f).toArray 25)).alloc (.cells (hsCells s).toArray 25))
  rw [← hW]
  clear hW
  go_cut [31] (fun u wx => u = .bool (selfQ f s) ∧ Ext W wx)
  case first =>
    have g0 := K1.cell (o := 0) rfl
    have g1 := K1.cell (o := 1) rfl
    have g2 := K1.cell (o := 2) rfl
    have d0 := K2.cell (o := 0) rfl
    have d1 := K2.cell (o := 1) rfl
    have d2 := K2.cell (o := 2) rfl
    by_cases q1 : s.hash = f.hash
    · have hb : Hid (selfQ f s = false) := Lib.hid (by simp [selfQ, q1])
      have t1 : (s.hash != f.hash) = false := by simp [q1]
      have t1' : (s.hash == f.hash) = true := by simp [q1]
      replace q1 := Lib.hid q1
      go_wp2_with fail
      go_meet
      exact ⟨by rw [hb.out], Ext.refl _⟩
    have t1 : (s.hash != f.hash) = true := by simp [q1]
    have t1' : (s.hash == f.hash) = false := by simp [q1]
    by_cases q2 : s.rev = f.rev
    · have t2 : (s.rev == f.rev) = true := by simp [q2]
      by_cases q3 : s.comp = f.comp
      · have hb : Hid (selfQ f s = true) := Lib.hid (by simp [selfQ, q1, q2, q3])
        have t3 : (s.comp == f.comp) = true := by simp [q3]
        replace q1 := Lib.hid q1
        replace q2 := Lib.hid q2
        replace q3 := Lib.hid q3
        go_wp2_with fail
        go_meet
        exact ⟨by rw [hb.out], Ext.refl _⟩
      · have hb : Hid (selfQ f s = false) := Lib.hid (by simp [selfQ, Ne.symm q3])
        have t3 : (s.comp == f.comp) = false := by simp [q3]
        replace q1 := Lib.hid q1
        replace q2 := Lib.hid q2
        replace q3 := Lib.hid q3
        go_wp2_with fail
        go_meet
        exact ⟨by rw [hb.out], Ext.refl _⟩
    · have hb : Hid (selfQ f s = false) := Lib.hid (by simp [selfQ, q2])
      have t2 : (s.rev == f.rev) = false := by simp [q2]
      replace q1 := Lib.hid q1
      replace q2 := Lib.hid q2
      go_wp2_with fail
      go_meet
      exact ⟨by rw [hb.out], Ext.refl _⟩
  case rest =>
    obtain ⟨rfl, hEc⟩ := hcut
    cases hsq : selfQ f s with
    | true =>
      have hr : Hid (periodicD f s rev own ps = [own]) := Lib.hid (by unfold periodicD; rw [hsq]; rfl)
      replace hsq := Lib.hid hsq
      go_wp2_with fail
      go_ret
      exact ⟨_, rfl, by rw [hr.out]; exact one_slice (blk_at _ _ _ _ rfl), (E0.trans hEc).alloc _⟩
    | false =>
    replace hsq := Lib.hid hsq
    go_wp2_with fail
    go_loopw [36] (fun i wr => ∃ k : Nat, i = .int .i64 k ∧ k ≤ ps.length ∧ Hid ((ps.take k).any (badQ f s rev) = false) ∧ Ext W wr) (fun i _ => ps.length - (intOf i).toNat)
    case atStart => exact ⟨0, rfl, Nat.zero_le _, Lib.hid rfl, hEc⟩
    case round =>
      obtain ⟨k, rfl, hk, hB, hE⟩ := hrel
      have E2 := E0.trans hE
      by_cases hlt : k < ps.length
      · obtain ⟨p, hp⟩ : ∃ p, ps[k]? = some p := ⟨_, List.getElem?_eq_getElem hlt⟩
        obtain ⟨ba, o, rfl, _⟩ := HR.out.addr (List.ne_nil_of_length_pos (by omega))
        obtain ⟨_, hc⟩ := flat_at HR.out rfl hp E2
        have c0 := hc 0 _ rfl
        have c1 := hc 1 _ rfl
        have c2 := hc 2 _ rfl
        have c3 := hc 3 _ rfl
        have c4 := hc 4 _ rfl
        have c5 := hc 5 _ rfl
        simp only [Nat.add_zero, ← Nat.add_assoc] at c0 c1 c2 c3 c4 c5
        have HP := Lib.hid hp
        have HS : Hid ((ps.take (k + 1)).any (badQ f s rev) = ((ps.take k).any (badQ f s rev) || badQ f s rev p)) := Lib.hid (any_snoc HP.out _)
        clear hp hc
        go_upto_region 6 with fail
        obtain ⟨W3, hW3⟩ : ∃ W3, W3 = wr.alloc (.cells (ckCells p).toArray 30) := ⟨_, rfl⟩
        have E3 : Ext wr W3 := by rw [hW3]; exact (Ext.refl wr).alloc _
        have K3 : Blk W3 wr.heap.size 30 (ckCells p) := by rw [hW3]; exact Blk.new wr _ _
        change Code.wp _ _ _ _ (wr.alloc (.cells (ckCells p).toArray 30))
        rw [← hW3]
        clear hW3 c0 c1 c2 c3 c4 c5
        go_cut [68] (fun u wx => u = .bool (badQ f s rev p) ∧ Ext W3 wx)
        case first =>
          have g0 := (K1.ext (hE.trans E3)).cell (o := 0) rfl
          have g1 := (K1.ext (hE.trans E3)).cell (o := 1) rfl
          have d1 := (K2.ext (hE.trans E3)).cell (o := 1) rfl
          have c1 := K3.cell (o := 1) rfl
          have c2 := K3.cell (o := 2) rfl
          have c3 := K3.cell (o := 3) rfl
          have c4 := K3.cell (o := 4) rfl
          cases hh : p.has with
          | false =>
            have hb : Hid (badQ f s rev p = false) := Lib.hid (by simp [badQ, hh])
            rw [hh] at c1
            replace hh := Lib.hid hh
            go_wp2_with fail
            go_meet
            exact ⟨by rw [hb.out], Ext.refl _⟩
          | true =>
            rw [hh] at c1
            by_cases q1 : rev < p.rev
            · have hb : Hid (badQ f s rev p = true) := Lib.hid (by simp [badQ, hh, q1])
              have t1 : decide (rev < p.rev) = true := decide_eq_true q1
              replace hh := Lib.hid hh
              go_wp2_with fail
              go_meet
              exact ⟨by rw [hb.out], Ext.refl _⟩
            have t1 : decide (rev < p.rev) = false := decide_eq_false q1
            by_cases q2 : s.comp < p.comp
            · have hb : Hid (badQ f s rev p = true) := Lib.hid (by simp [badQ, hh, q2])
              have t2 : decide (s.comp < p.comp) = true := decide_eq_true q2
              replace hh := Lib.hid hh
              replace q1 := Lib.hid q1
              go_wp2_with fail
              go_meet
              exact ⟨by rw [hb.out], Ext.refl _⟩
            have t2 : decide (s.comp < p.comp) = false := decide_eq_false q2
            by_cases q3 : p.comp = f.comp
            · have t3 : (p.comp == f.comp) = true := by simp [q3]
              by_cases q4 : p.hash = f.hash
              · have t4 : (p.hash != f.hash) = false := by simp [q4]
                have t4' : (p.hash == f.hash) = true := by simp [q4]
                have hb : Hid (badQ f s rev p = false) := Lib.hid (by simp [badQ, q1, q2, q4])
                replace hh := Lib.hid hh
                replace q1 := Lib.hid q1
                replace q2 := Lib.hid q2
                replace q3 := Lib.hid q3
                replace q4 := Lib.hid q4
                go_wp2_with fail
                go_meet
                exact ⟨by rw [hb.out], Ext.refl _⟩
              · have t4 : (p.hash != f.hash) = true := by simp [q4]
                have t4' : (p.hash == f.hash) = false := by simp [q4]
                have hb : Hid (badQ f s rev p = true) := Lib.hid (by simp [badQ, hh, q3, q4])
                replace hh := Lib.hid hh
                replace q1 := Lib.hid q1
                replace q2 := Lib.hid q2
                replace q3 := Lib.hid q3
                replace q4 := Lib.hid q4
                go_wp2_with fail
                go_meet
                exact ⟨by rw [hb.out], Ext.refl _⟩
            · have t3 : (p.comp == f.comp) = false := by simp [q3]
              have hb : Hid (badQ f s rev p = false) := Lib.hid (by simp [badQ, q1, q2, q3])
              replace hh := Lib.hid hh
              replace q1 := Lib.hid q1
              replace q2 := Lib.hid q2
              replace q3 := Lib.hid q3
              go_wp2_with fail
              go_meet
              exact ⟨by rw [hb.out], Ext.refl _⟩
        case rest =>
          obtain ⟨rfl, hEd⟩ := hcut
          have E4 := (hE.trans E3).trans hEd
          have c0 := (K3.ext hEd).cell (o := 0) rfl
          cases hb : badQ f s rev p with
          | true =>
            have hr : Hid (periodicD f s rev own ps = [p.id]) := Lib.hid (HFD.out hsq.out HP.out hB.out hb)
            replace hb := Lib.hid hb
            go_wp2_with fail
            go_ret
            exact ⟨_, rfl, by rw [hr.out]; exact one_slice (blk_at _ _ _ _ rfl), (E0.trans E4).alloc _⟩
          | false =>
            replace hb := Lib.hid hb
            go_wp2_with fail
            go_roundw
            case rel => exact ⟨k + 1, by go_num, by omega, Lib.hid (by rw [HS.out, hB.out, hb.out]; rfl), E4⟩
            case measure => simp [intOf]; omega
      · have hkn : Hid (k = ps.length) := Lib.hid (by omega)
        have hb := hB.out
        rw [hkn.out, List.take_length] at hb
        have hr : Hid (periodicD f s rev own ps = []) := Lib.hid (HND.out hsq.out hb)
        clear hb
        go_wp2_with fail
        go_ret
        exact ⟨_, rfl, by rw [hr.out]; exact (OwnP.nil Rp.u64 _ any 0 0).slice, E2⟩
end Go.Proofs.Ythnhgfpkmbgkdaa
