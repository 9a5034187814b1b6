/-
  The guards of the laws of versions (zzFits36, verText, verGood, verThere).
-/
import Derived.Test.YtdokcengcekfgaaGreatDoorImpl
namespace Go.Proofs.YtdokcengcekfgaaGreatDoor
open Go.RowKit
set_option linter.unusedSimpArgs false
set_option linter.unusedVariables false

abbrev fit (n : Nat) : Prop := n ≤ 2147483647
set_option maxHeartbeats 1000000 in
theorem fits3 (ms : List ByteArray) (v : Value) (w : World) (h : (Rp.slice Rp.str).K w any ms [v]) : Calls Tryz.prog 23 #[v] w fun e w' => ∃ c : Bool, e = .returned (.bool c) ∧ (c = true → ∀ m ∈ ms, fit m.size) ∧ Ext w w' := by
  obtain ⟨A, cap, hv, p1, p2, p3, hrow⟩ := h
  simp only [List.cons.injEq, and_true] at hv
  subst hv
  have hl : ms.length ≤ 9223372036854775807 := by unfold maxLen at p2; omega
  have HR := Lib.hid hrow
  clear hrow
  go_enter Tryz.func23, Tryz.ntmps23
  go_wp2_with fail
  · go_ret
    exact ⟨false, rfl, fun h => by simp at h, Ext.refl w⟩
  go_loopw [10] (fun i wr => ∃ k : Nat, i = .int .i64 k ∧ k ≤ ms.length ∧ Hid (∀ m ∈ ms.take k, fit m.size) ∧ Ext w wr) (fun i _ => ms.length - (intOf i).toNat)
  case atStart => exact ⟨0, rfl, Nat.zero_le _, Lib.hid (fun m hm => by simp at hm), Ext.refl _⟩
  case round =>
    obtain ⟨k, rfl, hk, hf, hE⟩ := hrel
    by_cases hlt : k < ms.length
    · obtain ⟨m, hm⟩ : ∃ m, ms[k]? = some m := ⟨_, List.getElem?_eq_getElem hlt⟩
      obtain ⟨ba, o, rfl, _⟩ := HR.out.addr (List.ne_nil_of_length_pos (by omega))
      have c1 := str_at HR.out rfl hm hE
      have HM := Lib.hid hm
      clear hm
      by_cases hz : 2147483647 < m.size
      · have hz1 : decide ((2147483647 : Int) < (m.size : Int)) = true := by simp; omega
        go_wp2
        go_ret
        exact ⟨false, rfl, fun h => by simp at h, hE⟩
      · have hz1 : decide ((2147483647 : Int) < (m.size : Int)) = false := by simp; omega
        go_wp2
        go_roundw
        case rel =>
          refine ⟨k + 1, by go_num, by omega, Lib.hid ?_, hE⟩
          intro m' hm'
          rw [List.take_add_one, HM.out] at hm'
          simp only [Option.toList_some, List.mem_append, List.mem_singleton] at hm'
          rcases hm' with hm' | rfl
          · exact hf.out m' hm'
          · show m'.size ≤ 2147483647; omega
        case measure => simp [intOf]; omega
    · have hkn : Hid (k = ms.length) := Lib.hid (by omega)
      go_wp2
      go_ret
      have := hf.out
      rw [hkn.out, List.take_length] at this
      exact ⟨true, rfl, fun _ => this, hE⟩
structure GD.fits (g : GD) : Prop where
  c : fit g.cluster.size
  s : fit g.storage.size
  t : fit g.target.size
  m : ∀ m ∈ g.members, fit m.size
set_option maxHeartbeats 1000000 in
theorem fits36 (g : GD) (A : Option Addr) (n cap : Nat) (w : World) (hn : n = g.members.length) (hm : (Rp.slice Rp.str).K w any g.members [.slice A n cap]) : Calls Tryz.prog 4 #[gdV g A n cap] w fun e w' => ∃ c : Bool, e = .returned (.bool c) ∧ (c = true → g.fits) ∧ Ext w w' := by
  have HM := Lib.hid hm
  clear hm hn
  by_cases h1 : 2147483647 < g.cluster.size
  · have d1 : decide ((2147483647 : Int) < (g.cluster.size : Int)) = true := by simp; omega
    go_enter Tryz.func4, Tryz.ntmps4
    go_wp2
    go_ret
    exact ⟨false, rfl, fun h => by simp at h, (Ext.refl w).alloc _⟩
  have d1 : decide ((2147483647 : Int) < (g.cluster.size : Int)) = false := by simp; omega
  by_cases h2 : 2147483647 < g.storage.size
  · have d2 : decide ((2147483647 : Int) < (g.storage.size : Int)) = true := by simp; omega
    go_enter Tryz.func4, Tryz.ntmps4
    go_wp2
    go_ret
    exact ⟨false, rfl, fun h => by simp at h, (Ext.refl w).alloc _⟩
  have d2 : decide ((2147483647 : Int) < (g.storage.size : Int)) = false := by simp; omega
  by_cases h3 : 2147483647 < g.target.size
  · have d3 : decide ((2147483647 : Int) < (g.target.size : Int)) = true := by simp; omega
    go_enter Tryz.func4, Tryz.ntmps4
    go_wp2
    go_ret
    exact ⟨false, rfl, fun h => by simp at h, (Ext.refl w).alloc _⟩
  have d3 : decide ((2147483647 : Int) < (g.target.size : Int)) = false := by simp; omega
  go_enter Tryz.func4, Tryz.ntmps4
  go_wp2_with fail
  refine (fits3 g.members _ _ ((Rp.slice Rp.str).ext' ((Ext.refl w).alloc _) HM.out)).mono ?_
  rintro e w1 ⟨c, rfl, hc, E1⟩
  replace hc := Lib.hid hc
  cases c with
  | false =>
    go_wp2
    go_ret
    exact ⟨false, rfl, fun h => by simp at h, ((Ext.refl w).alloc _).trans E1⟩
  | true =>
    go_wp2
    go_ret
    exact ⟨true, rfl, fun _ => ⟨by show _ ≤ _; omega, by show _ ≤ _; omega, by show _ ≤ _; omega, by simpa using hc.out⟩, ((Ext.refl w).alloc _).trans E1⟩
set_option maxHeartbeats 1000000 in
theorem verText_yes (s : ByteArray) (w : World) (hs : fit s.size) : Calls Tryz.prog 7 #[.string s] w fun e w' => ∃ c : Bool, e = .returned (.bool c) ∧ (c = true → VTx s) ∧ Ext w w' := by
  have hs' : s.size ≤ 2147483647 := hs
  go_enter Tryz.func7, Tryz.ntmps7
  go_wp2_with fail
  refine (verOf_any s w hs).mono ?_
  rintro e w1 ⟨rfl, E1⟩
  cases hv : verOfD s with
  | some v =>
    replace hv := Lib.hid hv
    go_wp2
    go_ret
    refine ⟨true, rfl, fun _ => ?_, E1.alloc _⟩
    unfold VTx
    rw [hv.out]
    obtain ⟨h1, h2⟩ := verOfD_some hv.out
    exact ⟨h1, h2⟩
  | none =>
    replace hv := Lib.hid hv
    go_wp2_with fail
    go_loopw [14] (fun i wr => ∃ k : Nat, i = .int .i64 k ∧ k ≤ s.size ∧ Hid (NoDig (s.data.toList.take k)) ∧ Ext w wr) (fun i _ => s.size - (intOf i).toNat)
    case atStart => exact ⟨0, rfl, Nat.zero_le _, Lib.hid (fun c hc => by simp at hc), E1.alloc _⟩
    case round =>
      obtain ⟨k, rfl, hk, hf, hE⟩ := hrel
      by_cases hlt : k < s.size
      · have ht := Lib.hid (take_byte hlt)
        by_cases hd : isDig s[k]
        · unfold isDig at hd
          have k1 : decide ((48 : Int) ≤ (s[k].toNat : Int)) = true := by simp; omega
          have k2 : decide ((s[k].toNat : Int) ≤ 57) = true := by simp; omega
          clear hd
          go_wp2
          go_ret
          exact ⟨false, rfl, fun h => by simp at h, hE⟩
        · have hstep : Hid (NoDig (s.data.toList.take (k + 1))) := Lib.hid (by
            rw [ht.out]
            intro c hc
            rcases List.mem_append.1 hc with hc | hc
            · exact hf.out c hc
            · rw [List.mem_singleton] at hc; rw [hc]; exact hd)
          unfold isDig at hd
          by_cases h48 : 48 ≤ s[k].toNat
          · have k1 : decide ((48 : Int) ≤ (s[k].toNat : Int)) = true := by simp; omega
            have k2 : decide ((s[k].toNat : Int) ≤ 57) = false := by simp; omega
            clear hd
            go_wp2
            go_roundw
            case rel => exact ⟨k + 1, by go_num, by omega, hstep, hE⟩
            case measure => simp [intOf]; omega
          · have k1 : decide ((48 : Int) ≤ (s[k].toNat : Int)) = false := by simp; omega
            clear hd
            go_wp2
            go_roundw
            case rel => exact ⟨k + 1, by go_num, by omega, hstep, hE⟩
            case measure => simp [intOf]; omega
      · have hkn : Hid (k = s.size) := Lib.hid (by omega)
        have hnd : Hid (NoDig s.data.toList) := Lib.hid (by
          have := hf.out
          rwa [hkn.out, List.take_of_length_le (by rw [Array.length_toList]; exact Nat.le_refl _)] at this)
        by_cases h20 : s.size ≤ 20
        · have d1 : decide ((s.size : Int) ≤ 20) = true := by simp; omega
          go_wp2
          go_ret
          refine ⟨true, rfl, fun _ => ?_, hE⟩
          unfold VTx
          rw [hv.out]
          exact ⟨hnd.out, h20⟩
        · have d1 : decide ((s.size : Int) ≤ 20) = false := by simp; omega
          go_wp2
          go_ret
          exact ⟨false, rfl, fun h => by simp at h, hE⟩
set_option maxRecDepth 20000 in
set_option maxHeartbeats 4000000 in
theorem verGood_any (g : GD) (A : Option Addr) (n cap : Nat) (w : World) (hn : n = g.members.length) (hm : (Rp.slice Rp.str).K w any g.members [.slice A n cap]) (hf : g.fits) : Calls Tryz.prog 6 #[gdV g A n cap] w fun e w' => ∃ c : Bool, e = .returned (.bool c) ∧ (c = true → g.ok) ∧ Ext w w' := by
  obtain ⟨A', cap', hv, p1, p2, p3, hrow⟩ := hm
  simp only [List.cons.injEq, Value.slice.injEq, and_true] at hv
  obtain ⟨rfl, _, rfl⟩ := hv
  subst hn
  have HR := Lib.hid hrow
  have HF := Lib.hid hf
  have hl : g.members.length ≤ 9223372036854775807 := by unfold maxLen at p2; omega
  clear hrow hf
  go_enter Tryz.func6, Tryz.ntmps6
  go_wp2_with fail
  go_loopw [10] (fun i wr => ∃ k : Nat, i = .int .i64 k ∧ k ≤ g.members.length ∧ Hid (∀ m ∈ g.members.take k, VTx m) ∧ Ext w wr ∧ Hid (Blk wr w.heap.size 24 (gdCells g A g.members.length cap))) (fun i _ => g.members.length - (intOf i).toNat)
  case atStart => exact ⟨0, rfl, Nat.zero_le _, Lib.hid (fun m hm => by simp at hm), (Ext.refl _).alloc _, Lib.hid (Blk.new _ _ _)⟩
  case round =>
    obtain ⟨k, rfl, hk, hf, hE, hKG⟩ := hrel
    by_cases hlt : k < g.members.length
    · obtain ⟨m, hm⟩ : ∃ m, g.members[k]? = some m := ⟨_, List.getElem?_eq_getElem hlt⟩
      obtain ⟨ba, o, rfl, _⟩ := HR.out.addr (List.ne_nil_of_length_pos (by omega))
      have c1 := str_at HR.out rfl hm hE
      have HM := Lib.hid hm
      have hfm := HF.out.m m (List.mem_of_getElem? hm)
      clear hm
      go_wp2_with fail
      refine (verText_yes m wr hfm).mono ?_
      rintro e w4 ⟨c, rfl, hc, E4⟩
      replace hc := Lib.hid hc
      cases c with
      | false =>
        go_wp2
        go_ret
        exact ⟨false, rfl, fun h => by simp at h, hE.trans E4⟩
      | true =>
        go_wp2
        go_roundw
        case rel =>
          refine ⟨k + 1, by go_num, by omega, Lib.hid ?_, hE.trans E4, Lib.hid (hKG.out.ext E4)⟩
          intro m' hm'
          rw [List.take_add_one, HM.out] at hm'
          simp only [Option.toList_some, List.mem_append, List.mem_singleton] at hm'
          rcases hm' with hm' | rfl
          · exact hf.out m' hm'
          · simpa using hc.out
        case measure => simp [intOf]; omega
    · have hmem : Hid (∀ m ∈ g.members, VTx m) := Lib.hid (by
        have := hf.out
        rwa [show k = g.members.length by omega, List.take_length] at this)
      have KG := hKG.out
      have s0 := KG.cell (o := 0) rfl
      have s2 := KG.cell (o := 2) rfl
      have s3 := KG.cell (o := 3) rfl
      have s4 := KG.cell (o := 4) rfl
      have s5 := KG.cell (o := 5) rfl
      clear hf hKG
      cases hd : g.down with
      | false =>
        rw [hd] at s3
        have hdown : Hid (g.down = true → g.hasDown = true ∧ ∃ v, verOfD g.target = some v) := Lib.hid (fun h => by rw [hd] at h; cases h)
        clear hd
        clear s4
        by_cases h12 : g.members.length ≤ 12
        · have d12 : decide ((g.members.length : Int) ≤ 12) = true := by simp; omega
          go_wp2_with fail
          refine (verText_yes g.cluster _ HF.out.c).mono ?_
          rintro e w5 ⟨c, rfl, hcc, E5⟩
          replace hcc := Lib.hid hcc
          have K5 := KG.ext E5
          have s1 := K5.cell (o := 1) rfl
          cases c with
          | false =>
            go_wp2
            go_ret
            exact ⟨false, rfl, fun h => by simp at h, hE.trans E5⟩
          | true =>
            go_wp2_with fail
            refine (verText_yes g.storage _ HF.out.s).mono ?_
            rintro e w6 ⟨c, rfl, hcs, E6⟩
            replace hcs := Lib.hid hcs
            have K6 := K5.ext E6
            have s2 := K6.cell (o := 2) rfl
            cases c with
            | false =>
              go_wp2
              go_ret
              exact ⟨false, rfl, fun h => by simp at h, (hE.trans E5).trans E6⟩
            | true =>
              by_cases h20 : g.target.size ≤ 20
              · have d20 : decide ((g.target.size : Int) ≤ 20) = true := by simp; omega
                go_wp2
                go_ret
                refine ⟨true, rfl, fun _ => ⟨by simpa using hcc.out, by simpa using hcs.out, hmem.out, hdown.out, h12, h20⟩, (hE.trans E5).trans E6⟩
              · have d20 : decide ((g.target.size : Int) ≤ 20) = false := by simp; omega
                go_wp2
                go_ret
                exact ⟨false, rfl, fun h => by simp at h, (hE.trans E5).trans E6⟩
        · have d12 : decide ((g.members.length : Int) ≤ 12) = false := by simp; omega
          go_wp2
          go_ret
          exact ⟨false, rfl, fun h => by simp at h, hE⟩
      | true =>
        rw [hd] at s3
        replace hd := Lib.hid hd
        go_wp2_with fail
        refine (verOf_any g.target wr HF.out.t).mono ?_
        rintro e w4 ⟨rfl, E4⟩
        cases hv : verOfD g.target with
        | none =>
          replace hv := Lib.hid hv
          go_wp2
          go_ret
          exact ⟨false, rfl, fun h => by simp at h, (hE.trans E4).alloc _⟩
        | some v =>
          replace hv := Lib.hid hv
          have KG1 := KG.ext E4
          have hlt4 := KG1.lt
          have s4 := KG1.cell (o := 4) rfl
          cases hh : g.hasDown with
          | false =>
            rw [hh] at s4
            replace hh := Lib.hid hh
            go_wp2
            go_ret
            exact ⟨false, rfl, fun h => by simp at h, (hE.trans E4).alloc _⟩
          | true =>
            rw [hh] at s4
            replace hh := Lib.hid hh
            have hdown : Hid (g.down = true → g.hasDown = true ∧ ∃ v, verOfD g.target = some v) := Lib.hid (fun _ => ⟨hh.out, v, hv.out⟩)
            have s0 := KG1.cell (o := 0) rfl
            have s5 := KG1.cell (o := 5) rfl
            have KG : Blk (w4.alloc (.cells (verCells v).toArray 29)) w.heap.size 24 (gdCells g A g.members.length cap) := KG1.ext ((Ext.refl _).alloc _)
            have hE : Ext w (w4.alloc (.cells (verCells v).toArray 29)) := (hE.trans E4).alloc _
            clear hd hv hh
            by_cases h12 : g.members.length ≤ 12
            · have d12 : decide ((g.members.length : Int) ≤ 12) = true := by simp; omega
              go_wp2_with fail
              refine (verText_yes g.cluster _ HF.out.c).mono ?_
              rintro e w5 ⟨c, rfl, hcc, E5⟩
              replace hcc := Lib.hid hcc
              have K5 := KG.ext E5
              have s1 := K5.cell (o := 1) rfl
              cases c with
              | false =>
                go_wp2
                go_ret
                exact ⟨false, rfl, fun h => by simp at h, hE.trans E5⟩
              | true =>
                go_wp2_with fail
                refine (verText_yes g.storage _ HF.out.s).mono ?_
                rintro e w6 ⟨c, rfl, hcs, E6⟩
                replace hcs := Lib.hid hcs
                have K6 := K5.ext E6
                have s2 := K6.cell (o := 2) rfl
                cases c with
                | false =>
                  go_wp2
                  go_ret
                  exact ⟨false, rfl, fun h => by simp at h, (hE.trans E5).trans E6⟩
                | true =>
                  by_cases h20 : g.target.size ≤ 20
                  · have d20 : decide ((g.target.size : Int) ≤ 20) = true := by simp; omega
                    go_wp2
                    go_ret
                    refine ⟨true, rfl, fun _ => ⟨by simpa using hcc.out, by simpa using hcs.out, hmem.out, hdown.out, h12, h20⟩, (hE.trans E5).trans E6⟩
                  · have d20 : decide ((g.target.size : Int) ≤ 20) = false := by simp; omega
                    go_wp2
                    go_ret
                    exact ⟨false, rfl, fun h => by simp at h, (hE.trans E5).trans E6⟩
            · have d12 : decide ((g.members.length : Int) ≤ 12) = false := by simp; omega
              go_wp2
              go_ret
              exact ⟨false, rfl, fun h => by simp at h, hE⟩
end Go.Proofs.YtdokcengcekfgaaGreatDoor
