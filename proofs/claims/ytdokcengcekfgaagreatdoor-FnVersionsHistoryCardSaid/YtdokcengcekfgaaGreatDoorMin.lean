/-
  The least version of the members (Monitor.membersMinimalServerVersion).
-/
import Derived.Test.YtdokcengcekfgaaGreatDoorMap
namespace Go.Proofs.YtdokcengcekfgaaGreatDoor
open Go.RowKit Go.Maps Go.WideMaps
set_option linter.unusedSimpArgs false
set_option linter.unusedVariables false

/-! ### The order of versions -/
def less (a b : VD) : Bool := vless a.maj a.mnr a.pat b.maj b.mnr b.pat
theorem less_iff (a b : VD) : less a b = true ↔ (a.maj < b.maj ∨ (a.maj = b.maj ∧ (a.mnr < b.mnr ∨ (a.mnr = b.mnr ∧ a.pat < b.pat)))) := by
  unfold less vless
  by_cases h1 : a.maj = b.maj
  · by_cases h2 : a.mnr = b.mnr
    · rw [if_pos h1, if_pos h2, decide_eq_true_iff]; omega
    · rw [if_pos h1, if_neg h2, decide_eq_true_iff]; omega
  · rw [if_neg h1, decide_eq_true_iff]; omega
theorem less_no (a b : VD) : less a b = false ↔ ¬ (a.maj < b.maj ∨ (a.maj = b.maj ∧ (a.mnr < b.mnr ∨ (a.mnr = b.mnr ∧ a.pat < b.pat)))) := by
  rw [← less_iff]; simp
theorem less_antisymm {a b : VD} (h1 : less a b = false) (h2 : less b a = false) : a = b := by
  rw [less_no] at h1 h2
  obtain ⟨a1, a2, a3⟩ := a
  obtain ⟨b1, b2, b3⟩ := b
  simp only [VD.mk.injEq] at *
  omega
/-- the least of versions, some of which may not be known -/
def Least (ms : List (Option VD)) : Option VD → Prop
  | none => ms = [] ∨ none ∈ ms
  | some v => none ∉ ms ∧ some v ∈ ms ∧ ∀ u, some u ∈ ms → less u v = false
theorem Least.unique {ms : List (Option VD)} {o o' : Option VD} (h : Least ms o) (h' : Least ms o') : o = o' := by
  cases o with
  | none =>
    cases o' with
    | none => rfl
    | some v =>
      obtain ⟨h1, h2, _⟩ := h'
      rcases h with rfl | h
      · simp at h2
      · exact absurd h h1
  | some v =>
    cases o' with
    | none =>
      obtain ⟨h1, h2, _⟩ := h
      rcases h' with rfl | h'
      · simp at h2
      · exact absurd h' h1
    | some u =>
      obtain ⟨_, h1, h2⟩ := h
      obtain ⟨_, h3, h4⟩ := h'
      rw [less_antisymm (h4 v h1) (h2 u h3)]
theorem Least.same {ms ms' : List (Option VD)} {o : Option VD} (h : Least ms o) (he : ∀ x, x ∈ ms ↔ x ∈ ms') : Least ms' o := by
  cases o with
  | none =>
    rcases h with rfl | h
    · left
      cases ms' with
      | nil => rfl
      | cons a r => have := (he a).2 (by simp); simp at this
    · exact .inr ((he none).1 h)
  | some v =>
    obtain ⟨h1, h2, h3⟩ := h
    exact ⟨fun h => h1 ((he _).2 h), (he _).1 h2, fun u hu => h3 u ((he _).2 hu)⟩

/-! ### The walk -/
abbrev MonAt (w : World) (mb gb : Nat) : Prop := Blk w mb 75 [.pointer none, .iface 47 (.pointer (some ⟨gb, 0, none⟩))]
def v373 : VD := ⟨3, 7, 3⟩
theorem v373_ok : v373.ok := by unfold VD.ok v373; decide
theorem vt373 : vt v373 = ⟨#[51, 46, 55, 46, 51]⟩ := by decide +kernel
theorem must_any (p : Value) (w : World) : Calls Tryz.prog 47 #[p, .nilIface] w fun e w' => e = .returned p ∧ w = w' := by
  go_enter Tryz.func47, Tryz.ntmps47
  go_wp2
  go_ret
  exact ⟨rfl, rfl⟩
/-- a pointer that stands for o -/
def PtrIs (w : World) (s : Nat) (u : Value) : Option VD → Prop
  | none => u = .pointer none
  | some v => ∃ c, u = .pointer (some ⟨c, 0, none⟩) ∧ s ≤ c ∧ V3 w c 0 v.maj v.mnr v.pat
theorem PtrIs.ext {w w' : World} {s : Nat} {u : Value} {o : Option VD} (h : PtrIs w s u o) (e : Ext w w') : PtrIs w' s u o := by
  cases o with
  | none => exact h
  | some v => obtain ⟨c, h1, h2, h3⟩ := h; exact ⟨c, h1, h2, h3.ext e⟩
/-- what has been seen on the way -/
def MinOf (ms : List ByteArray) (left : Lit → Bool) (o : Option VD) : Prop :=
  (∀ (j : Nat) (m : ByteArray), ms[j]? = some m → left (kl j) = false → ∃ u, verOfD m = some u ∧ ∃ v, o = some v ∧ less u v = false) ∧ (∀ v, o = some v → ∃ (j : Nat) (m : ByteArray), ms[j]? = some m ∧ verOfD m = some v)
theorem MinOf.least {ms : List ByteArray} {left : Lit → Bool} {o : Option VD} (h : MinOf ms left o) (hl : ∀ z, left z = false) : Least (ms.map verOfD) o := by
  have hall : ∀ x ∈ ms.map verOfD, ∃ u, x = some u ∧ ∃ v, o = some v ∧ less u v = false := by
    intro x hx
    obtain ⟨m, hm, rfl⟩ := List.mem_map.1 hx
    obtain ⟨j, hj⟩ := List.getElem?_of_mem hm
    obtain ⟨u, h1, v, h2, h3⟩ := h.1 j m hj (hl _)
    exact ⟨u, h1, v, h2, h3⟩
  cases o with
  | none =>
    left
    cases hq : ms.map verOfD with
    | nil => rfl
    | cons a r =>
      obtain ⟨u, _, v, hv, _⟩ := hall a (by rw [hq]; simp)
      cases hv
  | some v =>
    refine ⟨fun hn => ?_, ?_, fun u hu => ?_⟩
    · obtain ⟨u, hu, _⟩ := hall none hn
      cases hu
    · obtain ⟨j, m, hm, hv⟩ := h.2 v rfl
      exact List.mem_map.2 ⟨m, List.mem_of_getElem? hm, hv⟩
    · obtain ⟨u', hu', v', hv', hle⟩ := hall (some u) hu
      obtain rfl := Option.some.inj hu'
      obtain rfl := Option.some.inj hv'
      exact hle
theorem kl_same (j k : Nat) : (kl j).sameKey (kl k) = decide (j = k) := by
  by_cases h : j = k
  · subst h; rw [WideAt.sameKey_self (kl_key j)]; simp
  · rw [sameKey_ne (fun he => h (kl_inj he))]; simp [h]
theorem MinOf.step {ms : List ByteArray} {left : Lit → Bool} {o : Option VD} {k : Nat} {m : ByteArray} {u v : VD} (h : MinOf ms left o) (hm : ms[k]? = some m) (hu : verOfD m = some u) (hv : (v = u ∧ ∀ v', o = some v' → less u v' = true) ∨ (o = some v ∧ less u v = false)) :
    MinOf ms (fun z => left z && !z.sameKey (kl k)) (some v) := by
  refine ⟨fun j m' hj hl => ?_, fun v' hv' => ?_⟩
  · by_cases hjk : j = k
    · subst hjk
      obtain rfl := Option.some.inj (hm.symm.trans hj)
      refine ⟨u, hu, v, rfl, ?_⟩
      rcases hv with ⟨rfl, _⟩ | ⟨_, h2⟩
      · rw [less_no]; omega
      · exact h2
    · have hl' : left (kl j) = false := by simpa [kl_same, hjk] using hl
      obtain ⟨u', h1, v', h2, h3⟩ := h.1 j m' hj hl'
      refine ⟨u', h1, v, rfl, ?_⟩
      rcases hv with ⟨rfl, h4⟩ | ⟨h4, _⟩
      · have := h4 v' h2
        rw [less_iff] at this
        rw [less_no] at *
        omega
      · obtain rfl := Option.some.inj (h4.symm.trans h2)
        exact h3
  · obtain rfl := Option.some.inj hv'
    rcases hv with ⟨rfl, _⟩ | ⟨h4, _⟩
    · exact ⟨k, m, hm, hu⟩
    · exact h.2 v h4
theorem MinOf.start {ms : List ByteArray} {D : DataW Nat} {w : World} (h : MapHas w D ms ms.length) : MinOf ms (has D) none := by
  refine ⟨fun j m hj hl => ?_, fun v hv => by cases hv⟩
  have := (h.1 j m (List.getElem?_eq_some_iff.1 hj).1 hj).1
  rw [this] at hl
  cases hl
/-- what comes out of the map -/
theorem entry_of {w : World} {D : DataW Nat} {ms : List ByteArray} {left : Lit → Bool} {z : Lit} {c : Option Addr} {y : DataW Nat × List MemPlace} (h : MapHas w D ms ms.length) (hl : ∀ z, left z = true → has D z = true) (hz : left z = true) (hy : ptrElem (.pointer c) = some y) (hat : ∀ zd, D.atKey z zd = y.1) :
    ∃ k m, z = kl k ∧ ms[k]? = some m ∧ ((m.size = 0 ∧ c = none) ∨ (m.size ≠ 0 ∧ ∃ b, c = some ⟨b, 0, none⟩ ∧ Blk w b 105 [.string m, .string ⟨#[]⟩])) := by
  obtain ⟨k, hk, rfl⟩ := h.2 z (hl z hz)
  obtain ⟨m, hm⟩ : ∃ m, ms[k]? = some m := ⟨_, List.getElem?_eq_getElem hk⟩
  obtain ⟨_, d, hd, hel⟩ := h.1 k m hk hm
  have hyd : y.1 = d := (hat .nil).symm.trans (hd .nil)
  refine ⟨k, m, rfl, hm, ?_⟩
  rcases hel with ⟨h1, rfl⟩ | ⟨h1, b, rfl, hb⟩
  · refine .inl ⟨h1, ?_⟩
    cases c with
    | none => rfl
    | some a =>
      obtain ⟨bb, oo, sp⟩ := a
      unfold ptrElem at hy
      split at hy
      · rename_i hq; cases hq
      · obtain rfl := Option.some.inj hy; cases hyd
      · cases hy
  · refine .inr ⟨h1, b, ?_, hb⟩
    unfold ptrElem at hy
    split at hy
    · rename_i hq
      obtain rfl := Option.some.inj hy; cases hyd
    · rename_i b' hq
      obtain rfl := Option.some.inj hy
      simp only at hyd
      cases hyd
      simpa using hq
    · cases hy
theorem verOfD_empty {m : ByteArray} (h : m.size = 0) : verOfD m = none := by
  unfold verOfD
  have : m.data.toList = [] := List.eq_nil_of_length_eq_zero (by rw [Array.length_toList]; exact h)
  rw [this]
  rfl
/-- the pointer to the least one -/
def MinAns (ms : List ByteArray) (w : World) (e : Ending) (w' : World) : Prop := ∃ o, Least (ms.map verOfD) o ∧ PtrV w o e w'
theorem minAns_none {ms : List ByteArray} {w w' : World} {k : Nat} {m : ByteArray} (hm : ms[k]? = some m) (hv : verOfD m = none) (e : Ext w w') : MinAns ms w (.returned (.pointer none)) w' :=
  ⟨none, .inr (List.mem_map.2 ⟨m, List.mem_of_getElem? hm, hv⟩), rfl, e⟩

/-! ### A step of the loop over a map turns the iterator alone -/
def IterAt (w : World) (r : Nat) : Prop := ∀ cs T f, w.heap[r]? ≠ some (.cells cs T f)
theorem ranges_iter {w : World} {P : Program} {k : TypeId} {R : Value → Option (DataW Nat × List MemPlace)} {b r n : Nat} {D : DataW Nat} {left : Lit → Bool} {cnt : Nat} (h : w.ranges P k R b r n D left cnt) : IterAt w r := by
  obtain ⟨es, clock, since, seen, c0, _, _, _, _, hr, _⟩ := h
  intro cs T f he
  rw [hr] at he
  cases he
theorem iter_cell {w w' : World} {r : Nat} (hi : IterAt w r) (hg : w.grownBy w' (some r)) {p : Addr} {v : Value} (h : w.cell? p = some v) : w'.cell? p = some v := by
  have hp : p.block ≠ r := by
    intro e
    unfold World.cell? at h
    split at h
    · rename_i cs T f hq
      rw [e] at hq
      exact hi _ _ _ hq
    · cases h
  rw [World.cell?_of_block (hg.block p.block (cell_lt h) (by simp [hp]))]
  exact h
theorem iter_v3 {w w' : World} {r : Nat} (hi : IterAt w r) (hg : w.grownBy w' (some r)) {x y : Nat} {a b c : Int} (h : V3 w x y a b c) : V3 w' x y a b c := ⟨iter_cell hi hg h.1, iter_cell hi hg h.2.1, iter_cell hi hg h.2.2⟩
theorem iter_ptr {w w' : World} {r s : Nat} (hi : IterAt w r) (hg : w.grownBy w' (some r)) {u : Value} {o : Option VD} (h : PtrIs w s u o) : PtrIs w' s u o := by
  cases o with
  | none => exact h
  | some v => obtain ⟨c, h1, h2, h3⟩ := h; exact ⟨c, h1, h2, iter_v3 hi hg h3⟩
theorem iter_var {w w' : World} {r : Nat} (hi : IterAt w r) (hg : w.grownBy w' (some r)) {P : Program} {n : String} {cs : Array Value} (h : w.var? P n = some cs) : w'.var? P n = some cs := by
  unfold World.var? at *
  cases hgn : P.globalNamed n with
  | none => rw [hgn] at h; cases h
  | some g =>
    rw [hgn] at h
    simp only [Option.bind_some] at *
    have hlt : g < w.heap.size := by
      cases hq : w.heap[g]? with
      | none => rw [hq] at h; cases h
      | some o => exact (Array.getElem?_eq_some_iff.1 hq).1
    have hgr : g ≠ r := by
      intro e
      subst e
      split at h
      · rename_i cs' T f hq; exact hi _ _ _ hq
      · cases h
    rw [hg.block g hlt (by simp [hgr])]; exact h
theorem iter_vars {w w' : World} {r : Nat} (hi : IterAt w r) (hg : w.grownBy w' (some r)) (h : VarsOk w) : VarsOk w' := by
  obtain ⟨⟨tp, p, h1⟩, h2⟩ := h
  exact ⟨⟨tp, p, iter_var hi hg h1⟩, iter_var hi hg h2⟩
noncomputable def ops_52_12 : Array Oper := opsAt Tryz.f52 12
noncomputable def ops_52_15 : Array Oper := opsAt Tryz.f52 15
set_option maxRecDepth 20000 in
set_option maxHeartbeats 4000000 in
theorem min_any (mb b : Nat) (g : GD) (A : Option Addr) (n cap : Nat) (x : VoteD) (w : World) (h : Grd w b g A n cap x) (hmon : MonAt w mb b) (hn : n = g.members.length) (hle : n ≤ 12) (hm : (Rp.slice Rp.str).K w any g.members [.slice A n cap]) (hok : ∀ s ∈ g.members, VTx s) (hw : VarsOk w) :
    Calls Tryz.prog 52 #[.pointer (some ⟨mb, 0, none⟩)] w (MinAns g.members w) := by
  have g1 := hmon.cell (o := 1) rfl
  have HOK := Lib.hid hok
  have hc := getMembers_any b g A n cap x w h hn hle hm
  have HC := Lib.hid hc
  have hw' := Lib.hid hw
  clear hok hc hw hn hm
  go_enter Tryz.func52, Tryz.ntmps52
  go_wp2_with fail
  refine HC.out.mono ?_
  rintro e w1 ⟨mp, D, rfl, hmp, hown, hD, E1⟩
  have HOWN := Lib.hid hown
  have HD := Lib.hid hD
  clear hown hD
  go_wp2_with fail
  rw [← vt373]
  refine (newVersion_some _ v373 v373_ok rfl w1).mono ?_
  rintro e w2 ⟨lb, rfl, _, LV, E2⟩
  have HOWN2 := Lib.hid (HOWN.out.kept (Ext.grownBy E2) (by simp))
  have HD2 := Lib.hid (HD.out.ext (fun c T cs K => K.ext E2))
  clear HOWN HD
  go_wp2_with fail
  refine (must_any _ _).mono ?_
  rintro e w3 ⟨rfl, rfl⟩
  go_wp2_with (at_range; refine wpList_range_own _ rfl _ 101 rfl 9 103 strKeyed Tryz.underlying101 ptrElem mp g.members.length D rfl HOWN2.out ?_; intro w0 hrg0 hg0 hs0)
  go_frame
  have HRG := Lib.hid hrg0
  have E3 : Ext w2 w0 := Ext.ofGrown hg0
  have hs3 := E3.size
  have hs2 := E2.size
  have hs1 := E1.size
  have LV3 := LV.ext E3
  have HD3 := Lib.hid (HD2.out.ext (fun c T cs K => K.ext E3))
  have ER : Ext w w0 := (E1.trans E2).trans E3
  have EL : Hid (w2.heap.size < w0.heap.size) := Lib.hid (by omega)
  clear hrg0 hg0 hs0 LV HD2 HOWN2 E1 E2 E3
  obtain ⟨r, hr⟩ : ∃ r, w2.heap.size = r := ⟨_, rfl⟩
  rw [hr] at HRG
  rw [hr]
  have hrw : w.heap.size ≤ r := by omega
  have FIN : Hid (∀ w', ExtX (fun k => k = r) w0 w' → Ext w w') := Lib.hid (fun w' h => ((ER.toX (fun k => k = r)).trans h).toExt (fun k hk => by have hk : k = r := hk; omega))
  clear hs1 hs2 hs3 hrw
  go_loopw [4] (fun u4 wr => ∃ (left : Lit → Bool) (cnt : Nat) (o : Option VD), Hid (wr.ranges Tryz.prog 9 ptrElem mp r g.members.length D left cnt) ∧ Hid (MapHas wr D g.members g.members.length) ∧ Hid (∀ z, left z = true → has D z = true) ∧ Hid (PtrIs wr w.heap.size u4 o) ∧ Hid (MinOf g.members left o) ∧ Hid (VarsOk wr) ∧ Hid (V3 wr lb 0 3 7 3) ∧ ExtX (fun k => k = r) w0 wr) (fun _ wr => wr.rangeLeft mp r)
  case atStart => exact ⟨_, _, none, HRG, HD3, Lib.hid (fun z h => h), Lib.hid rfl, Lib.hid (MinOf.start HD3.out), Lib.hid (hw'.out.ext ER), Lib.hid LV3, ExtX.refl _ _⟩
  case round =>
    obtain ⟨left, cnt, o, hrg, hD, hleft, hptr, hmin, hvars, hlv, hE⟩ := hrel
    clear HRG HD3 LV3 hr
    go_wp2_with (first
      | (at_next; go_loud (refine wpList_next_ranges _ rfl _ rfl 9 strKeyed ptrElem Value.string Value.pointer (fun key z hk => by obtain ⟨s, rfl, _⟩ := string_of_keyOf Tryz.underlying9 hk; exact ⟨s, rfl⟩) (fun v y hy => by unfold ptrElem at hy; split at hy <;> first | exact ⟨_, rfl⟩ | cases hy) mp r g.members.length D left cnt (by first | rfl | (simp [Act.eval]; done) | (go_simp; done)) hrg.out ?_ ?_))
      | go_in)
    · intro _ hl0
      have hL := Lib.hid (hmin.out.least hl0)
      clear hl0
      go_wp2
      go_ret
      refine ⟨o, hL.out, ?_⟩
      have hp := hptr.out
      cases o with
      | none => obtain rfl := hp; exact ⟨rfl, FIN.out _ hE⟩
      | some v => obtain ⟨c, rfl, h1, h2⟩ := hp; exact ⟨c, rfl, h1, h2, FIN.out _ hE⟩
    · intro s c z y ps w4 cnt4 _ hz hy hat hrg4 hlt hg4 hs4 hen
      obtain ⟨k, m, rfl, hm, hcase⟩ := entry_of (y := (y, ps)) hD.out hleft.out hz hy hat
      have hi := ranges_iter hrg.out
      have HRG4 := Lib.hid hrg4
      have HD4 := Lib.hid (hD.out.ext (blk_grown hg4 hi))
      have HP4 := Lib.hid (iter_ptr hi hg4 hptr.out)
      have HV4 := Lib.hid (iter_vars hi hg4 hvars.out)
      have HL4 := Lib.hid (iter_v3 hi hg4 hlv.out)
      have E4 : ExtX (fun k => k = r) w0 w4 := hE.grown hg4 (fun k hk => (Option.some.inj hk).symm)
      have HM := Lib.hid hm
      have HEN := hen
      have e4 := blk_grown hg4 hi
      have hleft4 : Hid (∀ z, (fun z => left z && !z.sameKey (kl k)) z = true → has D z = true) := Lib.hid (fun z hz => hleft.out z (by simp at hz; exact hz.1))
      clear hrg4 hm hz hy hat hi hptr hvars hlv hD hg4 hs4
      rcases hcase with ⟨hm0, rfl⟩ | ⟨hm0, bm, rfl, K⟩
      · have hv0 := Lib.hid (verOfD_empty hm0)
        clear e4 hm0
        go_wp2
        go_ret
        exact minAns_none HM.out hv0.out (FIN.out _ E4)
      · have K4 := e4 _ _ _ K
        have gm := K4.cell (o := 0) rfl
        have hmem : m ∈ g.members := List.mem_of_getElem? HM.out
        have hnv := newVersion_vt m w4 (HOK.out m hmem) HV4.out
        clear e4 K K4 hm0 hmem
        cases hv : verOfD m with
        | none =>
          rw [hv] at hnv
          have HNV := Lib.hid hnv
          replace hv := Lib.hid hv
          clear hnv
          go_wp2_with fail
          refine HNV.out.mono ?_
          rintro e w5 ⟨te, ev, rfl, E5⟩
          go_wp2
          go_ret
          exact minAns_none HM.out hv.out (FIN.out _ (E4.trans (E5.toX _)))
        | some u =>
          rw [hv] at hnv
          have HNV := Lib.hid hnv
          replace hv := Lib.hid hv
          clear hnv
          go_wp2_with fail
          refine HNV.out.mono ?_
          rintro e w5 ⟨bu, rfl, hbu, VU, E5⟩
          have hsz : w.heap.size ≤ w4.heap.size := (FIN.out _ E4).size
          have HP5 := Lib.hid (HP4.out.ext E5)
          obtain ⟨l0, l1, l2⟩ := HL4.out.ext E5
          obtain ⟨q0, q1, q2⟩ := id VU
          clear HP4 gm
          go_wp2_with fail
          refine wp_region_sched (ops := ops_52_12) Ext [] (.quiet 0 (.quiet 1 (.quiet 2 (.quiet 3 (.quiet 4 (.quiet 5 (.loud 6 (.done) (.stop)))))))) (by kernel_rfl) ext_refl ext_trans (by kernel_rfl) (fun _ _ d _ _ h => by cases d <;> exact h) ?_
          refine wpS_quiet (some 37) { dst := some 37, op := Op.move (Operand.tmp 5), type := _, pos := _, after := _, guard := none } _ rfl rfl (by rfl) (fun wE hE => by (go_simp; try with_reducible rfl)) ?_; simp only [Act.put, List.setIfInBounds_toArray, List.set_cons_zero, List.set_cons_succ]
          refine wpS_quiet (some 38) { dst := some 38, op := Op.nilCheck (Operand.tmp 37), type := _, pos := _, after := _, guard := none } _ rfl rfl (by rfl) (fun wE hE => by (go_simp; try with_reducible rfl)) ?_; simp only [Act.put, List.setIfInBounds_toArray, List.set_cons_zero, List.set_cons_succ]
          refine wpS_quiet (some 39) { dst := some 39, op := Op.load 60 (Operand.tmp 38), type := _, pos := _, after := _, guard := none } _ rfl rfl (by rfl) (fun wE hE => by (have zk0 := hE.cellS l0; have zk1 := hE.cellS l1; have zk2 := hE.cellS l2; have zk3 := hE.cellS q0; have zk4 := hE.cellS q1; have zk5 := hE.cellS q2; go_simp; try with_reducible rfl)) ?_; simp only [Act.put, List.setIfInBounds_toArray, List.set_cons_zero, List.set_cons_succ]
          refine wpS_quiet (some 40) { dst := some 40, op := Op.move (Operand.tmp 8), type := _, pos := _, after := _, guard := none } _ rfl rfl (by rfl) (fun wE hE => by (go_simp; try with_reducible rfl)) ?_; simp only [Act.put, List.setIfInBounds_toArray, List.set_cons_zero, List.set_cons_succ]
          refine wpS_quiet (some 41) { dst := some 41, op := Op.nilCheck (Operand.tmp 40), type := _, pos := _, after := _, guard := none } _ rfl rfl (by rfl) (fun wE hE => by (go_simp; try with_reducible rfl)) ?_; simp only [Act.put, List.setIfInBounds_toArray, List.set_cons_zero, List.set_cons_succ]
          refine wpS_quiet (some 42) { dst := some 42, op := Op.load 60 (Operand.tmp 41), type := _, pos := _, after := _, guard := none } _ rfl rfl (by rfl) (fun wE hE => by (have zk0 := hE.cellS l0; have zk1 := hE.cellS l1; have zk2 := hE.cellS l2; have zk3 := hE.cellS q0; have zk4 := hE.cellS q1; have zk5 := hE.cellS q2; go_simp; try with_reducible rfl)) ?_; simp only [Act.put, List.setIfInBounds_toArray, List.set_cons_zero, List.set_cons_succ]
          refine wpS_call (some 43) { dst := some 43, op := Op.call { callee := Callee.value (Operand.func 57), args := #[Operand.tmp 39, Operand.tmp 42], argTypes := #[68, 60] }, type := _, pos := _, after := _, guard := none } 57 _ rfl rfl (by rfl) (by go_simp; try first | with_reducible rfl | exact ⟨rfl, rfl⟩) ?_
          refine (less_any 3 7 3 u.maj u.mnr u.pat w5.drew).mono ?_; rintro e w6 ⟨rfl, e6⟩; refine ⟨_, rfl, e6, ?_⟩; simp only [Act.put, List.setIfInBounds_toArray, List.set_cons_zero, List.set_cons_succ]
          change Exit.then _ _ _ _ _
          have E6 : Ext w5 w6 := e6.undrew
          have E46 := E5.trans E6
          have HP6 := Lib.hid (HP5.out.ext E6)
          have VU6 := VU.ext E6
          obtain ⟨q0, q1, q2⟩ := id VU6
          have HVU := Lib.hid VU6
          clear e6 HP5 l0 l1 l2 VU VU6
          cases o with
          | none =>
            obtain rfl := HP6.out
            go_wp2
            all_goals
              have HRG6 := Lib.hid (HRG4.out.kept (Ext.grownBy E46) (by simp) (by simp))
              go_roundw
              case rel => exact ⟨_, cnt4, some u, HRG6, Lib.hid (HD4.out.ext (fun c T cs K => K.ext E46)), hleft4, Lib.hid ⟨bu, rfl, by omega, HVU.out⟩, Lib.hid (hmin.out.step HM.out hv.out (.inl ⟨rfl, fun v' h => by cases h⟩)), Lib.hid (HV4.out.ext E46), Lib.hid (HL4.out.ext E46), E4.trans (E46.toX _)⟩
              case measure => rw [HRG6.out.left_eq, hrg.out.left_eq]; exact hlt
          | some v0 =>
            obtain ⟨c0, rfl, hc0, V0⟩ := HP6.out
            obtain ⟨p0, p1, p2⟩ := id V0
            clear HP6
            go_wp2_with fail
            all_goals
              refine wp_region_sched (ops := ops_52_15) Ext [] (.quiet 0 (.quiet 1 (.quiet 2 (.quiet 3 (.quiet 4 (.quiet 5 (.loud 6 (.done) (.stop)))))))) (by kernel_rfl) ext_refl ext_trans (by kernel_rfl) (fun _ _ d _ _ h => by cases d <;> exact h) ?_
              refine wpS_quiet (some 47) { dst := some 47, op := Op.move (Operand.tmp 8), type := _, pos := _, after := _, guard := none } _ rfl rfl (by rfl) (fun wE hE => by (go_simp; try with_reducible rfl)) ?_; simp only [Act.put, List.setIfInBounds_toArray, List.set_cons_zero, List.set_cons_succ]
              refine wpS_quiet (some 48) { dst := some 48, op := Op.nilCheck (Operand.tmp 47), type := _, pos := _, after := _, guard := none } _ rfl rfl (by rfl) (fun wE hE => by (go_simp; try with_reducible rfl)) ?_; simp only [Act.put, List.setIfInBounds_toArray, List.set_cons_zero, List.set_cons_succ]
              refine wpS_quiet (some 49) { dst := some 49, op := Op.load 60 (Operand.tmp 48), type := _, pos := _, after := _, guard := none } _ rfl rfl (by rfl) (fun wE hE => by (have zk0 := hE.cellS p0; have zk1 := hE.cellS p1; have zk2 := hE.cellS p2; have zk3 := hE.cellS q0; have zk4 := hE.cellS q1; have zk5 := hE.cellS q2; go_simp; try with_reducible rfl)) ?_; simp only [Act.put, List.setIfInBounds_toArray, List.set_cons_zero, List.set_cons_succ]
              refine wpS_quiet (some 50) { dst := some 50, op := Op.move (Operand.tmp 4), type := _, pos := _, after := _, guard := none } _ rfl rfl (by rfl) (fun wE hE => by (go_simp; try with_reducible rfl)) ?_; simp only [Act.put, List.setIfInBounds_toArray, List.set_cons_zero, List.set_cons_succ]
              refine wpS_quiet (some 51) { dst := some 51, op := Op.nilCheck (Operand.tmp 50), type := _, pos := _, after := _, guard := none } _ rfl rfl (by rfl) (fun wE hE => by (go_simp; try with_reducible rfl)) ?_; simp only [Act.put, List.setIfInBounds_toArray, List.set_cons_zero, List.set_cons_succ]
              refine wpS_quiet (some 52) { dst := some 52, op := Op.load 60 (Operand.tmp 51), type := _, pos := _, after := _, guard := none } _ rfl rfl (by rfl) (fun wE hE => by (have zk0 := hE.cellS p0; have zk1 := hE.cellS p1; have zk2 := hE.cellS p2; have zk3 := hE.cellS q0; have zk4 := hE.cellS q1; have zk5 := hE.cellS q2; go_simp; try with_reducible rfl)) ?_; simp only [Act.put, List.setIfInBounds_toArray, List.set_cons_zero, List.set_cons_succ]
              refine wpS_call (some 53) { dst := some 53, op := Op.call { callee := Callee.value (Operand.func 57), args := #[Operand.tmp 49, Operand.tmp 52], argTypes := #[68, 60] }, type := _, pos := _, after := _, guard := none } 57 _ rfl rfl (by rfl) (by go_simp; try first | with_reducible rfl | exact ⟨rfl, rfl⟩) ?_
              refine (less_any u.maj u.mnr u.pat v0.maj v0.mnr v0.pat w6.drew).mono ?_; rintro e w7 ⟨rfl, e7⟩; refine ⟨_, rfl, e7, ?_⟩; simp only [Act.put, List.setIfInBounds_toArray, List.set_cons_zero, List.set_cons_succ]
              change Exit.then _ _ _ _ _
              have E47 : Ext w4 w7 := E46.trans e7.undrew
              have HU7 := Lib.hid (HVU.out.ext e7.undrew)
              have H07 := Lib.hid (V0.ext e7.undrew)
              have HRG7 := Lib.hid (HRG4.out.kept (Ext.grownBy E47) (by simp) (by simp))
              cases hlb : vless u.maj u.mnr u.pat v0.maj v0.mnr v0.pat with
              | true =>
                replace hlb := Lib.hid hlb
                go_wp2
                go_roundw
                case rel => exact ⟨_, cnt4, some u, HRG7, Lib.hid (HD4.out.ext (fun c T cs K => K.ext E47)), hleft4, Lib.hid ⟨bu, rfl, by omega, HU7.out⟩, Lib.hid (hmin.out.step HM.out hv.out (.inl ⟨rfl, fun v' h => by obtain rfl := Option.some.inj h; exact hlb.out⟩)), Lib.hid (HV4.out.ext E47), Lib.hid (HL4.out.ext E47), E4.trans (E47.toX _)⟩
                case measure => rw [HRG7.out.left_eq, hrg.out.left_eq]; exact hlt
              | false =>
                replace hlb := Lib.hid hlb
                go_wp2
                go_roundw
                case rel => exact ⟨_, cnt4, some v0, HRG7, Lib.hid (HD4.out.ext (fun c T cs K => K.ext E47)), hleft4, Lib.hid ⟨c0, rfl, hc0, H07.out⟩, Lib.hid (hmin.out.step HM.out hv.out (.inr ⟨rfl, hlb.out⟩)), Lib.hid (HV4.out.ext E47), Lib.hid (HL4.out.ext E47), E4.trans (E47.toX _)⟩
                case measure => rw [HRG7.out.left_eq, hrg.out.left_eq]; exact hlt
end Go.Proofs.YtdokcengcekfgaaGreatDoor
