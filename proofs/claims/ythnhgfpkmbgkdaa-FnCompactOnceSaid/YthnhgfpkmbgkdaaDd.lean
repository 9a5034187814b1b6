/-
  CompactHashCheck walked: over whatever checkPeerHashes answers.
-/
import Derived.Test.YthnhgfpkmbgkdaaDc
import Derived.Handy
import Derived.Deep.Cut
namespace Go.Proofs.Ythnhgfpkmbgkdaa
open Go.RowKit
set_option linter.unusedSimpArgs false
set_option linter.unusedVariables false

noncomputable def ops_31_4 : Array Oper := opsAt Try.f31 4
/-- what a round of checks leaves -/
def RoundAns (c b B : Nat) (x : HSt) (al rl : List Int) (latest : Int) (stp rt : HsD → Bool) (als : HsD → List Int) (L : List HsD) (w : World) (e : Ending) (w' : World) : Prop :=
  e = .returned (.tuple #[]) ∧ CkAt w' c b (latestG stp rt latest L) ∧ (∃ vr va, HAt w' b B { x with revs := vr, alarms := va } (al ++ alarmG stp als L) (rl ++ askedG stp L) ∧ ∀ k, HPriv b { x with revs := vr, alarms := va } k → HPriv b x k ∨ w.heap.size ≤ k) ∧ ExtX (fun k => k = c ∨ HPriv b x k) w w'
/-- the contract of checkPeerHashes that a round wants -/
def ChkOk (c b B : Nat) (x : HSt) (al : List Int) (latest : Int) (pf : Int → List CkD) (stp rt : HsD → Bool) (als : HsD → List Int) (L : List HsD) : Prop :=
  ∀ h ∈ L, pf h.rev ≠ [] → ∀ (x' : HSt) (rl' : List Int) (w' : World) (v : Value), x'.own = x.own → CkAt w' c b latest → HAt w' b B x' al rl' → ¬ HPriv b x' c → (Rp.slice Rp.pp).K w' (fun k => k ≠ c ∧ ¬ HPriv b x' k) (pf h.rev) [v] →
    Calls Try.prog 40 #[.pointer (some ⟨c, 0, none⟩), hsV h, v] w' (ChkAns c b B x' al rl' latest h (stp h) (rt h) (als h) w')
set_option maxRecDepth 20000 in
set_option maxHeartbeats 4000000 in
theorem compactHash_any (c b B cc k0 : Nat) (latest : Int) (x : HSt) (al rl : List Int) (l : List HsD) (vh vr0 vp : Value) (revs : List Int) (pss : List (List CkD)) (stp rt : HsD → Bool) (als : HsD → List Int) (w : World) (hK : CkAt w c b latest) (hH : HAt w b B x al rl) (hl : (Rp.slice Rp.hs).K w any l [x.hashes]) (hn : l.length ≤ 12) (hrl0 : rl.length ≤ 900)
    (hchk : Hid (ChkOk c b B x al latest (peersD revs pss) stp rt als (unchk latest l))) (hst0 : Hid (∀ h ∈ unchk latest l, peersD revs pss h.rev = [] → stp h = false)) (hst1 : Hid (∀ h ∈ unchk latest l, stp h = false → rt h = false ∧ als h = [])) (hpl : Hid (∀ r, (peersD revs pss r).length ≤ 12)) (hps2 : Hid (∀ ps ∈ pss, ps.length ≤ 1000))
    (hcc : Hid (w.cell? ⟨cc, 0, none⟩ = some (.func (.func 22) #[] #[.pointer (some ⟨k0, 0, none⟩)]))) (hk0 : Hid (Blk w k0 34 [vh, vr0, vp])) (hrv : Hid ((Rp.slice Rp.i64).K w (fun j => j ≠ c ∧ ¬ HPriv b x j) revs [vr0])) (hpv : Hid ((Rp.slice (Rp.slice Rp.ck)).K w (fun j => j ≠ c ∧ ¬ HPriv b x j) pss [vp])) (hout : Hid ((cc ≠ c ∧ ¬ HPriv b x cc) ∧ k0 ≠ c ∧ ¬ HPriv b x k0)) (hcb : c ≠ b ∧ ¬ HPriv b x c)
    (hfn : x.fn = .func (.func 29) #[] #[.pointer (some ⟨cc, 0, none⟩)]) :
    Calls Try.prog 31 #[.pointer (some ⟨c, 0, none⟩)] w (RoundAns c b B x al rl latest stp rt als (unchk latest l) w) := by
  have HK := Lib.hid hK
  have HH := Lib.hid hH
  clear hK hH
  go_enter Try.func31, Try.ntmps31
  go_wp2_with fail
  refine (unchecked_any c b B latest x al rl l _ HK.out HH.out hl hn).mono ?_
  rintro e w1 ⟨v1, rfl, O1, E1⟩
  have HO := Lib.hid ((Rp.slice Rp.hs).lt O1)
  clear O1 hl
  have hLl : (unchk latest l).length ≤ 12 := by have h1 := (List.takeWhile_sublist (fun h : HsD => decide (latest < h.rev)) (l := sortD l)).length_le; rw [sortD_len] at h1; unfold unchk; omega
  generalize unchk latest l = L at *
  have HK1 := Lib.hid (Blk.ext HK.out E1)
  have HH1 := Lib.hid (HH.out.ext E1)
  obtain ⟨A, cap, he, p1, p2, p3, hrow⟩ := HO.out
  simp only [List.cons.injEq, and_true] at he
  subst he
  clear p3
  have HR := Lib.hid hrow
  clear hrow
  go_wp2_with fail
  go_loopw [10] (fun i wr => ∃ (k : Nat) (vr va : Value), i = .int .i64 k ∧ k ≤ L.length ∧ Hid (HAt wr b B { x with revs := vr, alarms := va } al (rl ++ (L.take k).map (·.rev))) ∧ Hid (CkAt wr c b latest) ∧ Hid (∀ h ∈ L.take k, stp h = false) ∧ Hid (∀ j, HPriv b { x with revs := vr, alarms := va } j → HPriv b x j ∨ w1.heap.size ≤ j) ∧ ExtX (fun j => j = c ∨ HPriv b x j) w1 wr) (fun i _ => L.length - (intOf i).toNat)
  case atStart => exact ⟨0, x.revs, x.alarms, rfl, Nat.zero_le _, Lib.hid (by simpa using HH1.out), Lib.hid HK1.out, Lib.hid (by simp), Lib.hid (fun j h => .inl h), ExtX.refl _ _⟩
  case round =>
    obtain ⟨k, vr, va, rfl, hk, hH, hC, hS, hP, hE⟩ := hrel
    by_cases hlt : k < L.length
    · obtain ⟨h, hh⟩ : ∃ h, L[k]? = some h := ⟨_, List.getElem?_eq_getElem hlt⟩
      obtain ⟨ba, o, rfl, hob⟩ := HR.out.addr (List.ne_nil_of_length_pos (by omega))
      obtain ⟨_, hc⟩ := flat_at HR.out rfl hh (Ext.refl w1)
      have hbn : ¬ (ba = c ∨ HPriv b x ba) := fun hm => by
        have h2 : w.heap.size ≤ ba := hob.1
        rcases hm with hm | hm
        · have h1 : c < w.heap.size := Blk.lt HK.out; omega
        · have h1 := (HH.out.priv hm).2; omega
      have c0 := ExtX.cellS hE hbn (hc 0 _ rfl)
      have c1 := ExtX.cellS hE hbn (hc 1 _ rfl)
      have c2 := ExtX.cellS hE hbn (hc 2 _ rfl)
      simp only [Nat.add_zero, ← Nat.add_assoc] at c0 c1 c2
      have HHh := Lib.hid hh
      clear hh hc
      go_wp2_with fail
      obtain ⟨W, hW⟩ : ∃ W, W = wr.alloc (.cells (hsCells h).toArray 55) := ⟨_, rfl⟩
      have EW : Ext wr W := by rw [hW]; exact (Ext.refl wr).alloc _
      have KF : Blk W wr.heap.size 55 (hsCells h) := by rw [hW]; exact Blk.new wr _ _
      change Code.wp _ _ _ _ (wr.alloc (.cells (hsCells h).toArray 55))
      rw [← hW]
      clear hW c0 c1 c2
      have HHW := Lib.hid (hH.out.ext EW)
      have HCW := Lib.hid (Blk.ext hC.out EW)
      have k1 := HCW.out.cell (o := 1) rfl
      have f2 := KF.cell (o := 2) rfl
      have hna : ∀ w : World, (nilAhead 277 69 (.pointer (some ⟨b, 0, none⟩)) "PeerHashByRev").run Try.prog w = .ok (some false) w := fun _ => by kernel_rfl
      have hme : ∀ w : World, (method 277 69 (.pointer (some ⟨b, 0, none⟩)) "PeerHashByRev").run Try.prog w = .ok (94, .pointer (some ⟨b, 0, none⟩)) w := fun _ => by kernel_rfl
      have hnF : ¬ HPriv b { x with revs := vr, alarms := va } wr.heap.size := fun hm => by have := (hH.out.priv hm).2; omega
      have hcw : c < w1.heap.size := Blk.lt HK1.out
      have hnC : ¬ HPriv b { x with revs := vr, alarms := va } c := fun hm => by rcases hP.out c hm with h1 | h1; exact hcb.2 h1; omega
      refine wp_region_sched (ops := ops_31_4) (ExtX (HPriv b { x with revs := vr, alarms := va })) [] (.quiet 0 (.quiet 1 (.quiet 2 (.quiet 3 (.quiet 4 (.quiet 5 (.loud 6 (.quiet 7 (.done)) (.stop)))))))) (by kernel_rfl) (ExtX.refl (HPriv b { x with revs := vr, alarms := va })) (fun _ _ _ => ExtX.trans) (by kernel_rfl) (fun _ _ d _ _ h => by cases d <;> exact h) ?_
      refine wpS_quiet (some 14) { dst := some 14, op := Op.move (Operand.tmp 0), type := _, pos := _, after := _, guard := none } _ rfl rfl (by rfl) (fun wE hE => by (go_simp; try with_reducible rfl)) ?_; simp only [Act.put, List.setIfInBounds_toArray, List.set_cons_zero, List.set_cons_succ]
      refine wpS_quiet (some 15) { dst := some 15, op := Op.nilCheck (Operand.tmp 14), type := _, pos := _, after := _, guard := none } _ rfl rfl (by rfl) (fun wE hE => by (go_simp; try with_reducible rfl)) ?_; simp only [Act.put, List.setIfInBounds_toArray, List.set_cons_zero, List.set_cons_succ]
      refine wpS_quiet (some 16) { dst := some 16, op := Op.fieldAddr 81 (Operand.tmp 15) 1, type := _, pos := _, after := _, guard := none } _ rfl rfl (by rfl) (fun wE hE => by (go_simp; try with_reducible rfl)) ?_; simp only [Act.put, List.setIfInBounds_toArray, List.set_cons_zero, List.set_cons_succ]
      refine wpS_quiet (some 17) { dst := some 17, op := Op.load 77 (Operand.tmp 16), type := _, pos := _, after := _, guard := none } _ rfl rfl (by rfl) (fun wE hE => by (have zk0 := hE.cellS (by first | exact hnC | exact hnF) k1; have zk1 := hE.cellS (by first | exact hnC | exact hnF) f2; go_simp; try with_reducible rfl)) ?_; simp only [Act.put, List.setIfInBounds_toArray, List.set_cons_zero, List.set_cons_succ]
      refine wpS_quiet (some 18) { dst := some 18, op := Op.fieldAddr 55 (Operand.tmp 4) 2, type := _, pos := _, after := _, guard := none } _ rfl rfl (by rfl) (fun wE hE => by (go_simp; try with_reducible rfl)) ?_; simp only [Act.put, List.setIfInBounds_toArray, List.set_cons_zero, List.set_cons_succ]
      refine wpS_quiet (some 19) { dst := some 19, op := Op.load 2 (Operand.tmp 18), type := _, pos := _, after := _, guard := none } _ rfl rfl (by rfl) (fun wE hE => by (have zk0 := hE.cellS (by first | exact hnC | exact hnF) k1; have zk1 := hE.cellS (by first | exact hnC | exact hnF) f2; go_simp; try with_reducible rfl)) ?_; simp only [Act.put, List.setIfInBounds_toArray, List.set_cons_zero, List.set_cons_succ]
      have XW0 : ExtX (fun j => j = c ∨ HPriv b x j) w W := (E1.toX _).trans (hE.trans (EW.toX _))
      have hsz := E1.size
      have hout2 : ∀ j, j < w.heap.size → (j ≠ c ∧ ¬ HPriv b x j) → ¬ HPriv b { x with revs := vr, alarms := va } j := fun j hj hn hm => by rcases hP.out j hm with h1 | h1; exact hn.2 h1; omega
      have hcl : cc < w.heap.size := cell_lt (p := ⟨cc, 0, none⟩) hcc.out
      have hkl := hk0.out.lt
      have hccW : Hid (W.cell? ⟨cc, 0, none⟩ = some (.func (.func 22) #[] #[.pointer (some ⟨k0, 0, none⟩)])) := Lib.hid (ExtX.cellS (p := ⟨cc, 0, none⟩) XW0 (fun hm => by rcases hm with hm | hm; exact hout.out.1.1 hm; exact hout.out.1.2 hm) hcc.out)
      have hk0W := Lib.hid (hk0.out.extX XW0 (fun hm => by rcases hm with hm | hm; exact hout.out.2.1 hm; exact hout.out.2.2 hm))
      have hrvW := Lib.hid ((Rp.slice Rp.i64).extX XW0 ((Rp.slice Rp.i64).lt hrv.out) (fun j hj hm => by rcases hm with hm | hm; exact hj.1.1 hm; exact hj.1.2 hm))
      have hpvW := Lib.hid ((Rp.slice (Rp.slice Rp.ck)).extX XW0 ((Rp.slice (Rp.slice Rp.ck)).lt hpv.out) (fun j hj hm => by rcases hm with hm | hm; exact hj.1.1 hm; exact hj.1.2 hm))
      have hrl : (rl ++ (L.take k).map (·.rev)).length ≤ 1000 := by rw [List.length_append, List.length_map, List.length_take]; omega
      have hfnc : Hid (∀ W2, ExtX (HPriv b { x with revs := vr, alarms := va }) W.drew W2 → Calls Try.prog 29 #[.int .i64 h.rev, .pointer (some ⟨cc, 0, none⟩)] W2 (AskAns (peersD revs pss h.rev) W2)) := Lib.hid (fun W2 X2 =>
        clo29 cc k0 vh vr0 vp revs pss h.rev W2 (ExtX.cellS (p := ⟨cc, 0, none⟩) X2.undrew (hout2 cc hcl hout.out.1) hccW.out) (hk0W.out.extX X2.undrew (hout2 k0 hkl hout.out.2))
          ((Rp.slice Rp.i64).toAny ((Rp.slice Rp.i64).extX X2.undrew hrvW.out (fun j hj => hout2 j hj.2 hj.1))) ((Rp.slice (Rp.slice Rp.ck)).toAny ((Rp.slice (Rp.slice Rp.ck)).extX X2.undrew hpvW.out (fun j hj => hout2 j hj.2 hj.1))) hps2.out (Nat.le_trans (hpl.out h.rev) (by omega)))
      refine wpS_call (some 20) { dst := some 20, op := Op.call { callee := Callee.invoke (Operand.tmp 17) "PeerHashByRev", args := #[Operand.tmp 19], argTypes := #[2] }, type := _, pos := _, after := _, guard := none } _ _ rfl rfl (by rfl) (by go_simp; try first | with_reducible rfl | exact ⟨rfl, rfl⟩) ?_
      refine (ask29 b B { x with revs := vr, alarms := va } al (rl ++ (L.take k).map (·.rev)) h.rev cc (peersD revs pss h.rev) _ (HHW.out.ext (Ext.refl _).drew) hrl hfn hfnc.out).mono ?_; rintro e w3 ⟨vr3, v3, rfl, h3, o3, X3, hp3⟩; refine ⟨_, rfl, X3, ?_⟩; simp only [Act.put, List.setIfInBounds_toArray, List.set_cons_zero, List.set_cons_succ]
      refine wpS_quiet (some 5) { dst := some 5, op := Op.assign (Operand.tmp 20), type := _, pos := _, after := _, guard := none } _ rfl rfl (by rfl) (fun wE hE => by (go_simp; try with_reducible rfl)) ?_; simp only [Act.put, List.setIfInBounds_toArray, List.set_cons_zero, List.set_cons_succ]
      change Exit.then _ _ _ _ _
      generalize hps : peersD revs pss h.rev = ps at o3
      replace hps := Lib.hid hps
      obtain ⟨A3, cap3, rfl, q3, q4⟩ := o3.shape
      have HO3 := Lib.hid o3
      have HH3 : Hid (HAt w3 b B { x with revs := vr3, alarms := va } al (rl ++ (L.take k).map (·.rev) ++ [h.rev])) := Lib.hid h3
      have HX3 := Lib.hid X3.undrew
      have HK3 := Lib.hid (Blk.extX HCW.out X3.undrew hnC)
      have KF3 := KF.extX X3.undrew hnF
      have hP3 : Hid (∀ j, HPriv b { x with revs := vr3, alarms := va } j → HPriv b x j ∨ w1.heap.size ≤ j) := Lib.hid (fun j hj => by
        rcases hp3 j hj with h1 | h1
        · exact hP.out j h1
        · have h2 := hE.size; have h3 := EW.size; have : W.heap.size ≤ j := h1; exact .inr (by omega))
      have X13 : ExtX (fun j => j = c ∨ HPriv b x j) w1 w3 := (hE.trans (EW.toX _)).trans' HX3.out (fun j hj hm => by rcases hP.out j hm with h1 | h1; exact .inr h1; omega)
      have e0 := KF3.cell (o := 0) rfl
      have e1 := KF3.cell (o := 1) rfl
      have e2 := KF3.cell (o := 2) rfl
      have hsn : (L.take (k + 1)).map (·.rev) = (L.take k).map (·.rev) ++ [h.rev] := by rw [take_snoc' HHh.out, List.map_append]; rfl
      have hrl3 : Hid (HAt w3 b B { x with revs := vr3, alarms := va } al (rl ++ (L.take (k + 1)).map (·.rev))) := Lib.hid (by rw [hsn, ← List.append_assoc]; exact HH3.out)
      clear h3 X3 hp3 hna hme k1 f2
      have hmem := List.mem_of_getElem? HHh.out
      by_cases hpe : ps = []
      · subst hpe
        have hst : Hid (∀ z ∈ L.take (k + 1), stp z = false) := Lib.hid (by
          rw [take_snoc' HHh.out]; intro z hz
          rcases List.mem_append.1 hz with hz | hz
          · exact hS.out z hz
          · rw [List.mem_singleton.1 hz]; exact hst0.out h hmem hps.out)
        clear o3
        go_wp2_with fail
        go_roundw
        case rel => exact ⟨k + 1, vr3, va, by go_num, by omega, hrl3, HK3, hst, hP3, X13⟩
        case measure => simp [intOf]; omega
      · have hq0 : (ps.length : Int) ≠ 0 := by have := List.length_pos_iff.2 hpe; omega
        have hnC3 : ¬ HPriv b { x with revs := vr3, alarms := va } c := fun hm => by rcases hP3.out c hm with h1 | h1; exact hcb.2 h1; omega
        have hsl : (Rp.slice Rp.pp).K w3 (fun k => k ≠ c ∧ ¬ HPriv b { x with revs := vr3, alarms := va } k) (peersD revs pss h.rev) [.slice A3 ps.length cap3] := by rw [hps.out]; exact (Rp.slice Rp.pp).mono (fun j hj => ⟨fun he => by have h1 : W.heap.size ≤ j := hj.1; have h2 := EW.size; have h3 := hE.size; rw [he] at h1; omega, hj.2⟩) o3.slice
        have hck : Hid (Calls Try.prog 40 #[.pointer (some ⟨c, 0, none⟩), hsV h, .slice A3 ps.length cap3] w3 (ChkAns c b B { x with revs := vr3, alarms := va } al (rl ++ (L.take k).map (·.rev) ++ [h.rev]) latest h (stp h) (rt h) (als h) w3)) :=
          Lib.hid (hchk.out h hmem (by rw [hps.out]; exact hpe) { x with revs := vr3, alarms := va } _ w3 _ rfl HK3.out HH3.out hnC3 hsl)
        clear o3 hsl
        replace hpe := Lib.hid hpe
        go_wp2_with fail
        refine hck.out.mono ?_
        rintro e w4 ⟨rfl, hK4, ⟨va4, hH4, hP4⟩, X4⟩
        have HH4 := Lib.hid hH4
        have HK4 := Lib.hid hK4
        have hP5 : Hid (∀ j, HPriv b { x with revs := vr3, alarms := va4 } j → HPriv b x j ∨ w1.heap.size ≤ j) := Lib.hid (fun j hj => by
          rcases hP4 j hj with h1 | h1
          · exact hP3.out j h1
          · have h2 := X13.size; exact .inr (by omega))
        have X14 : ExtX (fun j => j = c ∨ HPriv b x j) w1 w4 := X13.trans' X4 (fun j hj hm => by rcases hm with rfl | hm; exact .inl rfl; rcases hP3.out j hm with h1 | h1; exact .inr h1; omega)
        clear hH4 hK4 hP4 X4 hck e0 e1 e2
        cases hs : stp h with
        | true =>
          have a1 := Lib.hid (asked_stop HHh.out hS.out hs)
          have a2 := Lib.hid (latestG_stop (rt := rt) (latest := latest) HHh.out hS.out hs)
          have a3 := Lib.hid (alarmG_stop (als := als) HHh.out hS.out hs)
          replace hs := Lib.hid hs
          go_wp2_with fail
          go_end0
          refine ⟨rfl, by rw [a2.out]; exact HK4.out, ⟨vr3, va4, by rw [a1.out, a3.out, ← List.append_assoc]; exact HH4.out, fun j hj => (hP5.out j hj).imp (fun h => h) (fun h => Nat.le_trans E1.size h)⟩, (E1.toX _).trans X14⟩
        | false =>
          obtain ⟨r1, r2⟩ := hst1.out h hmem hs
          have hst : Hid (∀ z ∈ L.take (k + 1), stp z = false) := Lib.hid (by
            rw [take_snoc' HHh.out]; intro z hz
            rcases List.mem_append.1 hz with hz | hz
            · exact hS.out z hz
            · rw [List.mem_singleton.1 hz]; exact hs)
          have HK5 : Hid (CkAt w4 c b latest) := Lib.hid (by have := HK4.out; rw [r1] at this; exact this)
          have HH5 : Hid (HAt w4 b B { x with revs := vr3, alarms := va4 } al (rl ++ (L.take (k + 1)).map (·.rev))) := Lib.hid (by have := HH4.out; rw [r2, List.append_nil] at this; rw [hsn, ← List.append_assoc]; exact this)
          replace hs := Lib.hid hs
          clear r1 r2
          go_wp2_with fail
          go_roundw
          case rel => exact ⟨k + 1, vr3, va4, by go_num, by omega, HH5, HK5, hst, hP5, X14⟩
          case measure => simp [intOf]; omega
    · have hkn : k = L.length := by omega
      have hS2 : ∀ h ∈ L, stp h = false := by have := hS.out; rw [hkn, List.take_length] at this; exact this
      have hA : Hid (askedG stp L = (L.take k).map (·.rev)) := Lib.hid (by rw [askedG_split stp L k hS.out, hkn, List.drop_length]; simp [askedG])
      have hLt : Hid (latestG stp rt latest L = latest) := Lib.hid (latestG_none hS2)
      have hAl : Hid (alarmG stp als L = []) := Lib.hid (alarmG_none hS2)
      clear hS2
      go_wp2_with fail
      go_end0
      refine ⟨rfl, ?_, ⟨vr, va, ?_, fun j h => (hP.out j h).imp (fun h => h) (fun h => Nat.le_trans E1.size h)⟩, (E1.toX _).trans hE⟩
      · rw [hLt.out]; exact hC.out
      · rw [hA.out, hAl.out, List.append_nil]; exact hH.out
end Go.Proofs.Ythnhgfpkmbgkdaa
