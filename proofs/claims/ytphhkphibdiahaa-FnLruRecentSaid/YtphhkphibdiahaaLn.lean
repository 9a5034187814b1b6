/-
  impl.Lru, walked.
-/
import Derived.Test.YtphhkphibdiahaaLo
import Derived.Handy
import Derived.Laws.EntriesVeiled
namespace Go.Proofs.Ytphhkphibdiahaa
open Go.RowKit
set_option linter.unusedSimpArgs false
set_option linter.unusedVariables false

/-- the keys that are kept apart from a world on -/
def okL (w : World) (OB : Nat → Prop) (q : Nat) : Prop := w.heap.size ≤ q ∧ ¬ OB q
/-- at the head of a round -/
structure LpI (w : World) (c g gb : Nat) (size : Int) (L : PL) (aw : List AnD) (u7 : Value) (OB : Nat → Prop) (its : List It) (ps : PL) (wr : World) : Prop where
  ob : ∀ q, OB q → w.heap.size ≤ q ∧ q < wr.heap.size
  out : OwnP Rp.an wr OB w.heap.size 36 u7 aw
  lu : LU wr (okL w OB) c g gb size its ps
  ab : prs its = L
  ext : Ext w wr
def LpE (w : World) (c g gb : Nat) (size : Int) (L : PL) (aw : List AnD) (u7 : Value) (wr : World) : Prop := ∃ OB its ps, LpI w c g gb size L aw u7 OB its ps wr
/-- behind the operation itself -/
structure SwI (w W : World) (c g gb : Nat) (size : Int) (a : Nat) (OB : Nat → Prop) (r : PL × AnD) (its : List It) (wx : World) : Prop where
  lu : LU wx (fun q => okL w OB q ∧ q ≠ a) c g gb size its r.2.out
  ab : prs its = r.1
  an : Blk wx a 36 (anCells r.2.ok r.2.val (.slice none 0 0) (.slice none 0 0))
  ext : ExtX (fun q => okL w OB q) W wx
def SwE (w W : World) (c g gb : Nat) (size : Int) (a : Nat) (OB : Nat → Prop) (r : PL × AnD) (wx : World) : Prop := ∃ its, SwI w W c g gb size a OB r its wx
theorem SwE.of {w W : World} {c g gb : Nat} {size : Int} {a : Nat} {OB : Nat → Prop} {r : PL × AnD} {its : List It} {ps L : PL} {ok : Bool} {val : Int} {wx : World} (lu : LU wx (fun q => okL w OB q ∧ q ≠ a) c g gb size its ps) (hr : r = (L, ⟨ok, val, ps⟩)) (hab : prs its = L)
    (an : Blk wx a 36 (anCells ok val (.slice none 0 0) (.slice none 0 0))) (ext : ExtX (fun q => okL w OB q) W wx) : SwE w W c g gb size a OB r wx := by
  subst hr
  exact ⟨its, lu, hab, an, ext⟩
/-- in the midst of telling what has gone out -/
def InI (wc : World) (a : Nat) (ok : Bool) (val : Int) (out : PL) (wx : World) : Prop :=
  ∃ vO vV, Blk wx a 36 (anCells ok val vO vV) ∧ OwnP Rp.iv wx (fun q => wc.heap.size ≤ q ∧ some q ≠ vV.ownBlock) wc.heap.size 3 vO (outK out) ∧ OwnP Rp.iv wx (fun q => wc.heap.size ≤ q ∧ some q ≠ vO.ownBlock) wc.heap.size 3 vV (outV out) ∧ ExtX (fun q => q = a) wc wx
noncomputable def ops_7_30 : Array Oper := opsAt Try.f7 30
noncomputable def ops_7_31 : Array Oper := opsAt Try.f7 31
set_option maxRecDepth 20000 in
set_option maxHeartbeats 4000000 in
theorem implLru_any (size : Int) (ops : List OpD) (v : Value) (w : World) (h : (Rp.slice Rp.op).K w any ops [v]) (hn : ops.length ≤ 402) (hs0 : 0 ≤ size) (hs1 : size ≤ 1000) (hkind : Hid (∀ o ∈ ops, 1 ≤ o.kind ∧ o.kind ≤ 6)) :
    Calls Try.prog 7 #[.int .i64 size, v] w fun e w' => ∃ v', e = .returned v' ∧ OwnP Rp.an w' (fun q => w.heap.size ≤ q) w.heap.size 36 v' (ansP size ops []) ∧ Ext w w' := by
  obtain ⟨A, cap, hv, p1, p2, p3, hrow⟩ := h
  simp only [List.cons.injEq, and_true] at hv
  subst hv
  have HR := Lib.hid hrow
  clear hrow
  have E0 : Ext w (w.alloc (.cells #[.slice none 0 0] 43)) := (Ext.refl w).alloc _
  have HN := Lib.hid (newU_any (fun q => w.heap.size ≤ q) w.heap.size size (w.alloc (.cells #[.slice none 0 0] 43)) (Nat.le_refl _) (Blk.new w _ _) (fun k hk => Nat.le_trans E0.size hk))
  go_enter Try.func7, Try.ntmps7
  go_wp2_with fail
  rw [Int.max_eq_left hs0]
  refine HN.out.mono ?_
  rintro r w1 ⟨c, g, rfl, hu, e1⟩
  have HST : Hid (LpE w c g w.heap.size size (stP size (ops.take 0)) (ansP size (ops.take 0) []) (.slice none 0 0) w1) := Lib.hid ⟨fun _ => False, [], [], fun _ h => h.elim, OwnP.nil _ _ _ _ _, hu.turn fun k _ h => ⟨h, fun h => h⟩, rfl, E0.trans e1⟩
  clear hu e1
  go_wp2_with fail
  go_loopw [7, 8] (fun u7 i wr => ∃ k : Nat, i = .int .i64 k ∧ k ≤ ops.length ∧ Hid (LpE w c g w.heap.size size (stP size (ops.take k)) (ansP size (ops.take k) []) u7 wr)) (fun _ i _ => ops.length - (intOf i).toNat)
  case atStart => exact ⟨0, rfl, Nat.zero_le _, HST⟩
  case round =>
    rename_i u7 u8
    obtain ⟨k, rfl, hk, hI⟩ := hrel
    by_cases hlt : k < ops.length
    · obtain ⟨o, ho⟩ : ∃ o, ops[k]? = some o := ⟨_, List.getElem?_eq_getElem hlt⟩
      obtain ⟨OB, its, ps, hL⟩ := hI.out
      obtain ⟨ba, off, rfl, _⟩ := HR.out.addr (List.ne_nil_of_length_pos (by omega))
      obtain ⟨_, hc⟩ := flat_at (HR.out.ext' hL.ext) rfl ho
      have c0 := hc 0 _ rfl
      have c1 := hc 1 _ rfl
      have c2 := hc 2 _ rfl
      simp only [Nat.add_zero, ← Nat.add_assoc] at c0 c1 c2
      have HO := Lib.hid ho
      have HL := Lib.hid hL
      obtain ⟨vg, kg, og, okg⟩ := hL.lu.gone
      have g0 := kg.cell (o := 0) rfl
      have gf := kg.frozen 0
      have KG := Lib.hid kg
      clear ho hc hI hL kg og
      go_upto_region 9 with fail
      clear c0 c1 c2 g0 gf
      have EA : Ext wr (wr.alloc (.cells (opCells o).toArray 32)) := (Ext.refl _).alloc _
      have EB := EA.alloc (.cells (anCells false 0 (.slice none 0 0) (.slice none 0 0)).toArray 36)
      have KO := (Blk.new wr 32 (opCells o)).ext ((Ext.refl _).alloc (.cells (anCells false 0 (.slice none 0 0) (.slice none 0 0)).toArray 36))
      have KA := blk_at (wr.alloc (.cells (opCells o).toArray 32)) 36 (anCells false 0 (.slice none 0 0) (.slice none 0 0)) (wr.heap.size + 1) (by simp)
      have hsz : ((wr.alloc (.cells (opCells o).toArray 32)).alloc (.cells (anCells false 0 (.slice none 0 0) (.slice none 0 0)).toArray 36)).heap.size = wr.heap.size + 2 := by simp
      change Code.wp _ _ _ _ ((wr.alloc (.cells (opCells o).toArray 32)).alloc (.cells (anCells false 0 (.slice none 0 0) (.slice none 0 0)).toArray 36))
      generalize (wr.alloc (.cells (opCells o).toArray 32)).alloc (.cells (anCells false 0 (.slice none 0 0) (.slice none 0 0)).toArray 36) = W at EB KO KA hsz ⊢
      obtain ⟨a, ha⟩ : ∃ a, a = wr.heap.size + 1 := ⟨_, rfl⟩
      rw [← ha] at KA ⊢
      have HA := Lib.hid ha
      have HSZ := Lib.hid hsz
      have kg := KG.out.ext EB
      have g0 := kg.cell (o := 0) rfl
      have gf := kg.frozen 0
      have HKO := Lib.hid KO
      have HKA := Lib.hid KA
      have hgw : w.heap.size < wr.heap.size := KG.out.lt
      clear ha hsz kg KO KA EA
      go_upto_region 10 with fail
      clear g0 gf
      have hna : a ≠ w.heap.size := by rw [HA.out]; omega
      have hno : wr.heap.size ≠ w.heap.size := by omega
      have LA : Hid (LU (W.setCell ⟨w.heap.size, 0, none⟩ (.slice none 0 0)) (fun q => okL w OB q ∧ q ≠ a) c g w.heap.size size its []) := Lib.hid ((HL.out.lu.turn fun q hq hk => ⟨hk, by rw [HA.out]; omega⟩).ext EB).reset
      have XW : ExtX (fun q => okL w OB q) wr (W.setCell ⟨w.heap.size, 0, none⟩ (.slice none 0 0)) := (EB.toX _).trans (setC_X _ _ 0 _ okg)
      have KA := HKA.out.setCell_ne (p := ⟨w.heap.size, 0, none⟩) (Ne.symm hna) (.slice none 0 0)
      have KO := HKO.out.setCell_ne (p := ⟨w.heap.size, 0, none⟩) (Ne.symm hno) (.slice none 0 0)
      have hsz : (W.setCell ⟨w.heap.size, 0, none⟩ (.slice none 0 0)).heap.size = wr.heap.size + 2 := by rw [← HSZ.out]; simp [World.setCell]
      generalize W.setCell ⟨w.heap.size, 0, none⟩ (.slice none 0 0) = W2 at LA XW KA KO hsz ⊢
      replace hsz := Lib.hid hsz
      have HXW := Lib.hid XW
      have o0 := KO.cell (o := 0) rfl
      have o1 := KO.cell (o := 1) rfl
      have o2 := KO.cell (o := 2) rfl
      have HOK := Lib.hid KO
      replace HKA := Lib.hid KA
      clear XW KA KO EB HKO HSZ hno hna
      go_upto_block 2 with fail
      go_cut [] (fun wx => Hid (SwE w W2 c g w.heap.size size a OB (doP size (prs its) o) wx))
      case first =>
        have hkd := hkind.out o (List.mem_of_getElem? HO.out)
        have hnk := LA.out.nk
        have hlen : its.length ≤ 402 := by
          have h1 := (st_inv hs0 (ops.take k)).len
          rw [← HL.out.ab] at h1
          have h2 : (ops.take k).length ≤ k := List.length_take_le _ _
          simp only [prs, List.length_map] at h1
          omega
        have hokf : ∀ q, W2.heap.size ≤ q → okL w OB q ∧ q ≠ a := fun q hq => by
          have h1 := hsz.out
          have h2 := HL.out.ext.size
          exact ⟨⟨by omega, fun hb => by have := (HL.out.ob q hb).2; omega⟩, by rw [HA.out]; omega⟩
        have hoka : Hid (okL w OB a) := Lib.hid (by
          have h2 := HL.out.ext.size
          exact ⟨by rw [HA.out]; omega, fun hb => by have := (HL.out.ob a hb).2; rw [HA.out] at this; omega⟩)
        replace hokf := Lib.hid hokf
        replace hnk := Lib.hid hnk
        clear HN HST hk hlt
        rcases (show o.kind = 1 ∨ o.kind = 2 ∨ o.kind = 3 ∨ o.kind = 4 ∨ o.kind = 5 ∨ o.kind = 6 by omega) with k1 | k1 | k1 | k1 | k1 | k1
        · have K1 := Lib.hid k1
          have t1 : (o.kind == 1) = true := by simp [k1]
          clear hkd k1
          by_cases hin : o.key ∈ its.map (·.k)
          · obtain ⟨X, x, Y, rfl, hx⟩ := item_of hin
            have HX := Lib.hid hx
            rw [← hx] at o1
            clear hin hx
            go_wp2_with fail
            refine (uAddHit_any _ c g w.heap.size size X Y x o.val [] W2 LA.out).mono ?_
            rintro e w3 ⟨rfl, h3⟩
            have H3 := Lib.hid h3
            have HXU := Lib.hid h3.2
            have KA2 := HKA.out.extX h3.2 (fun hb => hb.2 rfl)
            clear h3
            go_wp2_with fail
            go_meet
            exact Lib.hid (SwE.of H3.out.1 (do1h K1.out HX.out hnk.out) rfl KA2 (HXU.out.mono fun _ _ h => h.1))
          · have HIN := Lib.hid hin
            clear hin
            go_wp2_with fail
            refine (uAddMiss_any _ c g w.heap.size size its o.key o.val [] W2 LA.out HIN.out (by omega) (by simp) hs0 hs1 (fun q hq => hokf.out q hq)).mono ?_
            rintro e w3 ⟨rfl, e1, t1, h3⟩
            have H3 := Lib.hid h3
            have HXU := Lib.hid h3.2
            have KA2 := HKA.out.extX h3.2 (fun hb => hb.2 rfl)
            clear h3
            go_wp2_with fail
            go_meet
            exact Lib.hid (SwE.of H3.out.1 (by rw [List.nil_append]; exact do1m K1.out HIN.out e1 t1) rfl KA2 (HXU.out.mono fun _ _ h => h.1))
        · have K1 := Lib.hid k1
          have t1 : (o.kind == 1) = false := by simp [k1]
          have t2 : (o.kind == 2) = true := by simp [k1]
          clear hkd k1
          by_cases hin : o.key ∈ its.map (·.k)
          · obtain ⟨X, x, Y, rfl, hx⟩ := item_of hin
            have HX := Lib.hid hx
            rw [← hx] at o1
            clear hin hx
            go_wp2_with fail
            refine (uGetHit_any _ c g w.heap.size size X Y x [] W2 LA.out).mono ?_
            rintro e w3 ⟨rfl, h3⟩
            have H3 := Lib.hid h3
            have HXU := Lib.hid h3.2
            have KA2 := HKA.out.extX h3.2 (fun hb => hb.2 rfl)
            clear h3
            have a0 := KA2.cell (o := 0) rfl
            have a1 := KA2.cell (o := 1) rfl
            have fa0 := KA2.frozen 0
            have fa1 := KA2.frozen 1
            have ta := taV x.v
            have KA3 := Lib.hid ((KA2.setCell 0 (.bool true)).setCell 1 (.int .i64 x.v))
            have X3 := Lib.hid ((setC_E w3 a 0 (.bool true)).trans (setC_E _ a 1 (.int .i64 x.v)))
            clear KA2
            go_wp2_with fail
            go_meet
            exact Lib.hid (SwE.of (H3.out.1.extX X3.out (fun q hq _ e => hq.2 e)) (do2h K1.out HX.out hnk.out) rfl KA3.out ((HXU.out.mono fun _ _ h => h.1).trans (X3.out.mono fun q _ hq => hq ▸ hoka.out)))
          · have HIN := Lib.hid hin
            clear hin
            go_wp2_with fail
            refine (uGetMiss_any _ c g w.heap.size size its o.key [] W2 LA.out HIN.out).mono ?_
            rintro e w3 ⟨rfl, h3⟩
            have H3 := Lib.hid h3
            have HXU := Lib.hid h3.2
            have KA2 := HKA.out.extX h3.2 (fun hb => hb.2 rfl)
            clear h3
            go_wp2_with fail
            go_meet
            exact Lib.hid (SwE.of H3.out.1 (do2m K1.out HIN.out) rfl KA2 (HXU.out.mono fun _ _ h => h.1))
        · have K1 := Lib.hid k1
          have t1 : (o.kind == 1) = false := by simp [k1]
          have t2 : (o.kind == 2) = false := by simp [k1]
          have t3 : (o.kind == 3) = true := by simp [k1]
          clear hkd k1
          by_cases hin : o.key ∈ its.map (·.k)
          · obtain ⟨X, x, Y, rfl, hx⟩ := item_of hin
            have HX := Lib.hid hx
            rw [← hx] at o1
            clear hin hx
            go_wp2_with fail
            refine (uRemHit_any _ c g w.heap.size size X Y x [] W2 LA.out (by omega) (by simp) (fun q hq => hokf.out q hq)).mono ?_
            rintro e w3 ⟨rfl, h3⟩
            have H3 := Lib.hid h3
            have HXU := Lib.hid h3.2
            have KA2 := HKA.out.extX h3.2 (fun hb => hb.2 rfl)
            clear h3
            go_wp2_with fail
            go_meet
            exact Lib.hid (SwE.of H3.out.1 (do3h K1.out HX.out hnk.out) rfl KA2 (HXU.out.mono fun _ _ h => h.1))
          · have HIN := Lib.hid hin
            clear hin
            go_wp2_with fail
            refine (uRemMiss_any _ c g w.heap.size size its o.key [] W2 LA.out HIN.out).mono ?_
            rintro e w3 ⟨rfl, h3⟩
            have H3 := Lib.hid h3
            have HXU := Lib.hid h3.2
            have KA2 := HKA.out.extX h3.2 (fun hb => hb.2 rfl)
            clear h3
            go_wp2_with fail
            go_meet
            exact Lib.hid (SwE.of H3.out.1 (do3m K1.out HIN.out) rfl KA2 (HXU.out.mono fun _ _ h => h.1))
        · have K1 := Lib.hid k1
          have t1 : (o.kind == 1) = false := by simp [k1]
          have t2 : (o.kind == 2) = false := by simp [k1]
          have t3 : (o.kind == 3) = false := by simp [k1]
          have t4 : (o.kind == 4) = true := by simp [k1]
          clear hkd k1
          go_wp2_with fail
          refine (uOld_any _ c g w.heap.size size its [] W2 LA.out (by omega) (by simp) (fun q hq => hokf.out q hq)).mono ?_
          rintro e w3 ⟨rfl, h3⟩
          have H3 := Lib.hid h3
          have HXU := Lib.hid h3.2
          have KA2 := HKA.out.extX h3.2 (fun hb => hb.2 rfl)
          clear h3
          go_wp2_with fail
          go_meet
          exact Lib.hid (SwE.of H3.out.1 (by rw [List.nil_append]; exact do4 K1.out) rfl KA2 (HXU.out.mono fun _ _ h => h.1))
        · have K1 := Lib.hid k1
          have t1 : (o.kind == 1) = false := by simp [k1]
          have t2 : (o.kind == 2) = false := by simp [k1]
          have t3 : (o.kind == 3) = false := by simp [k1]
          have t4 : (o.kind == 4) = false := by simp [k1]
          have t5 : (o.kind == 5) = true := by simp [k1]
          clear hkd k1
          go_wp2_with fail
          refine (uLen_any _ c g w.heap.size size its [] W2 LA.out).mono ?_
          rintro e w3 ⟨rfl, h3⟩
          have H3 := Lib.hid h3
          have HXU := Lib.hid h3.2
          have KA2 := HKA.out.extX h3.2 (fun hb => hb.2 rfl)
          clear h3
          have a1 := KA2.cell (o := 1) rfl
          have fa1 := KA2.frozen 1
          have KA3 := Lib.hid (KA2.setCell 1 (.int .i64 its.length))
          have X3 := Lib.hid (setC_E w3 a 1 (.int .i64 its.length))
          clear KA2
          go_wp2_with fail
          go_meet
          exact Lib.hid (SwE.of (H3.out.1.extX X3.out (fun q hq _ e => hq.2 e)) (do5 K1.out) rfl KA3.out ((HXU.out.mono fun _ _ h => h.1).trans (X3.out.mono fun q _ hq => hq ▸ hoka.out)))
        · have K1 := Lib.hid k1
          have t1 : (o.kind == 1) = false := by simp [k1]
          have t2 : (o.kind == 2) = false := by simp [k1]
          have t3 : (o.kind == 3) = false := by simp [k1]
          have t4 : (o.kind == 4) = false := by simp [k1]
          have t5 : (o.kind == 5) = false := by simp [k1]
          have t6 : (o.kind == 6) = true := by simp [k1]
          clear hkd k1
          go_wp2_with fail
          refine (uClear_any _ c g w.heap.size size its [] W2 LA.out (by omega) (by simp) (fun q hq => hokf.out q hq)).mono ?_
          rintro e w3 ⟨rfl, dI, hp, h3⟩
          rw [List.nil_append] at h3
          have H3 := Lib.hid h3
          have HXU := Lib.hid h3.2
          have KA2 := HKA.out.extX h3.2 (fun hb => hb.2 rfl)
          clear h3
          obtain ⟨vg, kg, og, _⟩ := H3.out.1.gone
          have g0 := kg.cell (o := 0) rfl
          have HKG := Lib.hid kg
          have HP := Lib.hid hp
          have hdl : (prs dI).length ≤ 2000 := by have := hp.length_eq; simp [prs]; omega
          have HS := Lib.hid (sortPr_any _ vg (prs dI) w3 og hdl (by rw [ks_prs]; exact (hp.map _).nodup_iff.2 hnk.out))
          have hno := GN.apart_own og
          clear kg og hp
          obtain ⟨Ag, ng, cg, rfl⟩ := hno
          go_wp2_with fail
          refine HS.out.mono ?_
          rintro e w4 ⟨rfl, o4, x4⟩
          have L4 := Lib.hid (H3.out.1.sorted HKG.out o4 x4)
          have KA4 := Lib.hid (KA2.extX x4 (H3.out.1.ownNe HKG.out KA2 (by decide)))
          have X4 := Lib.hid (x4.mono (M' := fun q => okL w OB q) (fun q _ hq => H3.out.1.ownOk HKG.out q hq))
          clear o4 x4 KA2
          go_wp2_with fail
          go_meet
          exact Lib.hid (SwE.of (L4.out) (by rw [do6 K1.out, show sortP (prs its) = sortP (prs dI) from sortP_perm hnk.out HP.out]) rfl KA4.out ((HXU.out.mono fun _ _ h => h.1).trans X4.out))
      case rest =>
        obtain ⟨wq, hwq⟩ : ∃ wq, wq = wr := ⟨_, rfl⟩
        subst hwq
        obtain ⟨its', hS⟩ := hcut.out
        have HS := Lib.hid hS
        obtain ⟨out, hout⟩ : ∃ out, out = (doP size (prs its) o).2.out := ⟨_, rfl⟩
        have hol : out.length ≤ 404 := by
          have h1 := out_len o hs0 (st_inv hs0 (ops.take k))
          rw [← HL.out.ab, ← hout] at h1
          have h2 : (ops.take k).length ≤ k := List.length_take_le _ _
          omega
        have hST2 : InI wc a (doP size (prs its) o).2.ok (doP size (prs its) o).2.val (out.take 0) wc := ⟨_, _, hS.an, OwnP.nil _ _ _ _ _, OwnP.nil _ _ _ _ _, ExtX.refl _ _⟩
        have HST2 := Lib.hid hST2
        obtain ⟨vg, kg, og, okg2⟩ := hS.lu.gone
        rw [← hout] at og
        have HKG := Lib.hid kg
        have HOG := Lib.hid og
        have HOUT := Lib.hid hout
        have hga : w.heap.size ≠ a := okg2.2
        have hac := Lib.hid hS.an.lt
        have hgc := kg.lt
        obtain ⟨Ag, ng, cg, rfl⟩ := own_shape og
        have hng : ng = out.length := by obtain ⟨_, _, h, _⟩ := og.shape; simp only [Value.slice.injEq] at h; exact h.2.1
        subst hng
        clear hS hST2 kg og hout HST HN hk HKA HOK o0 o1 o2
        go_wp2_with fail
        go_loopw [13] (fun i wx => ∃ j : Nat, i = .int .i64 j ∧ j ≤ out.length ∧ Hid (InI wc a (doP size (prs its) o).2.ok (doP size (prs its) o).2.val (out.take j) wx)) (fun i _ => out.length - (intOf i).toNat)
        case atStart => exact ⟨0, rfl, Nat.zero_le _, HST2⟩
        case round =>
          obtain ⟨j, rfl, hj, hI2⟩ := hrel
          obtain ⟨vO, vV, kA, oO, oV, xI⟩ := hI2.out
          have KG2 := HKG.out.extX xI hga
          have g0 := KG2.cell (o := 0) rfl
          by_cases hjl : j < out.length
          · obtain ⟨p, hp⟩ : ∃ p, out[j]? = some p := ⟨_, List.getElem?_eq_getElem hjl⟩
            obtain ⟨pg, rfl⟩ : ∃ pg, Ag = some ⟨pg, 0, none⟩ := by
              rcases HOG.out.form with ⟨_, h⟩ | ⟨pg, cp, h, _⟩
              · rw [h] at hjl; simp at hjl
              · simp only [Value.slice.injEq] at h; exact ⟨pg, h.1⟩
            have hpga : pg ≠ a := (HOG.out.1 pg rfl).1.1.2
            obtain ⟨A1, c1, hv1, _, _, _, hrow1⟩ := HOG.out.slice
            simp only [List.cons.injEq, Value.slice.injEq, and_true, true_and] at hv1
            obtain ⟨rfl, rfl⟩ := hv1
            obtain ⟨_, hcp⟩ := flat_at hrow1 rfl hp
            have q0 : wr.cell? ⟨pg, 0 + (j * 2 + 0), none⟩ = some (.int .i64 p.1) := xI.cellS hpga (hcp 0 _ rfl)
            have q1 : wr.cell? ⟨pg, 0 + (j * 2 + 1), none⟩ = some (.int .i64 p.2) := xI.cellS hpga (hcp 1 _ rfl)
            have hq1 : Hid (wc.cell? ⟨pg, j * 2 + 1, none⟩ = some (.int .i64 p.2)) := Lib.hid (by have := hcp 1 _ rfl; simpa using this)
            simp only [Nat.add_zero, Nat.zero_add] at q0
            clear q1
            obtain ⟨i0, hi, hz0, hz1, hz2⟩ := info_parts3 infoI
            have hOl : (outK (out.take j)).length ≤ 404 := by simp only [outK, List.length_map, List.length_take]; omega
            have hVl : (outV (out.take j)).length ≤ 404 := by simp only [outV, List.length_map, List.length_take]; omega
            have HP := Lib.hid hp
            have hjl' : ((j : Int) < (out.length : Int)) := by omega
            clear hp hcp hrow1 hI2
            have a2 := kA.cell (o := 2) rfl
            go_wp2_with fail
            refine wp_region_schedT (ops := ops_7_30) Ext [8, 10] (.quiet 0 (.quiet 1 (.quiet 2 (.quiet 3 (.quiet 4 (.quiet 5 (.quiet 6 (.loud 7 (.last 8 (.quiet 9 (.last 10 (.done)))) (.stop))))))))) (by kernel_rfl) ext_refl ext_trans (by kernel_rfl) (fun _ _ d _ _ h => by cases d <;> exact h) ?_
            refine wpS_quiet (some 84) { dst := some 84, op := Op.fieldAddr 36 (Operand.tmp 10) 2, type := _, pos := _, after := _, guard := none } _ rfl rfl (by rfl) (fun wE hE => by (go_simp; try with_reducible rfl)) ?_; simp only [Act.put, List.setIfInBounds_toArray, List.set_cons_zero, List.set_cons_succ]
            refine wpS_quiet (some 85) { dst := some 85, op := Op.load 34 (Operand.tmp 84), type := _, pos := _, after := _, guard := none } _ rfl rfl (by rfl) (fun wE hE => by (have zk0 := hE.cellS a2; have zk1 := hE.cellS g0; have zk2 := hE.cellS q0; go_simp; try with_reducible rfl)) ?_; simp only [Act.put, List.setIfInBounds_toArray, List.set_cons_zero, List.set_cons_succ]
            refine wpS_quiet (some 86) { dst := some 86, op := Op.load 43 (Operand.tmp 5), type := _, pos := _, after := _, guard := none } _ rfl rfl (by rfl) (fun wE hE => by (have zk0 := hE.cellS a2; have zk1 := hE.cellS g0; have zk2 := hE.cellS q0; go_simp; try with_reducible rfl)) ?_; simp only [Act.put, List.setIfInBounds_toArray, List.set_cons_zero, List.set_cons_succ]
            refine wpS_quiet (some 87) { dst := some 87, op := Op.move (Operand.tmp 13), type := _, pos := _, after := _, guard := none } _ rfl rfl (by rfl) (fun wE hE => by (go_simp; try with_reducible rfl)) ?_; simp only [Act.put, List.setIfInBounds_toArray, List.set_cons_zero, List.set_cons_succ]
            refine wpS_quiet (some 88) { dst := some 88, op := Op.indexAddr 43 (Operand.tmp 86) (Operand.tmp 87), type := _, pos := _, after := _, guard := none } _ rfl rfl (by rfl) (fun wE hE => by (go_simp; try with_reducible rfl)) ?_; simp only [Act.put, List.setIfInBounds_toArray, List.set_cons_zero, List.set_cons_succ]
            refine wpS_quiet (some 89) { dst := some 89, op := Op.fieldAddr 48 (Operand.tmp 88) 0, type := _, pos := _, after := _, guard := none } _ rfl rfl (by rfl) (fun wE hE => by (go_simp; try with_reducible rfl)) ?_; simp only [Act.put, List.setIfInBounds_toArray, List.set_cons_zero, List.set_cons_succ]
            refine wpS_quiet (some 90) { dst := some 90, op := Op.load 3 (Operand.tmp 89), type := _, pos := _, after := _, guard := none } _ rfl rfl (by rfl) (fun wE hE => by (have zk0 := hE.cellS a2; have zk1 := hE.cellS g0; have zk2 := hE.cellS q0; go_simp; try with_reducible rfl)) ?_; simp only [Act.put, List.setIfInBounds_toArray, List.set_cons_zero, List.set_cons_succ]
            refine wpS_make (some 91) { dst := some 91, op := Op.buildSlice 34 1 #[(0, Operand.tmp 90)], type := _, pos := _, after := _, guard := none } rfl rfl (by rfl) 3 [.int .i64 p.1] 1 (by go_simp; try rfl) (fun w' h => h) ?_ trivial
            intro b1 w1 hb1 e1 K1
            simp only [Act.put, List.setIfInBounds_toArray, List.set_cons_zero, List.set_cons_succ]
            have hvl : ∀ q, some q = Value.ownBlock vV → q < wr.heap.size := fun q hq => (oV.own q hq.symm).2
            have hsz1 : wr.heap.size ≤ w1.heap.size := e1.size
            obtain ⟨v2, w2, r2, own2, g2, f2⟩ := run_app (P := Try.prog) (d := Rp.iv) (w := w1) (xs := (outK (out.take j))) 34 34 3 i0 _ 8 Try.underlying34 hi hz0 hz1 hz2 rfl ((oO.drew).ext e1) (fun q hq => ⟨by have := xI.size; omega, fun he => by have := hvl q he; omega⟩) ⟨b1, 0, none⟩ 1 [.int .i64 p.1] [p.1] rfl (fun j u hu => by
              have : (⟨b1, 0, none⟩ : Addr).add j = ⟨b1, j, none⟩ := by unfold Addr.add; split <;> simp_all
              rw [this]; exact K1.cell hu) (one_elem (p := fun i y => Rp.iv.K _ _ y ((_ : List Value).drop (i * Rp.iv.sz) |>.take Rp.iv.sz)) ⟨rfl, trivial⟩) (by simp [maxLen]; omega) (by simp; omega) (by have := xI.size; omega)
            refine wpS_lastE (some 92) { dst := some 92, op := Op.call { callee := Callee.builtin Builtin.append, args := #[Operand.tmp 85, Operand.tmp 91], argTypes := #[34, 34] }, type := _, pos := _, after := _, guard := none } rfl rfl (by rfl) ?_
            refine ⟨_, w2, exec_app (.tmp 85) (.tmp 91) 34 rfl rfl rfl r2, ?_⟩
            simp only [Act.put, List.setIfInBounds_toArray, List.set_cons_zero, List.set_cons_succ]
            have hal : a < wc.heap.size := hac.out
            have hnoA : ¬ (some a = Value.ownBlock vO) := fun he => by have := (oO.own a he.symm).1; omega
            have XA2 : ExtX (fun q => some q = Value.ownBlock vO) wr w2 := (e1.undrew.toX _).grown g2 (fun q h => h.symm)
            have K2 := kA.extX XA2 hnoA
            have c2 := K2.cell (o := 2) rfl
            have f2' := K2.frozen 2
            obtain ⟨A2, n2, cap2, rfl⟩ := own_shape own2
            refine wpS_quiet (some 93) { dst := some 93, op := Op.fieldAddr 36 (Operand.tmp 10) 2, type := _, pos := _, after := _, guard := none } _ rfl rfl (by rfl) (fun wE hE => by (go_simp; try with_reducible rfl)) ?_; simp only [Act.put, List.setIfInBounds_toArray, List.set_cons_zero, List.set_cons_succ]
            refine wpS_last none { dst := none, op := Op.store 34 (Operand.tmp 93) (Operand.tmp 92), type := _, pos := _, after := _, guard := none } undef (World.setCell w2 ⟨a, 2, none⟩ (.slice A2 n2 cap2)) rfl rfl (by rfl) (.inr ⟨rfl, by (go_simp; try rfl)⟩) ?_
            simp only [Act.put]
            change Exit.then _ _ _ _ _
            have kA3 := K2.setCell 2 (.slice A2 n2 cap2)
            have XS := setC_E w2 a 2 (.slice A2 n2 cap2)
            have hin : ∀ q, wc.heap.size ≤ q → q ≠ a := fun q hq e => by omega
            have oO3 := own2.extX XS (fun q hq _ => hin q hq.1)
            have XN : ExtX (fun q => some q = Value.ownBlock vO ∨ q = a) wr (w2.setCell ⟨a, 2, none⟩ (.slice A2 n2 cap2)) := (XA2.mono fun _ _ h => .inl h).trans (XS.mono fun _ _ h => .inr h)
            have oV3 := (((oV.turn (ok' := fun q => (wc.heap.size ≤ q ∧ some q ≠ Value.ownBlock vO) ∧ q < wr.heap.size) fun q hq hl => ⟨hq, hl⟩)).extX XN (fun q hq _ h => h.elim hq.1.2 (hin q hq.1.1))).turn (ok' := fun q => wc.heap.size ≤ q ∧ some q ≠ Value.ownBlock (.slice A2 n2 cap2)) (fun q hq hl => ⟨hq.1.1, fun he => by
              rcases f2 with h | h
              · exact hq.1.2 (by rw [← h]; exact he)
              · have := h q he.symm
                have := hq.2
                omega⟩)
            have xI3 : ExtX (fun q => q = a) wc (w2.setCell ⟨a, 2, none⟩ (.slice A2 n2 cap2)) := (xI.trans' (M' := fun q => some q = Value.ownBlock vO ∨ q = a) XN fun q hq h => h.elim (fun h => by have := (oO.own q h.symm).1; omega) (fun h => h))
            generalize w2.setCell ⟨a, 2, none⟩ (.slice A2 n2 cap2) = w3 at kA3 oO3 oV3 xI3 ⊢
            have KG3 := HKG.out.extX xI3 hga
            have g0 := KG3.cell (o := 0) rfl
            have q1 : w3.cell? ⟨pg, j * 2 + 1, none⟩ = some (.int .i64 p.2) := by
              have := xI3.cellS (p := ⟨pg, j * 2 + 1, none⟩) hpga hq1.out
              exact this
            have a3 := kA3.cell (o := 3) rfl
            clear c2 f2' K2 XS XA2 XN hnoA own2 g2 f2 r2 e1 K1 hvl q0 a2 hb1 hsz1 hal hin
            go_wp2_with fail
            refine wp_region_schedT (ops := ops_7_31) Ext [8, 10] (.quiet 0 (.quiet 1 (.quiet 2 (.quiet 3 (.quiet 4 (.quiet 5 (.quiet 6 (.loud 7 (.last 8 (.quiet 9 (.last 10 (.done)))) (.stop))))))))) (by kernel_rfl) ext_refl ext_trans (by kernel_rfl) (fun _ _ d _ _ h => by cases d <;> exact h) ?_
            refine wpS_quiet (some 94) { dst := some 94, op := Op.fieldAddr 36 (Operand.tmp 10) 3, type := _, pos := _, after := _, guard := none } _ rfl rfl (by rfl) (fun wE hE => by (go_simp; try with_reducible rfl)) ?_; simp only [Act.put, List.setIfInBounds_toArray, List.set_cons_zero, List.set_cons_succ]
            refine wpS_quiet (some 95) { dst := some 95, op := Op.load 34 (Operand.tmp 94), type := _, pos := _, after := _, guard := none } _ rfl rfl (by rfl) (fun wE hE => by (have zk0 := hE.cellS a3; have zk1 := hE.cellS g0; have zk2 := hE.cellS q1; go_simp; try with_reducible rfl)) ?_; simp only [Act.put, List.setIfInBounds_toArray, List.set_cons_zero, List.set_cons_succ]
            refine wpS_quiet (some 96) { dst := some 96, op := Op.load 43 (Operand.tmp 5), type := _, pos := _, after := _, guard := none } _ rfl rfl (by rfl) (fun wE hE => by (have zk0 := hE.cellS a3; have zk1 := hE.cellS g0; have zk2 := hE.cellS q1; go_simp; try with_reducible rfl)) ?_; simp only [Act.put, List.setIfInBounds_toArray, List.set_cons_zero, List.set_cons_succ]
            refine wpS_quiet (some 97) { dst := some 97, op := Op.move (Operand.tmp 13), type := _, pos := _, after := _, guard := none } _ rfl rfl (by rfl) (fun wE hE => by (go_simp; try with_reducible rfl)) ?_; simp only [Act.put, List.setIfInBounds_toArray, List.set_cons_zero, List.set_cons_succ]
            refine wpS_quiet (some 98) { dst := some 98, op := Op.indexAddr 43 (Operand.tmp 96) (Operand.tmp 97), type := _, pos := _, after := _, guard := none } _ rfl rfl (by rfl) (fun wE hE => by (go_simp; try with_reducible rfl)) ?_; simp only [Act.put, List.setIfInBounds_toArray, List.set_cons_zero, List.set_cons_succ]
            refine wpS_quiet (some 99) { dst := some 99, op := Op.fieldAddr 48 (Operand.tmp 98) 1, type := _, pos := _, after := _, guard := none } _ rfl rfl (by rfl) (fun wE hE => by (go_simp; try with_reducible rfl)) ?_; simp only [Act.put, List.setIfInBounds_toArray, List.set_cons_zero, List.set_cons_succ]
            refine wpS_quiet (some 100) { dst := some 100, op := Op.load 3 (Operand.tmp 99), type := _, pos := _, after := _, guard := none } _ rfl rfl (by rfl) (fun wE hE => by (have zk0 := hE.cellS a3; have zk1 := hE.cellS g0; have zk2 := hE.cellS q1; go_simp; try with_reducible rfl)) ?_; simp only [Act.put, List.setIfInBounds_toArray, List.set_cons_zero, List.set_cons_succ]
            refine wpS_make (some 101) { dst := some 101, op := Op.buildSlice 34 1 #[(0, Operand.tmp 100)], type := _, pos := _, after := _, guard := none } rfl rfl (by rfl) 3 [.int .i64 p.2] 1 (by go_simp; try rfl) (fun w' h => h) ?_ trivial
            intro b1 w1 hb1 e1 K1
            simp only [Act.put, List.setIfInBounds_toArray, List.set_cons_zero, List.set_cons_succ]
            have hvl : ∀ q, some q = Value.ownBlock (.slice A2 n2 cap2) → q < w3.heap.size := fun q hq => (oO3.own q hq.symm).2
            have hsz1 : w3.heap.size ≤ w1.heap.size := e1.size
            obtain ⟨v2, w2, r2, own2, g2, f2⟩ := run_app (P := Try.prog) (d := Rp.iv) (w := w1) (xs := (outV (out.take j))) 34 34 3 i0 _ 8 Try.underlying34 hi hz0 hz1 hz2 rfl ((oV3.drew).ext e1) (fun q hq => ⟨by have := xI3.size; omega, fun he => by have := hvl q he; omega⟩) ⟨b1, 0, none⟩ 1 [.int .i64 p.2] [p.2] rfl (fun j u hu => by
              have : (⟨b1, 0, none⟩ : Addr).add j = ⟨b1, j, none⟩ := by unfold Addr.add; split <;> simp_all
              rw [this]; exact K1.cell hu) (one_elem (p := fun i y => Rp.iv.K _ _ y ((_ : List Value).drop (i * Rp.iv.sz) |>.take Rp.iv.sz)) ⟨rfl, trivial⟩) (by simp [maxLen]; omega) (by simp; omega) (by have := xI3.size; omega)
            refine wpS_lastE (some 102) { dst := some 102, op := Op.call { callee := Callee.builtin Builtin.append, args := #[Operand.tmp 95, Operand.tmp 101], argTypes := #[34, 34] }, type := _, pos := _, after := _, guard := none } rfl rfl (by rfl) ?_
            refine ⟨_, w2, exec_app (.tmp 95) (.tmp 101) 34 rfl rfl rfl r2, ?_⟩
            simp only [Act.put, List.setIfInBounds_toArray, List.set_cons_zero, List.set_cons_succ]
            have hal : a < wc.heap.size := hac.out
            have hnoA : ¬ (some a = Value.ownBlock vV) := fun he => by have := (oV3.own a he.symm).1; omega
            have XA2 : ExtX (fun q => some q = Value.ownBlock vV) w3 w2 := (e1.undrew.toX _).grown g2 (fun q h => h.symm)
            have K2 := kA3.extX XA2 hnoA
            have c2 := K2.cell (o := 3) rfl
            have f2' := K2.frozen 3
            obtain ⟨A2, n2, cap2, rfl⟩ := own_shape own2
            refine wpS_quiet (some 103) { dst := some 103, op := Op.fieldAddr 36 (Operand.tmp 10) 3, type := _, pos := _, after := _, guard := none } _ rfl rfl (by rfl) (fun wE hE => by (go_simp; try with_reducible rfl)) ?_; simp only [Act.put, List.setIfInBounds_toArray, List.set_cons_zero, List.set_cons_succ]
            refine wpS_last none { dst := none, op := Op.store 34 (Operand.tmp 103) (Operand.tmp 102), type := _, pos := _, after := _, guard := none } undef (World.setCell w2 ⟨a, 3, none⟩ (.slice A2 n2 cap2)) rfl rfl (by rfl) (.inr ⟨rfl, by (go_simp; try rfl)⟩) ?_
            simp only [Act.put]
            change Exit.inBlock _ _ _ _ _
            have kA4 := K2.setCell 3 (.slice A2 n2 cap2)
            have XS := setC_E w2 a 3 (.slice A2 n2 cap2)
            have hin : ∀ q, wc.heap.size ≤ q → q ≠ a := fun q hq e => by omega
            have oV4 := own2.extX XS (fun q hq _ => hin q hq.1)
            have XN : ExtX (fun q => some q = Value.ownBlock vV ∨ q = a) w3 (w2.setCell ⟨a, 3, none⟩ (.slice A2 n2 cap2)) := (XA2.mono fun _ _ h => .inl h).trans (XS.mono fun _ _ h => .inr h)
            have oO4 := (((oO3.turn (ok' := fun q => (wc.heap.size ≤ q ∧ some q ≠ Value.ownBlock vV) ∧ q < w3.heap.size) fun q hq hl => ⟨hq, hl⟩)).extX XN (fun q hq _ h => h.elim hq.1.2 (hin q hq.1.1))).turn (ok' := fun q => wc.heap.size ≤ q ∧ some q ≠ Value.ownBlock (.slice A2 n2 cap2)) (fun q hq hl => ⟨hq.1.1, fun he => by
              rcases f2 with h | h
              · exact hq.1.2 (by rw [← h]; exact he)
              · have := h q he.symm
                have := hq.2
                omega⟩)
            have xI4 : ExtX (fun q => q = a) wc (w2.setCell ⟨a, 3, none⟩ (.slice A2 n2 cap2)) := (xI3.trans' (M' := fun q => some q = Value.ownBlock vV ∨ q = a) XN fun q hq h => h.elim (fun h => by have := (oV3.own q h.symm).1; omega) (fun h => h))
            generalize w2.setCell ⟨a, 3, none⟩ (.slice A2 n2 cap2) = w4 at kA4 oV4 oO4 xI4 ⊢
            go_wp2_with fail
            go_roundw
            case rel =>
              refine ⟨j + 1, by go_num, by omega, Lib.hid ⟨_, _, kA4, ?_, ?_, xI4⟩⟩
              · have h1 := oO4
                rw [show outK (out.take j) ++ [p.1] = outK (out.take (j + 1)) by rw [take_snoc' HP.out]; simp [outK]] at h1
                exact h1
              · have h1 := oV4
                rw [show outV (out.take j) ++ [p.2] = outV (out.take (j + 1)) by rw [take_snoc' HP.out]; simp [outV]] at h1
                exact h1
            case measure => simp [intOf]; omega
          · have hje : Hid (j = out.length) := Lib.hid (by omega)
            have a0 := kA.cell (o := 0) rfl
            have a1 := kA.cell (o := 1) rfl
            have a2 := kA.cell (o := 2) rfl
            have a3 := kA.cell (o := 3) rfl
            have HkA := Lib.hid kA
            have HoO := Lib.hid oO
            have HoV := Lib.hid oV
            have HxI := Lib.hid xI
            clear kA oO oV xI hI2
            have hsx : wc.heap.size ≤ wr.heap.size := HxI.out.size
            have hsy : wq.heap.size ≤ wc.heap.size := Nat.le_trans HXW.out.size HS.out.ext.size
            have hob := HL.out.ob
            have hX3 : ExtX (fun q => okL w OB q ∨ q = a) wq wr := ((HXW.out.trans HS.out.ext).mono fun _ _ h => .inl h).trans (HxI.out.mono fun _ _ h => .inr h)
            have hout : OwnP Rp.an wr (fun q => OB q ∨ wc.heap.size ≤ q) w.heap.size 36 u7 (ansP size (ops.take k) []) :=
              (HL.out.out.extX hX3 (fun q hq _ h => h.elim (fun h => h.2 hq) (fun h => by have := (hob q hq).2; rw [h, HA.out] at this; omega))).turn fun q hq _ => .inl hq
            have hown7 : ∀ q, some q = u7.ownBlock → q < wc.heap.size := fun q hq => by have := (HL.out.out.own q hq.symm).2; omega
            have HOUT7 := Lib.hid hout
            have HOB := Lib.hid hob
            have HX3 := Lib.hid hX3
            have htl : (ansP size (ops.take k) []).length ≤ 404 := by rw [ansP_length, List.length_take]; omega
            obtain ⟨i0, hi, hz0, hz1, hz2⟩ := info_parts3 infoAn
            have hwb : w.heap.size ≤ wr.heap.size := by omega
            have hKan : Hid (∀ wz, Ext wr wz → Rp.an.K wz (fun q => (OB q ∨ wc.heap.size ≤ q) ∧ some q ≠ u7.ownBlock) (doP size (prs its) o).2 (anCells (doP size (prs its) o).2.ok (doP size (prs its) o).2.val vO vV)) := Lib.hid fun wz ez => by
              have hok : ∀ q, wc.heap.size ≤ q → (OB q ∨ wc.heap.size ≤ q) ∧ some q ≠ u7.ownBlock := fun q hq => ⟨.inr hq, fun he => by have := hown7 q he; omega⟩
              refine Rp.an_mk ?_ ?_
              · have h1 := HoO.out.slice
                rw [hje.out, List.take_length, HOUT.out] at h1
                exact (Rp.slice Rp.iv).mono (fun q hq => hok q hq.1) ((Rp.slice Rp.iv).ext' ez h1)
              · have h1 := HoV.out.slice
                rw [hje.out, List.take_length, HOUT.out] at h1
                exact (Rp.slice Rp.iv).mono (fun q hq => hok q hq.1) ((Rp.slice Rp.iv).ext' ez h1)
            clear hout hown7 hob hX3
            go_wp2_with (at_builtin; refine wpList_app (d := Rp.an) (base := w.heap.size) rfl (.tmp 104) (.tmp 106) 25 rfl 36 i0 _ 64 Try.underlying25 hi hz0 hz1 hz2 rfl (v := u7) rfl (HOUT7.out.ext ((Ext.refl wr).alloc _)) (fun q hq => .inr (by simp at hq; omega)) ⟨wr.heap.size, 0, none⟩ 1 (anCells (doP size (prs its) o).2.ok (doP size (prs its) o).2.val vO vV) [(doP size (prs its) o).2] rfl rfl (lit_at _ _ _ _ (by simp)) (one_elem (p := fun i y => (Rp.an).K _ (fun q => (OB q ∨ wc.heap.size ≤ q) ∧ some q ≠ Value.ownBlock u7) y (((anCells (doP size (prs its) o).2.ok (doP size (prs its) o).2.val vO vV).drop (i * (Rp.an).sz)).take (Rp.an).sz)) (hKan.out _ ((Ext.refl wr).alloc _))) (by simp [maxLen]; omega) (by simp; omega) (by simp; omega) ?_; intro v2 w2 own2 g2 f2; have O2 := Lib.hid own2; have G2 := Lib.hid g2; have F2 := Lib.hid f2; clear own2 g2 f2; obtain ⟨A2, n2, cap2, rfl⟩ := own_shape O2.out; skip)
            have hkk : k + 1 ≤ ops.length := by omega
            go_wp2_with fail
            go_roundw
            case rel =>
              have hE1 : Ext wr (wr.alloc (.cells (anCells (doP size (prs its) o).2.ok (doP size (prs its) o).2.val vO vV).toArray 36)) := (Ext.refl wr).alloc _
              have hX4 : ExtX (fun q => some q = u7.ownBlock) wr w2 := (hE1.toX _).grown G2.out (fun q h => h.symm)
              have h7 : ∀ q, some q = u7.ownBlock → OB q ∧ q < wq.heap.size := fun q hq => ⟨HL.out.out.1 q hq.symm, (HL.out.out.own q hq.symm).2⟩
              refine ⟨k + 1, by go_num, hkk, Lib.hid ⟨fun q => (OB q ∨ wc.heap.size ≤ q) ∧ q < w2.heap.size, its', (doP size (prs its) o).2.out, ⟨?_, ?_, ?_, ?_, ?_⟩⟩⟩
              · rintro q ⟨h | h, hl⟩
                · exact ⟨(HOB.out q h).1, hl⟩
                · exact ⟨by omega, hl⟩
              · rw [ansP_take HO.out, ← HL.out.ab]
                exact O2.out.turn fun q hq hl => ⟨hq, hl⟩
              · have hl1 := HS.out.lu.turn (ok' := fun q => (okL w OB q ∧ q ≠ a) ∧ q < wc.heap.size) (fun q hl hq => ⟨hq, hl⟩)
                have hX5 : ExtX (fun q => q = a ∨ some q = u7.ownBlock) wc w2 := (HxI.out.mono fun _ _ h => .inl h).trans (hX4.mono fun _ _ h => .inr h)
                exact (hl1.extX hX5 (fun q hq _ h => h.elim hq.1.2 (fun h => hq.1.1.2 (h7 q h).1))).turn fun q _ hq => ⟨hq.1.1.1, fun hb => hb.1.elim hq.1.1.2 (fun h => by have := hq.2; omega)⟩
              · rw [stP_take HO.out, ← HL.out.ab]
                exact HS.out.ab
              · have hwq := HL.out.ext.size
                refine ((HL.out.ext.toX (fun q => w.heap.size ≤ q)).trans ((HX3.out.mono (M' := fun q => w.heap.size ≤ q) ?_).trans (hX4.mono ?_))).toExt (fun q hq => hq)
                · exact fun q _ hq => hq.elim (fun h => h.1) (fun h => by rw [h, HA.out]; omega)
                · exact fun q _ hq => (HOB.out q (h7 q hq).1).1
            case measure => simp [intOf]; omega
    · have hkn : Hid (k = ops.length) := Lib.hid (by omega)
      go_wp2_with fail
      go_ret
      obtain ⟨OB, its, ps, hL⟩ := hI.out
      have h1 := hL.out
      rw [hkn.out, List.take_length] at h1
      exact ⟨_, rfl, h1.turn fun q hq _ => (hL.ob q hq).1, hL.ext⟩
end Go.Proofs.Ytphhkphibdiahaa
