/-
  spec.Cache.Do.
-/
import Derived.Test.YtphhkphibdiahaaLr
import Derived.Handy
import Derived.Laws.EntriesVeiled
import Derived.Deep.LoopGhost
namespace Go.Proofs.Ytphhkphibdiahaa
open Go.RowKit
set_option linter.unusedSimpArgs false
set_option linter.unusedVariables false

abbrev opV (o : OpD) : Value := .agg #[.int .i64 o.kind, .int .i64 o.key, .int .i64 o.val]
/-- behind the switch -/
def DoMid (S B c a : Nat) (size : Int) (r : PL × AnD) (w wx : World) : Prop := ∃ v vO vV, SC wx S c size v r.1 ∧ AS wx B a r.2.ok r.2.val vO vV r.2.out ∧ (∀ b T cs, Blk w b T cs → b ≠ c → b ≠ a → T ≠ 59 → Blk wx b T cs) ∧ ExtB S w wx
theorem DoMid.of {S B c a : Nat} {size : Int} {r : PL × AnD} {L out : PL} {ok : Bool} {val : Int} {w wx : World} (h : OutAns S B c a size val ok L out w wx) (hr : r = (L, ⟨ok, val, out⟩)) (hB : w.heap.size ≤ B) (hc : S ≤ c) (ha : S ≤ a) (hS : S ≤ w.heap.size) : DoMid S B c a size r w wx := by
  subst hr
  obtain ⟨v, vO, vV, h1, h2, h3⟩ := h
  exact ⟨v, vO, vV, h1, h2, fun b T cs hb hc ha _ => hb.extX h3 (fun h => h.elim hc (fun h => h.elim ha (fun h => by have := hb.lt; omega))), h3.toB (fun q h => h.elim (fun h => h ▸ hc) (fun h => h.elim (fun h => h ▸ ha) (fun h => by omega))) hS⟩
theorem DoMid.mk' {S B c a : Nat} {size : Int} {r : PL × AnD} {L out : PL} {ok : Bool} {val : Int} {v vO vV : Value} {w wx : World} (h1 : SC wx S c size v L) (h2 : AS wx B a ok val vO vV out) (hr : r = (L, ⟨ok, val, out⟩)) (hx : ∀ b T cs, Blk w b T cs → b ≠ c → b ≠ a → T ≠ 59 → Blk wx b T cs) (he : ExtB S w wx) : DoMid S B c a size r w wx := by
  subst hr
  exact ⟨v, vO, vV, h1, h2, hx, he⟩
/-! ### What the model does, in terms of the list -/
section
variable {size : Int} {L X Y : PL} {k u : Int} {o : OpD}
theorem d1h (hk : o.kind = 1) (hn : (ksP (X ++ (o.key, u) :: Y)).Nodup) : doP size (X ++ (o.key, u) :: Y) o = ((o.key, o.val) :: (X ++ Y), ⟨false, 0, []⟩) := by
  unfold doP addP
  rw [if_pos hk, if_pos (by simp [ksP]), rm_mid hn]
theorem d1m (hk : o.kind = 1) (hx : o.key ∉ ksP L) : doP size L o = ((evP size ((o.key, o.val) :: L)).1, ⟨false, 0, (evP size ((o.key, o.val) :: L)).2⟩) := by
  unfold doP addP
  rw [if_pos hk, if_neg hx]
theorem d2h (hk : o.kind = 2) (hn : (ksP (X ++ (o.key, u) :: Y)).Nodup) : doP size (X ++ (o.key, u) :: Y) o = ((o.key, u) :: (X ++ Y), ⟨true, u, []⟩) := by
  unfold doP getP
  rw [if_neg (by omega), if_pos hk, if_pos (by simp [ksP]), rm_mid hn, val_mid hn]
theorem d2m (hk : o.kind = 2) (hx : o.key ∉ ksP L) : doP size L o = (L, ⟨false, 0, []⟩) := by
  unfold doP getP
  rw [if_neg (by omega), if_pos hk, if_neg hx]
theorem d3h (hk : o.kind = 3) (hn : (ksP (X ++ (o.key, u) :: Y)).Nodup) : doP size (X ++ (o.key, u) :: Y) o = (X ++ Y, ⟨false, 0, [(o.key, u)]⟩) := by
  unfold doP remP
  rw [if_neg (by omega), if_neg (by omega), if_pos hk, if_pos (by simp [ksP]), rm_mid hn, val_mid hn]
theorem d3m (hk : o.kind = 3) (hx : o.key ∉ ksP L) : doP size L o = (L, ⟨false, 0, []⟩) := by
  unfold doP remP
  rw [if_neg (by omega), if_neg (by omega), if_pos hk, if_neg hx]
theorem d4 (hk : o.kind = 4) : doP size L o = (L.dropLast, ⟨false, 0, L.getLast?.toList⟩) := by
  unfold doP
  rw [if_neg (by omega), if_neg (by omega), if_neg (by omega), if_pos hk]
theorem d5 (hk : o.kind = 5) : doP size L o = (L, ⟨false, L.length, []⟩) := by
  unfold doP
  rw [if_neg (by omega), if_neg (by omega), if_neg (by omega), if_neg (by omega), if_pos hk]
theorem d6 (hk : o.kind = 6) : doP size L o = ([], ⟨false, 0, sortP L⟩) := by
  unfold doP
  rw [if_neg (by omega), if_neg (by omega), if_neg (by omega), if_neg (by omega), if_neg (by omega)]
end
def DoAns (S c : Nat) (size : Int) (r : PL × AnD) (w : World) (e : Ending) (w' : World) : Prop :=
  ∃ v1 v2 v, e = .returned (.agg #[.bool r.2.ok, .int .i64 r.2.val, v1, v2]) ∧ (Rp.slice Rp.iv).K w' any (outK r.2.out) [v1] ∧ (Rp.slice Rp.iv).K w' any (outV r.2.out) [v2] ∧ SC w' S c size v r.1 ∧ ExtB S w w'
/-- an entry put ahead of others: append([]Entry{p}, l...) -/
theorem cons_app {w : World} {S b : Nat} {p : Int × Int} {v : Value} {L : PL} (hb : Blk w b 59 (prCells p)) (hSb : S ≤ b) (h : OwnP Rp.pr w (fun q => S ≤ q) 0 59 v L) (hne : some b ≠ v.ownBlock) (hS : S ≤ w.heap.size) (hn : L.length ≤ 2000) :
    ∃ A n cap w', n = L.length + 1 ∧ (Builtin.append_ #[28, 28] 28 #[.slice (some ⟨b, 0, none⟩) 1 1, v]).run Try.prog w = .ok (.slice A n cap) w' ∧ OwnP Rp.pr w' (fun q => S ≤ q) 0 59 (.slice A n cap) (p :: L) ∧ ExtX (fun q => q = b) w w' := by
  obtain ⟨i0, hi, hz0, hz1, hz2⟩ := info_parts3 infoEn
  have own1 : OwnP Rp.pr w (fun q => S ≤ q) 0 59 (.slice (some ⟨b, 0, none⟩) [p].length 1) [p] := pr_own (rest := []) (by simpa using hb) (by simp) (by simp) (by decide) (Nat.zero_le _) hSb
  rcases h.form with ⟨rfl, rfl⟩ | ⟨g, cap, rfl, _, _, _⟩
  · obtain ⟨_, cells, hc, _⟩ := own1
    exact ⟨_, _, _, w, rfl, run_append_owned_none w 0 28 28 59 i0 2 Try.underlying28 hi (.slice (some ⟨b, 0, none⟩) 1 1) 1 cells hc, pr_own (rest := []) (by simpa using hb) (by simp) (by simp) (by decide) (Nat.zero_le _) hSb, ExtX.refl _ _⟩
  · obtain ⟨rest, hg, hl, hc, hm, _⟩ := pr_blk h
    obtain ⟨v', w', hr, ho, hgr, _⟩ := run_app (P := Try.prog) (d := Rp.pr) 28 28 59 i0 _ 16 Try.underlying28 hi hz0 hz1 hz2 rfl own1 (fun k hk => by omega) ⟨g, 0, none⟩ cap (L.flatMap prCells) L (flat_len L) (fun j u hu => by
      have : (⟨g, 0, none⟩ : Addr).add j = ⟨g, j, none⟩ := by unfold Addr.add; split <;> simp_all
      rw [this]
      exact hg.cell (by rw [List.getElem?_append_left (List.getElem?_eq_some_iff.1 hu).1]; exact hu))
      (fun i y hy => ⟨by have := flat_get [] hy; rw [List.append_nil] at this; exact this, trivial⟩) (by simp [maxLen]; omega) (by simp; omega) (Nat.zero_le _)
    obtain ⟨A, cap', hv, _⟩ := ho.shape
    subst hv
    have hln : ([p] ++ L).length = L.length + 1 := by simp
    rw [hln] at hr ho
    exact ⟨A, _, cap', w', rfl, hr, ho, (ExtX.refl _ w).grown hgr (fun k h => by simp [Value.ownBlock] at h; exact h.symm)⟩
noncomputable def ops_9_7 : Array Oper := opsAt Try.f9 7
noncomputable def ops_9_8 : Array Oper := opsAt Try.f9 8
noncomputable def ops_9_13 : Array Oper := opsAt Try.f9 13
noncomputable def ops_9_14 : Array Oper := opsAt Try.f9 14
set_option maxRecDepth 20000 in
set_option maxHeartbeats 4000000 in
theorem do_any (S c : Nat) (size : Int) (n : Nat) (v : Value) (L : PL) (o : OpD) (w : World) (h : SC w S c size v L) (hi : InvP size n L) (hn : n ≤ 402) (hs0 : 0 ≤ size) (hs1 : size ≤ 1000) (hb : Hid (∀ p ∈ L, -1099511627776 ≤ p.1 ∧ p.1 ≤ 1099511627776)) (hkd : 1 ≤ o.kind ∧ o.kind ≤ 6) (hS : S ≤ w.heap.size) :
    Calls Try.prog 9 #[pv c, opV o] w (DoAns S c size (doP size L o) w) := by
  have hln : L.length ≤ 402 := Nat.le_trans hi.len hn
  have HI := Lib.hid hi
  have HS := Lib.hid h
  have hcl := h.2.1.lt
  clear h hi
  go_enter Try.func9, Try.ntmps9
  go_upto_region 2 with fail
  have EA : Ext w (w.alloc (.cells (opCells o).toArray 32)) := (Ext.refl _).alloc _
  have EB := EA.alloc (.cells (anCells false 0 (.slice none 0 0) (.slice none 0 0)).toArray 36)
  have EC := EB.alloc (.cells (anCells false 0 (.slice none 0 0) (.slice none 0 0)).toArray 36)
  have KO := ((Blk.new w 32 (opCells o)).ext ((Ext.refl _).alloc (.cells (anCells false 0 (.slice none 0 0) (.slice none 0 0)).toArray 36))).ext ((Ext.refl _).alloc (.cells (anCells false 0 (.slice none 0 0) (.slice none 0 0)).toArray 36))
  have KR := (blk_at (w.alloc (.cells (opCells o).toArray 32)) 36 (anCells false 0 (.slice none 0 0) (.slice none 0 0)) (w.heap.size + 1) (by simp)).ext ((Ext.refl _).alloc (.cells (anCells false 0 (.slice none 0 0) (.slice none 0 0)).toArray 36))
  have KA := blk_at ((w.alloc (.cells (opCells o).toArray 32)).alloc (.cells (anCells false 0 (.slice none 0 0) (.slice none 0 0)).toArray 36)) 36 (anCells false 0 (.slice none 0 0) (.slice none 0 0)) (w.heap.size + 1 + 1) (by simp)
  change Code.wp _ _ _ _ (((w.alloc (.cells (opCells o).toArray 32)).alloc (.cells (anCells false 0 (.slice none 0 0) (.slice none 0 0)).toArray 36)).alloc (.cells (anCells false 0 (.slice none 0 0) (.slice none 0 0)).toArray 36))
  generalize ((w.alloc (.cells (opCells o).toArray 32)).alloc (.cells (anCells false 0 (.slice none 0 0) (.slice none 0 0)).toArray 36)).alloc (.cells (anCells false 0 (.slice none 0 0) (.slice none 0 0)).toArray 36) = W at EC KO KR KA ⊢
  obtain ⟨b0, hb0⟩ : ∃ b0, b0 = w.heap.size := ⟨_, rfl⟩
  obtain ⟨r0, hr0⟩ : ∃ r0, r0 = w.heap.size + 1 := ⟨_, rfl⟩
  obtain ⟨a, ha⟩ : ∃ a, a = w.heap.size + 1 + 1 := ⟨_, rfl⟩
  rw [← ha] at KA ⊢
  rw [← hr0] at KR ⊢
  rw [← hb0] at KO ⊢
  have hra : r0 ≠ a := by omega
  have hba : b0 ≠ a := by omega
  have hbc : b0 ≠ c := by omega
  have hrc : r0 ≠ c := by omega
  have hsz : S ≤ W.heap.size := Nat.le_trans (by omega) EC.size
  have hSa : S ≤ a ∧ S ≤ r0 ∧ S ≤ b0 := by omega
  clear EA EB hb0 hr0 ha
  have HE := Lib.hid EC
  have SCW := Lib.hid (HS.out.ext EC)
  have HKR := Lib.hid KR
  have HKA := Lib.hid KA
  have HKO := Lib.hid KO
  have o0 := KO.cell (o := 0) rfl
  have o1 := KO.cell (o := 1) rfl
  have o2 := KO.cell (o := 2) rfl
  clear KO KR KA EC
  go_wp2_with fail
  refine (find_any S c size v L o.key W SCW.out (by omega)).mono ?_
  rintro e W2 ⟨i, rfl, hix, e2⟩
  have HIX := Lib.hid hix
  have SC2 := Lib.hid (SCW.out.ext e2)
  have KA2 := Lib.hid (HKA.out.ext e2)
  have KO2 := HKO.out.ext e2
  have KR2 := Lib.hid (HKR.out.ext e2)
  have hsz2 : S ≤ W2.heap.size := Nat.le_trans hsz e2.size
  have HE2 := Lib.hid (HE.out.trans e2)
  have o0 := KO2.cell (o := 0) rfl
  have o1 := KO2.cell (o := 1) rfl
  have o2 := KO2.cell (o := 2) rfl
  have HEX2 := Lib.hid e2
  clear hix e2 KO2
  go_upto_block 0 with fail
  go_cut [] (fun wx => Hid (DoMid S W2.heap.size c a size (doP size L o) W2 wx))
  case first =>
    have hnl := HI.out.nd
    have HND := Lib.hid hnl
    have hmost := Lib.hid HI.out.most
    have hkeep : Hid (∀ b T cs, Blk W2 b T cs → b ≠ c → b ≠ a → T ≠ 59 → Blk W2 b T cs) := Lib.hid fun _ _ _ h _ _ _ => h
    have AS2 : Hid (AS W2 W2.heap.size a false 0 (.slice none 0 0) (.slice none 0 0) []) := Lib.hid ⟨KA2.out, OT.nil _ _⟩
    clear hnl
    have hszW := hsz2
    have hszB : W2.heap.size ≤ W2.heap.size := Nat.le_refl _
    rcases (show o.kind = 1 ∨ o.kind = 2 ∨ o.kind = 3 ∨ o.kind = 4 ∨ o.kind = 5 ∨ o.kind = 6 by omega) with k1 | k1 | k1 | k1 | k1 | k1
    · have K1 := Lib.hid k1
      have t1 : (o.kind == 1) = true := by simp [k1]
      clear hkd k1
      rcases HIX.out with ⟨rfl, hno⟩ | ⟨X, u, Y, rfl, hno, rfl⟩
      · have HNO := Lib.hid hno
        clear hno
        go_wp2_with fail
        -- world WW: SCN : Hid (SC WW S c size _ L0), KAN : Hid (Blk WW a ..), the keep HK, EX : ExtB S W2 WW; o1 o2
        have c1 := SC2.out.2.1.cell (o := 1) rfl
        have hcl2 := SC2.out.2.1.lt
        obtain ⟨Ac, nc, cpc, hvc⟩ := own_shape SC2.out.2.2
        subst hvc
        refine wp_region_schedT (ops := ops_9_7) Ext [11, 14] (.pure 0 (.quiet 1 (.quiet 2 (.quiet 3 (.quiet 4 (.quiet 5 (.quiet 7 (.quiet 8 (.quiet 9 (.quiet 10 (.loud 6 (.last 11 (.pure 12 (.pure 13 (.last 14 (.done))))) (.stop)))))))))))) (by kernel_rfl) ext_refl ext_trans (by kernel_rfl) (fun _ _ d _ _ h => by cases d <;> exact h) ?_
        refine wpS_pure (some 31) { dst := some 31, op := Op.move (Operand.tmp 0), type := _, pos := _, after := _, guard := none } _ rfl rfl (by rfl) (fun wE => by (go_simp; try with_reducible rfl)) ?_; simp only [Act.put, List.setIfInBounds_toArray, List.set_cons_zero, List.set_cons_succ]
        refine wpS_quiet (some 32) { dst := some 32, op := Op.fieldAddr 32 (Operand.tmp 3) 1, type := _, pos := _, after := _, guard := none } _ rfl rfl (by rfl) (fun wE hE => by (go_simp; try with_reducible rfl)) ?_; simp only [Act.put, List.setIfInBounds_toArray, List.set_cons_zero, List.set_cons_succ]
        refine wpS_quiet (some 33) { dst := some 33, op := Op.load 3 (Operand.tmp 32), type := _, pos := _, after := _, guard := none } _ rfl rfl (by rfl) (fun wE hE => by (have zk0 := hE.cellS o1; have zk1 := hE.cellS o2; have zk2 := hE.cellS c1; go_simp; try with_reducible rfl)) ?_; simp only [Act.put, List.setIfInBounds_toArray, List.set_cons_zero, List.set_cons_succ]
        refine wpS_quiet (some 34) { dst := some 34, op := Op.fieldAddr 32 (Operand.tmp 3) 2, type := _, pos := _, after := _, guard := none } _ rfl rfl (by rfl) (fun wE hE => by (go_simp; try with_reducible rfl)) ?_; simp only [Act.put, List.setIfInBounds_toArray, List.set_cons_zero, List.set_cons_succ]
        refine wpS_quiet (some 35) { dst := some 35, op := Op.load 3 (Operand.tmp 34), type := _, pos := _, after := _, guard := none } _ rfl rfl (by rfl) (fun wE hE => by (have zk0 := hE.cellS o1; have zk1 := hE.cellS o2; have zk2 := hE.cellS c1; go_simp; try with_reducible rfl)) ?_; simp only [Act.put, List.setIfInBounds_toArray, List.set_cons_zero, List.set_cons_succ]
        refine wpS_quiet (some 36) { dst := some 36, op := Op.build 59 #[(0, Operand.tmp 33), (1, Operand.tmp 35)], type := _, pos := _, after := _, guard := none } _ rfl rfl (by rfl) (fun wE hE => by (go_simp; try with_reducible rfl)) ?_; simp only [Act.put, List.setIfInBounds_toArray, List.set_cons_zero, List.set_cons_succ]
        refine wpS_quiet (some 38) { dst := some 38, op := Op.move (Operand.tmp 0), type := _, pos := _, after := _, guard := none } _ rfl rfl (by rfl) (fun wE hE => by (go_simp; try with_reducible rfl)) ?_; simp only [Act.put, List.setIfInBounds_toArray, List.set_cons_zero, List.set_cons_succ]
        refine wpS_quiet (some 39) { dst := some 39, op := Op.nilCheck (Operand.tmp 38), type := _, pos := _, after := _, guard := none } _ rfl rfl (by rfl) (fun wE hE => by (go_simp; try with_reducible rfl)) ?_; simp only [Act.put, List.setIfInBounds_toArray, List.set_cons_zero, List.set_cons_succ]
        refine wpS_quiet (some 40) { dst := some 40, op := Op.fieldAddr 30 (Operand.tmp 39) 1, type := _, pos := _, after := _, guard := none } _ rfl rfl (by rfl) (fun wE hE => by (go_simp; try with_reducible rfl)) ?_; simp only [Act.put, List.setIfInBounds_toArray, List.set_cons_zero, List.set_cons_succ]
        refine wpS_quiet (some 41) { dst := some 41, op := Op.load 28 (Operand.tmp 40), type := _, pos := _, after := _, guard := none } _ rfl rfl (by rfl) (fun wE hE => by (have zk0 := hE.cellS o1; have zk1 := hE.cellS o2; have zk2 := hE.cellS c1; go_simp; try with_reducible rfl)) ?_; simp only [Act.put, List.setIfInBounds_toArray, List.set_cons_zero, List.set_cons_succ]
        refine wpS_make (some 37) { dst := some 37, op := Op.buildSlice 28 1 #[(0, Operand.tmp 36)], type := _, pos := _, after := _, guard := none } rfl rfl (by rfl) 59 (prCells (o.key, o.val)) 1 (by go_simp; try rfl) (fun w' h => h) ?_ trivial
        intro b1 w1 hb1 e1 K1
        simp only [Act.put, List.setIfInBounds_toArray, List.set_cons_zero, List.set_cons_succ]
        have hwW : W2.drew.heap.size = W2.heap.size := rfl
        have own1 := (SC2.out.2.2.drew).ext e1
        obtain ⟨A4, n4, cp4, w4, hn4, r4, own4, x4⟩ := cons_app K1 (by omega) own1 (fun he => by have := (SC2.out.2.2.own b1 he.symm).2; omega) (by have := e1.size; omega) (by omega)
        refine wpS_lastE (some 42) { dst := some 42, op := Op.call { callee := Callee.builtin Builtin.append, args := #[Operand.tmp 37, Operand.tmp 41], argTypes := #[28, 28] }, type := _, pos := _, after := _, guard := none } rfl rfl (by rfl) ?_
        refine ⟨_, w4, exec_app (.tmp 37) (.tmp 41) 28 rfl rfl rfl r4, ?_⟩
        simp only [Act.put, List.setIfInBounds_toArray, List.set_cons_zero, List.set_cons_succ]
        refine wpS_pure (some 43) { dst := some 43, op := Op.nilCheck (Operand.tmp 31), type := _, pos := _, after := _, guard := none } _ rfl rfl (by rfl) (fun wE => by (go_simp; try with_reducible rfl)) ?_; simp only [Act.put, List.setIfInBounds_toArray, List.set_cons_zero, List.set_cons_succ]
        refine wpS_pure (some 44) { dst := some 44, op := Op.fieldAddr 30 (Operand.tmp 43) 1, type := _, pos := _, after := _, guard := none } _ rfl rfl (by rfl) (fun wE => by (go_simp; try with_reducible rfl)) ?_; simp only [Act.put, List.setIfInBounds_toArray, List.set_cons_zero, List.set_cons_succ]
        have kc4 : Blk w4 c _ _ := ((show Blk W2.drew c _ _ from SC2.out.2.1).ext e1).extX x4 (by omega)
        have k4 := kc4.cell (o := 1) rfl
        have f4 := kc4.frozen 1
        refine wpS_last none { dst := none, op := Op.store 28 (Operand.tmp 44) (Operand.tmp 42), type := _, pos := _, after := _, guard := none } undef (World.setCell w4 ⟨c, 1, none⟩ (.slice A4 n4 cp4)) rfl rfl (by rfl) (.inr ⟨rfl, by (go_simp; try rfl)⟩) ?_
        simp only [Act.put]
        change Exit.then _ _ _ _ _
        have XS := setC_E w4 c 1 (.slice A4 n4 cp4)
        have X5 : ExtX (fun q => q = c) W2 (w4.setCell ⟨c, 1, none⟩ (.slice A4 n4 cp4)) := ((e1.undrew.toX (fun q => q = c)).trans' x4 (fun q hq h => by omega)).trans XS
        have SC5 : SC (w4.setCell ⟨c, 1, none⟩ (.slice A4 n4 cp4)) S c size (.slice A4 n4 cp4) ((o.key, o.val) :: L) := ⟨SC2.out.1, kc4.setCell 1 _, own_keep own4 XS (fun q hq e => by
          obtain ⟨cs', hb'⟩ := own4.blk hq.symm
          rw [show q = c from e] at hb'
          exact absurd (hb'.inj kc4) (by decide))⟩
        have nac := SC2.out.apart KA2.out (by decide) (by decide)
        have KA5 := KA2.out.extX X5 nac.1
        have hs5 : S ≤ (w4.setCell ⟨c, 1, none⟩ (.slice A4 n4 cp4)).heap.size := Nat.le_trans hszW X5.size
        have hb5 : W2.heap.size ≤ (w4.setCell ⟨c, 1, none⟩ (.slice A4 n4 cp4)).heap.size := Nat.le_trans hszB X5.size
        have hkp5 : ∀ b T cs, Blk W2 b T cs → b ≠ c → b ≠ a → T ≠ 59 → Blk (w4.setCell ⟨c, 1, none⟩ (.slice A4 n4 cp4)) b T cs := fun b T cs hb hc ha hT => (hkeep.out b T cs hb hc ha hT).extX X5 hc
        have heb5 : ExtB S W2 (w4.setCell ⟨c, 1, none⟩ (.slice A4 n4 cp4)) := ExtB.trans (ExtB.refl _ _) (X5.toB (fun q h => h ▸ SC2.out.1) hszW)
        generalize w4.setCell ⟨c, 1, none⟩ (.slice A4 n4 cp4) = w5 at SC5 KA5 hs5 hb5 hkp5 heb5 ⊢
        have HKP5 := Lib.hid hkp5
        have HN4 := Lib.hid hn4
        clear hn4
        have HEB5 := Lib.hid heb5
        have c0 := SC5.2.1.cell (o := 0) rfl
        have c1 := SC5.2.1.cell (o := 1) rfl
        clear k4 f4 kc4 own4 own1 x4 r4 XS X5 hkp5 heb5 K1 e1 hb1 hwW nac o0 o1 o2
        go_wp2_with fail
        by_cases hpz : 0 < size
        · have dz : decide (0 < size) = true := decide_eq_true hpz
          by_cases hevb : size < (n4 : Int)
          · have de : decide (size < (n4 : Int)) = true := decide_eq_true hevb
            refine wp_region_sched (ops := ops_9_8) Ext [] (.quiet 0 (.quiet 1 (.quiet 2 (.quiet 3 (.quiet 4 (.quiet 5 (.quiet 6 (.quiet 7 (.quiet 8 (.quiet 9 (.quiet 10 (.quiet 11 (.quiet 12 (.quiet 13 (.quiet 14 (.quiet 15 (.quiet 16 (.done)))))))))))))))))) (by kernel_rfl) ext_refl ext_trans (by kernel_rfl) (fun _ _ d _ _ h => by cases d <;> exact h) ?_
            refine wpS_quiet (some 45) { dst := some 45, op := Op.move (Operand.tmp 0), type := _, pos := _, after := _, guard := none } _ rfl rfl (by rfl) (fun wE hE => by (go_simp; try with_reducible rfl)) ?_; simp only [Act.put, List.setIfInBounds_toArray, List.set_cons_zero, List.set_cons_succ]
            refine wpS_quiet (some 46) { dst := some 46, op := Op.nilCheck (Operand.tmp 45), type := _, pos := _, after := _, guard := none } _ rfl rfl (by rfl) (fun wE hE => by (go_simp; try with_reducible rfl)) ?_; simp only [Act.put, List.setIfInBounds_toArray, List.set_cons_zero, List.set_cons_succ]
            refine wpS_quiet (some 47) { dst := some 47, op := Op.fieldAddr 30 (Operand.tmp 46) 0, type := _, pos := _, after := _, guard := none } _ rfl rfl (by rfl) (fun wE hE => by (go_simp; try with_reducible rfl)) ?_; simp only [Act.put, List.setIfInBounds_toArray, List.set_cons_zero, List.set_cons_succ]
            refine wpS_quiet (some 48) { dst := some 48, op := Op.load 3 (Operand.tmp 47), type := _, pos := _, after := _, guard := none } _ rfl rfl (by rfl) (fun wE hE => by (have zk0 := hE.cellS c0; have zk1 := hE.cellS c1; go_simp; try with_reducible rfl)) ?_; simp only [Act.put, List.setIfInBounds_toArray, List.set_cons_zero, List.set_cons_succ]
            refine wpS_quiet (some 49) { dst := some 49, op := Op.binOp BinOp.gtr 3 (Operand.tmp 48) (Operand.const (Value.int IntKind.i64 0)) 3, type := _, pos := _, after := _, guard := none } _ rfl rfl (by rfl) (fun wE hE => by (go_simp; try with_reducible rfl)) ?_; simp only [Act.put, List.setIfInBounds_toArray, List.set_cons_zero, List.set_cons_succ]
            refine wpS_quiet (some 50) { dst := some 50, op := Op.move (Operand.tmp 49), type := _, pos := _, after := _, guard := none } _ rfl rfl (by rfl) (fun wE hE => by (go_simp; try with_reducible rfl)) ?_; simp only [Act.put, List.setIfInBounds_toArray, List.set_cons_zero, List.set_cons_succ]
            (first | refine wpS_quiet (some 51) { dst := some 51, op := Op.move (Operand.tmp 0), type := _, pos := _, after := _, guard := some (5, true) } _ rfl rfl (by rfl) (fun wE hE => by (go_simp; try with_reducible rfl)) ?_ | refine wpS_pass (some 51) _ rfl rfl (by rfl) ?_); simp only [Act.put, List.setIfInBounds_toArray, List.set_cons_zero, List.set_cons_succ]
            (first | refine wpS_quiet (some 52) { dst := some 52, op := Op.nilCheck (Operand.tmp 51), type := _, pos := _, after := _, guard := some (5, true) } _ rfl rfl (by rfl) (fun wE hE => by (go_simp; try with_reducible rfl)) ?_ | refine wpS_pass (some 52) _ rfl rfl (by rfl) ?_); simp only [Act.put, List.setIfInBounds_toArray, List.set_cons_zero, List.set_cons_succ]
            (first | refine wpS_quiet (some 53) { dst := some 53, op := Op.fieldAddr 30 (Operand.tmp 52) 1, type := _, pos := _, after := _, guard := some (5, true) } _ rfl rfl (by rfl) (fun wE hE => by (go_simp; try with_reducible rfl)) ?_ | refine wpS_pass (some 53) _ rfl rfl (by rfl) ?_); simp only [Act.put, List.setIfInBounds_toArray, List.set_cons_zero, List.set_cons_succ]
            (first | refine wpS_quiet (some 54) { dst := some 54, op := Op.load 28 (Operand.tmp 53), type := _, pos := _, after := _, guard := some (5, true) } _ rfl rfl (by rfl) (fun wE hE => by (have zk0 := hE.cellS c0; have zk1 := hE.cellS c1; go_simp; try with_reducible rfl)) ?_ | refine wpS_pass (some 54) _ rfl rfl (by rfl) ?_); simp only [Act.put, List.setIfInBounds_toArray, List.set_cons_zero, List.set_cons_succ]
            (first | refine wpS_quiet (some 55) { dst := some 55, op := Op.call { callee := Callee.builtin Builtin.len, args := #[Operand.tmp 54], argTypes := #[28] }, type := _, pos := _, after := _, guard := some (5, true) } _ rfl rfl (by rfl) (fun wE hE => by (go_simp; try with_reducible rfl)) ?_ | refine wpS_pass (some 55) _ rfl rfl (by rfl) ?_); simp only [Act.put, List.setIfInBounds_toArray, List.set_cons_zero, List.set_cons_succ]
            (first | refine wpS_quiet (some 56) { dst := some 56, op := Op.move (Operand.tmp 0), type := _, pos := _, after := _, guard := some (5, true) } _ rfl rfl (by rfl) (fun wE hE => by (go_simp; try with_reducible rfl)) ?_ | refine wpS_pass (some 56) _ rfl rfl (by rfl) ?_); simp only [Act.put, List.setIfInBounds_toArray, List.set_cons_zero, List.set_cons_succ]
            (first | refine wpS_quiet (some 57) { dst := some 57, op := Op.nilCheck (Operand.tmp 56), type := _, pos := _, after := _, guard := some (5, true) } _ rfl rfl (by rfl) (fun wE hE => by (go_simp; try with_reducible rfl)) ?_ | refine wpS_pass (some 57) _ rfl rfl (by rfl) ?_); simp only [Act.put, List.setIfInBounds_toArray, List.set_cons_zero, List.set_cons_succ]
            (first | refine wpS_quiet (some 58) { dst := some 58, op := Op.fieldAddr 30 (Operand.tmp 57) 0, type := _, pos := _, after := _, guard := some (5, true) } _ rfl rfl (by rfl) (fun wE hE => by (go_simp; try with_reducible rfl)) ?_ | refine wpS_pass (some 58) _ rfl rfl (by rfl) ?_); simp only [Act.put, List.setIfInBounds_toArray, List.set_cons_zero, List.set_cons_succ]
            (first | refine wpS_quiet (some 59) { dst := some 59, op := Op.load 3 (Operand.tmp 58), type := _, pos := _, after := _, guard := some (5, true) } _ rfl rfl (by rfl) (fun wE hE => by (have zk0 := hE.cellS c0; have zk1 := hE.cellS c1; go_simp; try with_reducible rfl)) ?_ | refine wpS_pass (some 59) _ rfl rfl (by rfl) ?_); simp only [Act.put, List.setIfInBounds_toArray, List.set_cons_zero, List.set_cons_succ]
            (first | refine wpS_quiet (some 60) { dst := some 60, op := Op.binOp BinOp.gtr 3 (Operand.tmp 55) (Operand.tmp 59) 3, type := _, pos := _, after := _, guard := some (5, true) } _ rfl rfl (by rfl) (fun wE hE => by (go_simp; try with_reducible rfl)) ?_ | refine wpS_pass (some 60) _ rfl rfl (by rfl) ?_); simp only [Act.put, List.setIfInBounds_toArray, List.set_cons_zero, List.set_cons_succ]
            refine wpS_quiet (some 61) { dst := some 61, op := Op.pick (Operand.tmp 50) (Operand.tmp 60) (Operand.const (Value.bool false)), type := _, pos := _, after := _, guard := none } _ rfl rfl (by rfl) (fun wE hE => by (go_simp; try with_reducible rfl)) ?_; simp only [Act.put, List.setIfInBounds_toArray, List.set_cons_zero, List.set_cons_succ]
            change Exit.then _ _ _ _ _
            obtain rfl := HN4.out
            have HVB := Lib.hid hevb
            obtain ⟨XX, pp, hxx⟩ : ∃ XX pp, (o.key, o.val) :: L = XX ++ [pp] := by
              rcases List.eq_nil_or_concat ((o.key, o.val) :: L) with h | ⟨A, q, h⟩
              · cases h
              · exact ⟨A, q, by rw [h, List.concat_eq_append]⟩
            have hxl : XX.length = L.length := by have := congrArg List.length hxx; simp at this; omega
            have HXX := Lib.hid hxx
            rw [hxx] at SC5
            have ho := out_any S W2.heap.size c a size 0 _ _ _ false [] XX [] pp w5.drew (show SC w5.drew S c size _ _ from SC5) ⟨(show Blk w5.drew a _ _ from KA5), OT.nil _ _⟩ (by simp; omega) (by simp) hs5 hb5
            rw [hxl] at ho
            have HO := Lib.hid ho
            clear ho SC5 KA5 hxx hxl
            go_wp2_with fail
            refine HO.out.mono ?_
            rintro e w6 ⟨rfl, h6⟩
            have H6 := Lib.hid h6
            clear h6
            go_wp2_with fail
            go_meet
            obtain ⟨v7, vO7, vV7, s7, a7, x7⟩ := H6.out
            refine Lib.hid (DoMid.mk' s7 a7 ?_ (fun b T cs hb hc ha hT => (HKP5.out b T cs hb hc ha hT).extX x7 (fun h => h.elim hc (fun h => h.elim ha (fun h => by have := hb.lt; omega)))) (HEB5.out.trans (x7.toB (fun q h => h.elim (fun h => h ▸ SC2.out.1) (fun h => h.elim (fun h => h ▸ hSa.1) (fun h => by omega))) hs5)))
            rw [d1m K1.out HNO.out]
            unfold evP
            rw [if_pos ⟨by omega, by simpa using HVB.out⟩, HXX.out]
            simp
          · have de : decide (size < (n4 : Int)) = false := decide_eq_false hevb
            have hnev : ¬ (size ≠ 0 ∧ size < (n4 : Int)) := fun h => hevb h.2
            refine wp_region_sched (ops := ops_9_8) Ext [] (.quiet 0 (.quiet 1 (.quiet 2 (.quiet 3 (.quiet 4 (.quiet 5 (.quiet 6 (.quiet 7 (.quiet 8 (.quiet 9 (.quiet 10 (.quiet 11 (.quiet 12 (.quiet 13 (.quiet 14 (.quiet 15 (.quiet 16 (.done)))))))))))))))))) (by kernel_rfl) ext_refl ext_trans (by kernel_rfl) (fun _ _ d _ _ h => by cases d <;> exact h) ?_
            refine wpS_quiet (some 45) { dst := some 45, op := Op.move (Operand.tmp 0), type := _, pos := _, after := _, guard := none } _ rfl rfl (by rfl) (fun wE hE => by (go_simp; try with_reducible rfl)) ?_; simp only [Act.put, List.setIfInBounds_toArray, List.set_cons_zero, List.set_cons_succ]
            refine wpS_quiet (some 46) { dst := some 46, op := Op.nilCheck (Operand.tmp 45), type := _, pos := _, after := _, guard := none } _ rfl rfl (by rfl) (fun wE hE => by (go_simp; try with_reducible rfl)) ?_; simp only [Act.put, List.setIfInBounds_toArray, List.set_cons_zero, List.set_cons_succ]
            refine wpS_quiet (some 47) { dst := some 47, op := Op.fieldAddr 30 (Operand.tmp 46) 0, type := _, pos := _, after := _, guard := none } _ rfl rfl (by rfl) (fun wE hE => by (go_simp; try with_reducible rfl)) ?_; simp only [Act.put, List.setIfInBounds_toArray, List.set_cons_zero, List.set_cons_succ]
            refine wpS_quiet (some 48) { dst := some 48, op := Op.load 3 (Operand.tmp 47), type := _, pos := _, after := _, guard := none } _ rfl rfl (by rfl) (fun wE hE => by (have zk0 := hE.cellS c0; have zk1 := hE.cellS c1; go_simp; try with_reducible rfl)) ?_; simp only [Act.put, List.setIfInBounds_toArray, List.set_cons_zero, List.set_cons_succ]
            refine wpS_quiet (some 49) { dst := some 49, op := Op.binOp BinOp.gtr 3 (Operand.tmp 48) (Operand.const (Value.int IntKind.i64 0)) 3, type := _, pos := _, after := _, guard := none } _ rfl rfl (by rfl) (fun wE hE => by (go_simp; try with_reducible rfl)) ?_; simp only [Act.put, List.setIfInBounds_toArray, List.set_cons_zero, List.set_cons_succ]
            refine wpS_quiet (some 50) { dst := some 50, op := Op.move (Operand.tmp 49), type := _, pos := _, after := _, guard := none } _ rfl rfl (by rfl) (fun wE hE => by (go_simp; try with_reducible rfl)) ?_; simp only [Act.put, List.setIfInBounds_toArray, List.set_cons_zero, List.set_cons_succ]
            (first | refine wpS_quiet (some 51) { dst := some 51, op := Op.move (Operand.tmp 0), type := _, pos := _, after := _, guard := some (5, true) } _ rfl rfl (by rfl) (fun wE hE => by (go_simp; try with_reducible rfl)) ?_ | refine wpS_pass (some 51) _ rfl rfl (by rfl) ?_); simp only [Act.put, List.setIfInBounds_toArray, List.set_cons_zero, List.set_cons_succ]
            (first | refine wpS_quiet (some 52) { dst := some 52, op := Op.nilCheck (Operand.tmp 51), type := _, pos := _, after := _, guard := some (5, true) } _ rfl rfl (by rfl) (fun wE hE => by (go_simp; try with_reducible rfl)) ?_ | refine wpS_pass (some 52) _ rfl rfl (by rfl) ?_); simp only [Act.put, List.setIfInBounds_toArray, List.set_cons_zero, List.set_cons_succ]
            (first | refine wpS_quiet (some 53) { dst := some 53, op := Op.fieldAddr 30 (Operand.tmp 52) 1, type := _, pos := _, after := _, guard := some (5, true) } _ rfl rfl (by rfl) (fun wE hE => by (go_simp; try with_reducible rfl)) ?_ | refine wpS_pass (some 53) _ rfl rfl (by rfl) ?_); simp only [Act.put, List.setIfInBounds_toArray, List.set_cons_zero, List.set_cons_succ]
            (first | refine wpS_quiet (some 54) { dst := some 54, op := Op.load 28 (Operand.tmp 53), type := _, pos := _, after := _, guard := some (5, true) } _ rfl rfl (by rfl) (fun wE hE => by (have zk0 := hE.cellS c0; have zk1 := hE.cellS c1; go_simp; try with_reducible rfl)) ?_ | refine wpS_pass (some 54) _ rfl rfl (by rfl) ?_); simp only [Act.put, List.setIfInBounds_toArray, List.set_cons_zero, List.set_cons_succ]
            (first | refine wpS_quiet (some 55) { dst := some 55, op := Op.call { callee := Callee.builtin Builtin.len, args := #[Operand.tmp 54], argTypes := #[28] }, type := _, pos := _, after := _, guard := some (5, true) } _ rfl rfl (by rfl) (fun wE hE => by (go_simp; try with_reducible rfl)) ?_ | refine wpS_pass (some 55) _ rfl rfl (by rfl) ?_); simp only [Act.put, List.setIfInBounds_toArray, List.set_cons_zero, List.set_cons_succ]
            (first | refine wpS_quiet (some 56) { dst := some 56, op := Op.move (Operand.tmp 0), type := _, pos := _, after := _, guard := some (5, true) } _ rfl rfl (by rfl) (fun wE hE => by (go_simp; try with_reducible rfl)) ?_ | refine wpS_pass (some 56) _ rfl rfl (by rfl) ?_); simp only [Act.put, List.setIfInBounds_toArray, List.set_cons_zero, List.set_cons_succ]
            (first | refine wpS_quiet (some 57) { dst := some 57, op := Op.nilCheck (Operand.tmp 56), type := _, pos := _, after := _, guard := some (5, true) } _ rfl rfl (by rfl) (fun wE hE => by (go_simp; try with_reducible rfl)) ?_ | refine wpS_pass (some 57) _ rfl rfl (by rfl) ?_); simp only [Act.put, List.setIfInBounds_toArray, List.set_cons_zero, List.set_cons_succ]
            (first | refine wpS_quiet (some 58) { dst := some 58, op := Op.fieldAddr 30 (Operand.tmp 57) 0, type := _, pos := _, after := _, guard := some (5, true) } _ rfl rfl (by rfl) (fun wE hE => by (go_simp; try with_reducible rfl)) ?_ | refine wpS_pass (some 58) _ rfl rfl (by rfl) ?_); simp only [Act.put, List.setIfInBounds_toArray, List.set_cons_zero, List.set_cons_succ]
            (first | refine wpS_quiet (some 59) { dst := some 59, op := Op.load 3 (Operand.tmp 58), type := _, pos := _, after := _, guard := some (5, true) } _ rfl rfl (by rfl) (fun wE hE => by (have zk0 := hE.cellS c0; have zk1 := hE.cellS c1; go_simp; try with_reducible rfl)) ?_ | refine wpS_pass (some 59) _ rfl rfl (by rfl) ?_); simp only [Act.put, List.setIfInBounds_toArray, List.set_cons_zero, List.set_cons_succ]
            (first | refine wpS_quiet (some 60) { dst := some 60, op := Op.binOp BinOp.gtr 3 (Operand.tmp 55) (Operand.tmp 59) 3, type := _, pos := _, after := _, guard := some (5, true) } _ rfl rfl (by rfl) (fun wE hE => by (go_simp; try with_reducible rfl)) ?_ | refine wpS_pass (some 60) _ rfl rfl (by rfl) ?_); simp only [Act.put, List.setIfInBounds_toArray, List.set_cons_zero, List.set_cons_succ]
            refine wpS_quiet (some 61) { dst := some 61, op := Op.pick (Operand.tmp 50) (Operand.tmp 60) (Operand.const (Value.bool false)), type := _, pos := _, after := _, guard := none } _ rfl rfl (by rfl) (fun wE hE => by (go_simp; try with_reducible rfl)) ?_; simp only [Act.put, List.setIfInBounds_toArray, List.set_cons_zero, List.set_cons_succ]
            change Exit.then _ _ _ _ _
            have HNEV := Lib.hid hnev
            clear hnev
            go_wp2_with fail
            go_meet
            have hnev := HNEV.out
            exact Lib.hid (DoMid.mk' SC5 ⟨KA5, OT.nil _ _⟩ ((by rw [d1m K1.out HNO.out]; have hn5 := HN4.out; subst hn5; unfold evP; rw [if_neg (by simpa using hnev)])) HKP5.out HEB5.out)
        · have dz : decide (0 < size) = false := decide_eq_false hpz
          have hnev : ¬ (size ≠ 0 ∧ size < (n4 : Int)) := fun h => by omega
          refine wp_region_sched (ops := ops_9_8) Ext [] (.quiet 0 (.quiet 1 (.quiet 2 (.quiet 3 (.quiet 4 (.quiet 5 (.quiet 6 (.quiet 7 (.quiet 8 (.quiet 9 (.quiet 10 (.quiet 11 (.quiet 12 (.quiet 13 (.quiet 14 (.quiet 15 (.quiet 16 (.done)))))))))))))))))) (by kernel_rfl) ext_refl ext_trans (by kernel_rfl) (fun _ _ d _ _ h => by cases d <;> exact h) ?_
          refine wpS_quiet (some 45) { dst := some 45, op := Op.move (Operand.tmp 0), type := _, pos := _, after := _, guard := none } _ rfl rfl (by rfl) (fun wE hE => by (go_simp; try with_reducible rfl)) ?_; simp only [Act.put, List.setIfInBounds_toArray, List.set_cons_zero, List.set_cons_succ]
          refine wpS_quiet (some 46) { dst := some 46, op := Op.nilCheck (Operand.tmp 45), type := _, pos := _, after := _, guard := none } _ rfl rfl (by rfl) (fun wE hE => by (go_simp; try with_reducible rfl)) ?_; simp only [Act.put, List.setIfInBounds_toArray, List.set_cons_zero, List.set_cons_succ]
          refine wpS_quiet (some 47) { dst := some 47, op := Op.fieldAddr 30 (Operand.tmp 46) 0, type := _, pos := _, after := _, guard := none } _ rfl rfl (by rfl) (fun wE hE => by (go_simp; try with_reducible rfl)) ?_; simp only [Act.put, List.setIfInBounds_toArray, List.set_cons_zero, List.set_cons_succ]
          refine wpS_quiet (some 48) { dst := some 48, op := Op.load 3 (Operand.tmp 47), type := _, pos := _, after := _, guard := none } _ rfl rfl (by rfl) (fun wE hE => by (have zk0 := hE.cellS c0; have zk1 := hE.cellS c1; go_simp; try with_reducible rfl)) ?_; simp only [Act.put, List.setIfInBounds_toArray, List.set_cons_zero, List.set_cons_succ]
          refine wpS_quiet (some 49) { dst := some 49, op := Op.binOp BinOp.gtr 3 (Operand.tmp 48) (Operand.const (Value.int IntKind.i64 0)) 3, type := _, pos := _, after := _, guard := none } _ rfl rfl (by rfl) (fun wE hE => by (go_simp; try with_reducible rfl)) ?_; simp only [Act.put, List.setIfInBounds_toArray, List.set_cons_zero, List.set_cons_succ]
          refine wpS_quiet (some 50) { dst := some 50, op := Op.move (Operand.tmp 49), type := _, pos := _, after := _, guard := none } _ rfl rfl (by rfl) (fun wE hE => by (go_simp; try with_reducible rfl)) ?_; simp only [Act.put, List.setIfInBounds_toArray, List.set_cons_zero, List.set_cons_succ]
          (first | refine wpS_quiet (some 51) { dst := some 51, op := Op.move (Operand.tmp 0), type := _, pos := _, after := _, guard := some (5, true) } _ rfl rfl (by rfl) (fun wE hE => by (go_simp; try with_reducible rfl)) ?_ | refine wpS_pass (some 51) _ rfl rfl (by rfl) ?_); simp only [Act.put, List.setIfInBounds_toArray, List.set_cons_zero, List.set_cons_succ]
          (first | refine wpS_quiet (some 52) { dst := some 52, op := Op.nilCheck (Operand.tmp 51), type := _, pos := _, after := _, guard := some (5, true) } _ rfl rfl (by rfl) (fun wE hE => by (go_simp; try with_reducible rfl)) ?_ | refine wpS_pass (some 52) _ rfl rfl (by rfl) ?_); simp only [Act.put, List.setIfInBounds_toArray, List.set_cons_zero, List.set_cons_succ]
          (first | refine wpS_quiet (some 53) { dst := some 53, op := Op.fieldAddr 30 (Operand.tmp 52) 1, type := _, pos := _, after := _, guard := some (5, true) } _ rfl rfl (by rfl) (fun wE hE => by (go_simp; try with_reducible rfl)) ?_ | refine wpS_pass (some 53) _ rfl rfl (by rfl) ?_); simp only [Act.put, List.setIfInBounds_toArray, List.set_cons_zero, List.set_cons_succ]
          (first | refine wpS_quiet (some 54) { dst := some 54, op := Op.load 28 (Operand.tmp 53), type := _, pos := _, after := _, guard := some (5, true) } _ rfl rfl (by rfl) (fun wE hE => by (have zk0 := hE.cellS c0; have zk1 := hE.cellS c1; go_simp; try with_reducible rfl)) ?_ | refine wpS_pass (some 54) _ rfl rfl (by rfl) ?_); simp only [Act.put, List.setIfInBounds_toArray, List.set_cons_zero, List.set_cons_succ]
          (first | refine wpS_quiet (some 55) { dst := some 55, op := Op.call { callee := Callee.builtin Builtin.len, args := #[Operand.tmp 54], argTypes := #[28] }, type := _, pos := _, after := _, guard := some (5, true) } _ rfl rfl (by rfl) (fun wE hE => by (go_simp; try with_reducible rfl)) ?_ | refine wpS_pass (some 55) _ rfl rfl (by rfl) ?_); simp only [Act.put, List.setIfInBounds_toArray, List.set_cons_zero, List.set_cons_succ]
          (first | refine wpS_quiet (some 56) { dst := some 56, op := Op.move (Operand.tmp 0), type := _, pos := _, after := _, guard := some (5, true) } _ rfl rfl (by rfl) (fun wE hE => by (go_simp; try with_reducible rfl)) ?_ | refine wpS_pass (some 56) _ rfl rfl (by rfl) ?_); simp only [Act.put, List.setIfInBounds_toArray, List.set_cons_zero, List.set_cons_succ]
          (first | refine wpS_quiet (some 57) { dst := some 57, op := Op.nilCheck (Operand.tmp 56), type := _, pos := _, after := _, guard := some (5, true) } _ rfl rfl (by rfl) (fun wE hE => by (go_simp; try with_reducible rfl)) ?_ | refine wpS_pass (some 57) _ rfl rfl (by rfl) ?_); simp only [Act.put, List.setIfInBounds_toArray, List.set_cons_zero, List.set_cons_succ]
          (first | refine wpS_quiet (some 58) { dst := some 58, op := Op.fieldAddr 30 (Operand.tmp 57) 0, type := _, pos := _, after := _, guard := some (5, true) } _ rfl rfl (by rfl) (fun wE hE => by (go_simp; try with_reducible rfl)) ?_ | refine wpS_pass (some 58) _ rfl rfl (by rfl) ?_); simp only [Act.put, List.setIfInBounds_toArray, List.set_cons_zero, List.set_cons_succ]
          (first | refine wpS_quiet (some 59) { dst := some 59, op := Op.load 3 (Operand.tmp 58), type := _, pos := _, after := _, guard := some (5, true) } _ rfl rfl (by rfl) (fun wE hE => by (have zk0 := hE.cellS c0; have zk1 := hE.cellS c1; go_simp; try with_reducible rfl)) ?_ | refine wpS_pass (some 59) _ rfl rfl (by rfl) ?_); simp only [Act.put, List.setIfInBounds_toArray, List.set_cons_zero, List.set_cons_succ]
          (first | refine wpS_quiet (some 60) { dst := some 60, op := Op.binOp BinOp.gtr 3 (Operand.tmp 55) (Operand.tmp 59) 3, type := _, pos := _, after := _, guard := some (5, true) } _ rfl rfl (by rfl) (fun wE hE => by (go_simp; try with_reducible rfl)) ?_ | refine wpS_pass (some 60) _ rfl rfl (by rfl) ?_); simp only [Act.put, List.setIfInBounds_toArray, List.set_cons_zero, List.set_cons_succ]
          refine wpS_quiet (some 61) { dst := some 61, op := Op.pick (Operand.tmp 50) (Operand.tmp 60) (Operand.const (Value.bool false)), type := _, pos := _, after := _, guard := none } _ rfl rfl (by rfl) (fun wE hE => by (go_simp; try with_reducible rfl)) ?_; simp only [Act.put, List.setIfInBounds_toArray, List.set_cons_zero, List.set_cons_succ]
          change Exit.then _ _ _ _ _
          have HNEV := Lib.hid hnev
          clear hnev
          go_wp2_with fail
          go_meet
          have hnev := HNEV.out
          exact Lib.hid (DoMid.mk' SC5 ⟨KA5, OT.nil _ _⟩ ((by rw [d1m K1.out HNO.out]; have hn5 := HN4.out; subst hn5; unfold evP; rw [if_neg (by simpa using hnev)])) HKP5.out HEB5.out)
      · have HNO := Lib.hid hno
        have hge : (0 : Int) ≤ (X.length : Int) := by omega
        have hXl : X.length ≤ 2000 := by simp at hln; omega
        have hXY : (X ++ Y).length + 1 = (X ++ (o.key, u) :: Y).length := by simp; omega
        have hmo : size ≠ 0 → ((X ++ (o.key, u) :: Y).length : Int) ≤ size := hmost.out
        have c1 := SC2.out.2.1.cell (o := 1) rfl
        have HC := Lib.hid (cloneEn_any _ _ _ W2 SC2.out.2.2 (by omega) (by simp))
        obtain ⟨Ac, nc, cpc, rfl⟩ := own_shape SC2.out.2.2
        clear hno
        go_wp2_with fail
        -- behind the call of Clone: 'HC'; then Delete, and the store of what is left: w9, SC9 (X ++ Y), KA9, HKP9, HEB9, o1, o2
        refine HC.out.mono ?_
        rintro e w2 ⟨v2, rfl, p2, e2⟩
        have hd := delEn_any _ _ v2 X Y (o.key, u) w2 p2 (by omega)
        rw [show (((X.length + 1 : Nat)) : Int) = (X.length : Int) + 1 from by omega] at hd
        have HD := Lib.hid hd
        have HP2 := Lib.hid p2
        have E2 := Lib.hid e2
        obtain ⟨A2, n2, cap2, rfl⟩ := own_shape p2
        clear p2 e2 hd c1
        go_wp2_with fail
        refine HD.out.mono ?_
        rintro e w3 ⟨v3, rfl, p3, hv3, x3⟩
        have HP3 := Lib.hid p3
        have X3 := Lib.hid x3
        have hcl3 := SC2.out.2.1.lt
        have hcs : ¬ (some c = Value.ownBlock (.slice A2 n2 cap2)) := fun he => by
          have h1 := (HP2.out.own c he.symm).1
          omega
        have kc := (SC2.out.2.1.ext E2.out).extX x3 hcs
        have k1 := kc.cell (o := 1) rfl
        have f1 := kc.frozen 1
        have KC := Lib.hid kc
        obtain ⟨A3, n3, cap3, rfl⟩ := own_shape p3
        clear p3 x3 kc
        go_upto_region 7 with fail
        have XS := setC_E w3 c 1 (.slice A3 n3 cap3)
        have hSC := SC2.out.1
        have hb2 : ∀ q, some q = Value.ownBlock (.slice A2 n2 cap2) → W2.heap.size ≤ q := fun q hq => (HP2.out.own q hq.symm).1
        have hb3 : ∀ q, some q = Value.ownBlock (.slice A3 n3 cap3) → W2.heap.size ≤ q := fun q hq => hb2 q (by rw [← hv3]; exact hq)
        have XA : ExtX (fun q => q = c) W2 (w3.setCell ⟨c, 1, none⟩ (.slice A3 n3 cap3)) := ((E2.out.toX (fun q => q = c)).trans' X3.out (fun q hq h => by have := hb2 q h; omega)).trans XS
        have SC9 : Hid (SC (w3.setCell ⟨c, 1, none⟩ (.slice A3 n3 cap3)) S c size (.slice A3 n3 cap3) (X ++ Y)) := Lib.hid ⟨hSC, KC.out.setCell 1 (.slice A3 n3 cap3), OwnP.lower (own_keep HP3.out XS (fun q hq e => by have := hb3 q hq; rw [show q = c from e] at this; omega)) (Nat.zero_le _) (fun q hq => by omega)⟩
        have nac := SC2.out.apart KA2.out (by decide) (by decide)
        have KA9 : Hid (Blk (w3.setCell ⟨c, 1, none⟩ (.slice A3 n3 cap3)) a _ _) := Lib.hid (KA2.out.extX XA nac.1)
        have HKP9 : Hid (∀ b T cs, Blk W2 b T cs → b ≠ c → b ≠ a → T ≠ 59 → Blk (w3.setCell ⟨c, 1, none⟩ (.slice A3 n3 cap3)) b T cs) := Lib.hid (fun b T cs hb hc ha hT => hb.extX XA hc)
        have HEB9 : Hid (ExtB S W2 (w3.setCell ⟨c, 1, none⟩ (.slice A3 n3 cap3))) := Lib.hid (XA.toB (fun q h => h ▸ hSC) hsz2)
        have KO9 := (HKO.out.ext HEX2.out).extX XA hbc
        have hszW : S ≤ (w3.setCell ⟨c, 1, none⟩ (.slice A3 n3 cap3)).heap.size := Nat.le_trans hsz2 XA.size
        have hszB : W2.heap.size ≤ (w3.setCell ⟨c, 1, none⟩ (.slice A3 n3 cap3)).heap.size := XA.size
        generalize w3.setCell ⟨c, 1, none⟩ (.slice A3 n3 cap3) = w9 at SC9 KA9 HKP9 HEB9 KO9 hszW hszB ⊢
        have o1 := KO9.cell (o := 1) rfl
        have o2 := KO9.cell (o := 2) rfl
        clear k1 f1 XS hb2 hb3 XA nac hcs
        generalize (Value.slice A3 n3 cap3) = v9 at SC9 ⊢
        -- world WW: SCN : Hid (SC WW S c size _ L0), KAN : Hid (Blk WW a ..), the keep HK, EX : ExtB S W2 WW; o1 o2
        have c1 := SC9.out.2.1.cell (o := 1) rfl
        have hcl2 := SC9.out.2.1.lt
        obtain ⟨Ac, nc, cpc, hvc⟩ := own_shape SC9.out.2.2
        subst hvc
        refine wp_region_schedT (ops := ops_9_7) Ext [11, 14] (.pure 0 (.quiet 1 (.quiet 2 (.quiet 3 (.quiet 4 (.quiet 5 (.quiet 7 (.quiet 8 (.quiet 9 (.quiet 10 (.loud 6 (.last 11 (.pure 12 (.pure 13 (.last 14 (.done))))) (.stop)))))))))))) (by kernel_rfl) ext_refl ext_trans (by kernel_rfl) (fun _ _ d _ _ h => by cases d <;> exact h) ?_
        refine wpS_pure (some 31) { dst := some 31, op := Op.move (Operand.tmp 0), type := _, pos := _, after := _, guard := none } _ rfl rfl (by rfl) (fun wE => by (go_simp; try with_reducible rfl)) ?_; simp only [Act.put, List.setIfInBounds_toArray, List.set_cons_zero, List.set_cons_succ]
        refine wpS_quiet (some 32) { dst := some 32, op := Op.fieldAddr 32 (Operand.tmp 3) 1, type := _, pos := _, after := _, guard := none } _ rfl rfl (by rfl) (fun wE hE => by (go_simp; try with_reducible rfl)) ?_; simp only [Act.put, List.setIfInBounds_toArray, List.set_cons_zero, List.set_cons_succ]
        refine wpS_quiet (some 33) { dst := some 33, op := Op.load 3 (Operand.tmp 32), type := _, pos := _, after := _, guard := none } _ rfl rfl (by rfl) (fun wE hE => by (have zk0 := hE.cellS o1; have zk1 := hE.cellS o2; have zk2 := hE.cellS c1; go_simp; try with_reducible rfl)) ?_; simp only [Act.put, List.setIfInBounds_toArray, List.set_cons_zero, List.set_cons_succ]
        refine wpS_quiet (some 34) { dst := some 34, op := Op.fieldAddr 32 (Operand.tmp 3) 2, type := _, pos := _, after := _, guard := none } _ rfl rfl (by rfl) (fun wE hE => by (go_simp; try with_reducible rfl)) ?_; simp only [Act.put, List.setIfInBounds_toArray, List.set_cons_zero, List.set_cons_succ]
        refine wpS_quiet (some 35) { dst := some 35, op := Op.load 3 (Operand.tmp 34), type := _, pos := _, after := _, guard := none } _ rfl rfl (by rfl) (fun wE hE => by (have zk0 := hE.cellS o1; have zk1 := hE.cellS o2; have zk2 := hE.cellS c1; go_simp; try with_reducible rfl)) ?_; simp only [Act.put, List.setIfInBounds_toArray, List.set_cons_zero, List.set_cons_succ]
        refine wpS_quiet (some 36) { dst := some 36, op := Op.build 59 #[(0, Operand.tmp 33), (1, Operand.tmp 35)], type := _, pos := _, after := _, guard := none } _ rfl rfl (by rfl) (fun wE hE => by (go_simp; try with_reducible rfl)) ?_; simp only [Act.put, List.setIfInBounds_toArray, List.set_cons_zero, List.set_cons_succ]
        refine wpS_quiet (some 38) { dst := some 38, op := Op.move (Operand.tmp 0), type := _, pos := _, after := _, guard := none } _ rfl rfl (by rfl) (fun wE hE => by (go_simp; try with_reducible rfl)) ?_; simp only [Act.put, List.setIfInBounds_toArray, List.set_cons_zero, List.set_cons_succ]
        refine wpS_quiet (some 39) { dst := some 39, op := Op.nilCheck (Operand.tmp 38), type := _, pos := _, after := _, guard := none } _ rfl rfl (by rfl) (fun wE hE => by (go_simp; try with_reducible rfl)) ?_; simp only [Act.put, List.setIfInBounds_toArray, List.set_cons_zero, List.set_cons_succ]
        refine wpS_quiet (some 40) { dst := some 40, op := Op.fieldAddr 30 (Operand.tmp 39) 1, type := _, pos := _, after := _, guard := none } _ rfl rfl (by rfl) (fun wE hE => by (go_simp; try with_reducible rfl)) ?_; simp only [Act.put, List.setIfInBounds_toArray, List.set_cons_zero, List.set_cons_succ]
        refine wpS_quiet (some 41) { dst := some 41, op := Op.load 28 (Operand.tmp 40), type := _, pos := _, after := _, guard := none } _ rfl rfl (by rfl) (fun wE hE => by (have zk0 := hE.cellS o1; have zk1 := hE.cellS o2; have zk2 := hE.cellS c1; go_simp; try with_reducible rfl)) ?_; simp only [Act.put, List.setIfInBounds_toArray, List.set_cons_zero, List.set_cons_succ]
        refine wpS_make (some 37) { dst := some 37, op := Op.buildSlice 28 1 #[(0, Operand.tmp 36)], type := _, pos := _, after := _, guard := none } rfl rfl (by rfl) 59 (prCells (o.key, o.val)) 1 (by go_simp; try rfl) (fun w' h => h) ?_ trivial
        intro b1 w1 hb1 e1 K1
        simp only [Act.put, List.setIfInBounds_toArray, List.set_cons_zero, List.set_cons_succ]
        have hwW : w9.drew.heap.size = w9.heap.size := rfl
        have own1 := (SC9.out.2.2.drew).ext e1
        obtain ⟨A4, n4, cp4, w4, hn4, r4, own4, x4⟩ := cons_app K1 (by omega) own1 (fun he => by have := (SC9.out.2.2.own b1 he.symm).2; omega) (by have := e1.size; omega) (by omega)
        refine wpS_lastE (some 42) { dst := some 42, op := Op.call { callee := Callee.builtin Builtin.append, args := #[Operand.tmp 37, Operand.tmp 41], argTypes := #[28, 28] }, type := _, pos := _, after := _, guard := none } rfl rfl (by rfl) ?_
        refine ⟨_, w4, exec_app (.tmp 37) (.tmp 41) 28 rfl rfl rfl r4, ?_⟩
        simp only [Act.put, List.setIfInBounds_toArray, List.set_cons_zero, List.set_cons_succ]
        refine wpS_pure (some 43) { dst := some 43, op := Op.nilCheck (Operand.tmp 31), type := _, pos := _, after := _, guard := none } _ rfl rfl (by rfl) (fun wE => by (go_simp; try with_reducible rfl)) ?_; simp only [Act.put, List.setIfInBounds_toArray, List.set_cons_zero, List.set_cons_succ]
        refine wpS_pure (some 44) { dst := some 44, op := Op.fieldAddr 30 (Operand.tmp 43) 1, type := _, pos := _, after := _, guard := none } _ rfl rfl (by rfl) (fun wE => by (go_simp; try with_reducible rfl)) ?_; simp only [Act.put, List.setIfInBounds_toArray, List.set_cons_zero, List.set_cons_succ]
        have kc4 : Blk w4 c _ _ := ((show Blk w9.drew c _ _ from SC9.out.2.1).ext e1).extX x4 (by omega)
        have k4 := kc4.cell (o := 1) rfl
        have f4 := kc4.frozen 1
        refine wpS_last none { dst := none, op := Op.store 28 (Operand.tmp 44) (Operand.tmp 42), type := _, pos := _, after := _, guard := none } undef (World.setCell w4 ⟨c, 1, none⟩ (.slice A4 n4 cp4)) rfl rfl (by rfl) (.inr ⟨rfl, by (go_simp; try rfl)⟩) ?_
        simp only [Act.put]
        change Exit.then _ _ _ _ _
        have XS := setC_E w4 c 1 (.slice A4 n4 cp4)
        have X5 : ExtX (fun q => q = c) w9 (w4.setCell ⟨c, 1, none⟩ (.slice A4 n4 cp4)) := ((e1.undrew.toX (fun q => q = c)).trans' x4 (fun q hq h => by omega)).trans XS
        have SC5 : SC (w4.setCell ⟨c, 1, none⟩ (.slice A4 n4 cp4)) S c size (.slice A4 n4 cp4) ((o.key, o.val) :: (X ++ Y)) := ⟨SC9.out.1, kc4.setCell 1 _, own_keep own4 XS (fun q hq e => by
          obtain ⟨cs', hb'⟩ := own4.blk hq.symm
          rw [show q = c from e] at hb'
          exact absurd (hb'.inj kc4) (by decide))⟩
        have nac := SC9.out.apart KA9.out (by decide) (by decide)
        have KA5 := KA9.out.extX X5 nac.1
        have hs5 : S ≤ (w4.setCell ⟨c, 1, none⟩ (.slice A4 n4 cp4)).heap.size := Nat.le_trans hszW X5.size
        have hb5 : W2.heap.size ≤ (w4.setCell ⟨c, 1, none⟩ (.slice A4 n4 cp4)).heap.size := Nat.le_trans hszB X5.size
        have hkp5 : ∀ b T cs, Blk W2 b T cs → b ≠ c → b ≠ a → T ≠ 59 → Blk (w4.setCell ⟨c, 1, none⟩ (.slice A4 n4 cp4)) b T cs := fun b T cs hb hc ha hT => (HKP9.out b T cs hb hc ha hT).extX X5 hc
        have heb5 : ExtB S W2 (w4.setCell ⟨c, 1, none⟩ (.slice A4 n4 cp4)) := ExtB.trans HEB9.out (X5.toB (fun q h => h ▸ SC9.out.1) hszW)
        generalize w4.setCell ⟨c, 1, none⟩ (.slice A4 n4 cp4) = w5 at SC5 KA5 hs5 hb5 hkp5 heb5 ⊢
        have HKP5 := Lib.hid hkp5
        have HN4 := Lib.hid hn4
        clear hn4
        have HEB5 := Lib.hid heb5
        have c0 := SC5.2.1.cell (o := 0) rfl
        have c1 := SC5.2.1.cell (o := 1) rfl
        clear k4 f4 kc4 own4 own1 x4 r4 XS X5 hkp5 heb5 K1 e1 hb1 hwW nac o0 o1 o2
        go_wp2_with fail
        by_cases hpz : 0 < size
        · have dz : decide (0 < size) = true := decide_eq_true hpz
          by_cases hevb : size < (n4 : Int)
          · have de : decide (size < (n4 : Int)) = true := decide_eq_true hevb
            refine wp_region_sched (ops := ops_9_8) Ext [] (.quiet 0 (.quiet 1 (.quiet 2 (.quiet 3 (.quiet 4 (.quiet 5 (.quiet 6 (.quiet 7 (.quiet 8 (.quiet 9 (.quiet 10 (.quiet 11 (.quiet 12 (.quiet 13 (.quiet 14 (.quiet 15 (.quiet 16 (.done)))))))))))))))))) (by kernel_rfl) ext_refl ext_trans (by kernel_rfl) (fun _ _ d _ _ h => by cases d <;> exact h) ?_
            refine wpS_quiet (some 45) { dst := some 45, op := Op.move (Operand.tmp 0), type := _, pos := _, after := _, guard := none } _ rfl rfl (by rfl) (fun wE hE => by (go_simp; try with_reducible rfl)) ?_; simp only [Act.put, List.setIfInBounds_toArray, List.set_cons_zero, List.set_cons_succ]
            refine wpS_quiet (some 46) { dst := some 46, op := Op.nilCheck (Operand.tmp 45), type := _, pos := _, after := _, guard := none } _ rfl rfl (by rfl) (fun wE hE => by (go_simp; try with_reducible rfl)) ?_; simp only [Act.put, List.setIfInBounds_toArray, List.set_cons_zero, List.set_cons_succ]
            refine wpS_quiet (some 47) { dst := some 47, op := Op.fieldAddr 30 (Operand.tmp 46) 0, type := _, pos := _, after := _, guard := none } _ rfl rfl (by rfl) (fun wE hE => by (go_simp; try with_reducible rfl)) ?_; simp only [Act.put, List.setIfInBounds_toArray, List.set_cons_zero, List.set_cons_succ]
            refine wpS_quiet (some 48) { dst := some 48, op := Op.load 3 (Operand.tmp 47), type := _, pos := _, after := _, guard := none } _ rfl rfl (by rfl) (fun wE hE => by (have zk0 := hE.cellS c0; have zk1 := hE.cellS c1; go_simp; try with_reducible rfl)) ?_; simp only [Act.put, List.setIfInBounds_toArray, List.set_cons_zero, List.set_cons_succ]
            refine wpS_quiet (some 49) { dst := some 49, op := Op.binOp BinOp.gtr 3 (Operand.tmp 48) (Operand.const (Value.int IntKind.i64 0)) 3, type := _, pos := _, after := _, guard := none } _ rfl rfl (by rfl) (fun wE hE => by (go_simp; try with_reducible rfl)) ?_; simp only [Act.put, List.setIfInBounds_toArray, List.set_cons_zero, List.set_cons_succ]
            refine wpS_quiet (some 50) { dst := some 50, op := Op.move (Operand.tmp 49), type := _, pos := _, after := _, guard := none } _ rfl rfl (by rfl) (fun wE hE => by (go_simp; try with_reducible rfl)) ?_; simp only [Act.put, List.setIfInBounds_toArray, List.set_cons_zero, List.set_cons_succ]
            (first | refine wpS_quiet (some 51) { dst := some 51, op := Op.move (Operand.tmp 0), type := _, pos := _, after := _, guard := some (5, true) } _ rfl rfl (by rfl) (fun wE hE => by (go_simp; try with_reducible rfl)) ?_ | refine wpS_pass (some 51) _ rfl rfl (by rfl) ?_); simp only [Act.put, List.setIfInBounds_toArray, List.set_cons_zero, List.set_cons_succ]
            (first | refine wpS_quiet (some 52) { dst := some 52, op := Op.nilCheck (Operand.tmp 51), type := _, pos := _, after := _, guard := some (5, true) } _ rfl rfl (by rfl) (fun wE hE => by (go_simp; try with_reducible rfl)) ?_ | refine wpS_pass (some 52) _ rfl rfl (by rfl) ?_); simp only [Act.put, List.setIfInBounds_toArray, List.set_cons_zero, List.set_cons_succ]
            (first | refine wpS_quiet (some 53) { dst := some 53, op := Op.fieldAddr 30 (Operand.tmp 52) 1, type := _, pos := _, after := _, guard := some (5, true) } _ rfl rfl (by rfl) (fun wE hE => by (go_simp; try with_reducible rfl)) ?_ | refine wpS_pass (some 53) _ rfl rfl (by rfl) ?_); simp only [Act.put, List.setIfInBounds_toArray, List.set_cons_zero, List.set_cons_succ]
            (first | refine wpS_quiet (some 54) { dst := some 54, op := Op.load 28 (Operand.tmp 53), type := _, pos := _, after := _, guard := some (5, true) } _ rfl rfl (by rfl) (fun wE hE => by (have zk0 := hE.cellS c0; have zk1 := hE.cellS c1; go_simp; try with_reducible rfl)) ?_ | refine wpS_pass (some 54) _ rfl rfl (by rfl) ?_); simp only [Act.put, List.setIfInBounds_toArray, List.set_cons_zero, List.set_cons_succ]
            (first | refine wpS_quiet (some 55) { dst := some 55, op := Op.call { callee := Callee.builtin Builtin.len, args := #[Operand.tmp 54], argTypes := #[28] }, type := _, pos := _, after := _, guard := some (5, true) } _ rfl rfl (by rfl) (fun wE hE => by (go_simp; try with_reducible rfl)) ?_ | refine wpS_pass (some 55) _ rfl rfl (by rfl) ?_); simp only [Act.put, List.setIfInBounds_toArray, List.set_cons_zero, List.set_cons_succ]
            (first | refine wpS_quiet (some 56) { dst := some 56, op := Op.move (Operand.tmp 0), type := _, pos := _, after := _, guard := some (5, true) } _ rfl rfl (by rfl) (fun wE hE => by (go_simp; try with_reducible rfl)) ?_ | refine wpS_pass (some 56) _ rfl rfl (by rfl) ?_); simp only [Act.put, List.setIfInBounds_toArray, List.set_cons_zero, List.set_cons_succ]
            (first | refine wpS_quiet (some 57) { dst := some 57, op := Op.nilCheck (Operand.tmp 56), type := _, pos := _, after := _, guard := some (5, true) } _ rfl rfl (by rfl) (fun wE hE => by (go_simp; try with_reducible rfl)) ?_ | refine wpS_pass (some 57) _ rfl rfl (by rfl) ?_); simp only [Act.put, List.setIfInBounds_toArray, List.set_cons_zero, List.set_cons_succ]
            (first | refine wpS_quiet (some 58) { dst := some 58, op := Op.fieldAddr 30 (Operand.tmp 57) 0, type := _, pos := _, after := _, guard := some (5, true) } _ rfl rfl (by rfl) (fun wE hE => by (go_simp; try with_reducible rfl)) ?_ | refine wpS_pass (some 58) _ rfl rfl (by rfl) ?_); simp only [Act.put, List.setIfInBounds_toArray, List.set_cons_zero, List.set_cons_succ]
            (first | refine wpS_quiet (some 59) { dst := some 59, op := Op.load 3 (Operand.tmp 58), type := _, pos := _, after := _, guard := some (5, true) } _ rfl rfl (by rfl) (fun wE hE => by (have zk0 := hE.cellS c0; have zk1 := hE.cellS c1; go_simp; try with_reducible rfl)) ?_ | refine wpS_pass (some 59) _ rfl rfl (by rfl) ?_); simp only [Act.put, List.setIfInBounds_toArray, List.set_cons_zero, List.set_cons_succ]
            (first | refine wpS_quiet (some 60) { dst := some 60, op := Op.binOp BinOp.gtr 3 (Operand.tmp 55) (Operand.tmp 59) 3, type := _, pos := _, after := _, guard := some (5, true) } _ rfl rfl (by rfl) (fun wE hE => by (go_simp; try with_reducible rfl)) ?_ | refine wpS_pass (some 60) _ rfl rfl (by rfl) ?_); simp only [Act.put, List.setIfInBounds_toArray, List.set_cons_zero, List.set_cons_succ]
            refine wpS_quiet (some 61) { dst := some 61, op := Op.pick (Operand.tmp 50) (Operand.tmp 60) (Operand.const (Value.bool false)), type := _, pos := _, after := _, guard := none } _ rfl rfl (by rfl) (fun wE hE => by (go_simp; try with_reducible rfl)) ?_; simp only [Act.put, List.setIfInBounds_toArray, List.set_cons_zero, List.set_cons_succ]
            change Exit.then _ _ _ _ _
            exfalso
            have := hmo (by omega)
            have := HN4.out
            omega
          · have de : decide (size < (n4 : Int)) = false := decide_eq_false hevb
            have hnev : ¬ (size ≠ 0 ∧ size < (n4 : Int)) := fun h => hevb h.2
            refine wp_region_sched (ops := ops_9_8) Ext [] (.quiet 0 (.quiet 1 (.quiet 2 (.quiet 3 (.quiet 4 (.quiet 5 (.quiet 6 (.quiet 7 (.quiet 8 (.quiet 9 (.quiet 10 (.quiet 11 (.quiet 12 (.quiet 13 (.quiet 14 (.quiet 15 (.quiet 16 (.done)))))))))))))))))) (by kernel_rfl) ext_refl ext_trans (by kernel_rfl) (fun _ _ d _ _ h => by cases d <;> exact h) ?_
            refine wpS_quiet (some 45) { dst := some 45, op := Op.move (Operand.tmp 0), type := _, pos := _, after := _, guard := none } _ rfl rfl (by rfl) (fun wE hE => by (go_simp; try with_reducible rfl)) ?_; simp only [Act.put, List.setIfInBounds_toArray, List.set_cons_zero, List.set_cons_succ]
            refine wpS_quiet (some 46) { dst := some 46, op := Op.nilCheck (Operand.tmp 45), type := _, pos := _, after := _, guard := none } _ rfl rfl (by rfl) (fun wE hE => by (go_simp; try with_reducible rfl)) ?_; simp only [Act.put, List.setIfInBounds_toArray, List.set_cons_zero, List.set_cons_succ]
            refine wpS_quiet (some 47) { dst := some 47, op := Op.fieldAddr 30 (Operand.tmp 46) 0, type := _, pos := _, after := _, guard := none } _ rfl rfl (by rfl) (fun wE hE => by (go_simp; try with_reducible rfl)) ?_; simp only [Act.put, List.setIfInBounds_toArray, List.set_cons_zero, List.set_cons_succ]
            refine wpS_quiet (some 48) { dst := some 48, op := Op.load 3 (Operand.tmp 47), type := _, pos := _, after := _, guard := none } _ rfl rfl (by rfl) (fun wE hE => by (have zk0 := hE.cellS c0; have zk1 := hE.cellS c1; go_simp; try with_reducible rfl)) ?_; simp only [Act.put, List.setIfInBounds_toArray, List.set_cons_zero, List.set_cons_succ]
            refine wpS_quiet (some 49) { dst := some 49, op := Op.binOp BinOp.gtr 3 (Operand.tmp 48) (Operand.const (Value.int IntKind.i64 0)) 3, type := _, pos := _, after := _, guard := none } _ rfl rfl (by rfl) (fun wE hE => by (go_simp; try with_reducible rfl)) ?_; simp only [Act.put, List.setIfInBounds_toArray, List.set_cons_zero, List.set_cons_succ]
            refine wpS_quiet (some 50) { dst := some 50, op := Op.move (Operand.tmp 49), type := _, pos := _, after := _, guard := none } _ rfl rfl (by rfl) (fun wE hE => by (go_simp; try with_reducible rfl)) ?_; simp only [Act.put, List.setIfInBounds_toArray, List.set_cons_zero, List.set_cons_succ]
            (first | refine wpS_quiet (some 51) { dst := some 51, op := Op.move (Operand.tmp 0), type := _, pos := _, after := _, guard := some (5, true) } _ rfl rfl (by rfl) (fun wE hE => by (go_simp; try with_reducible rfl)) ?_ | refine wpS_pass (some 51) _ rfl rfl (by rfl) ?_); simp only [Act.put, List.setIfInBounds_toArray, List.set_cons_zero, List.set_cons_succ]
            (first | refine wpS_quiet (some 52) { dst := some 52, op := Op.nilCheck (Operand.tmp 51), type := _, pos := _, after := _, guard := some (5, true) } _ rfl rfl (by rfl) (fun wE hE => by (go_simp; try with_reducible rfl)) ?_ | refine wpS_pass (some 52) _ rfl rfl (by rfl) ?_); simp only [Act.put, List.setIfInBounds_toArray, List.set_cons_zero, List.set_cons_succ]
            (first | refine wpS_quiet (some 53) { dst := some 53, op := Op.fieldAddr 30 (Operand.tmp 52) 1, type := _, pos := _, after := _, guard := some (5, true) } _ rfl rfl (by rfl) (fun wE hE => by (go_simp; try with_reducible rfl)) ?_ | refine wpS_pass (some 53) _ rfl rfl (by rfl) ?_); simp only [Act.put, List.setIfInBounds_toArray, List.set_cons_zero, List.set_cons_succ]
            (first | refine wpS_quiet (some 54) { dst := some 54, op := Op.load 28 (Operand.tmp 53), type := _, pos := _, after := _, guard := some (5, true) } _ rfl rfl (by rfl) (fun wE hE => by (have zk0 := hE.cellS c0; have zk1 := hE.cellS c1; go_simp; try with_reducible rfl)) ?_ | refine wpS_pass (some 54) _ rfl rfl (by rfl) ?_); simp only [Act.put, List.setIfInBounds_toArray, List.set_cons_zero, List.set_cons_succ]
            (first | refine wpS_quiet (some 55) { dst := some 55, op := Op.call { callee := Callee.builtin Builtin.len, args := #[Operand.tmp 54], argTypes := #[28] }, type := _, pos := _, after := _, guard := some (5, true) } _ rfl rfl (by rfl) (fun wE hE => by (go_simp; try with_reducible rfl)) ?_ | refine wpS_pass (some 55) _ rfl rfl (by rfl) ?_); simp only [Act.put, List.setIfInBounds_toArray, List.set_cons_zero, List.set_cons_succ]
            (first | refine wpS_quiet (some 56) { dst := some 56, op := Op.move (Operand.tmp 0), type := _, pos := _, after := _, guard := some (5, true) } _ rfl rfl (by rfl) (fun wE hE => by (go_simp; try with_reducible rfl)) ?_ | refine wpS_pass (some 56) _ rfl rfl (by rfl) ?_); simp only [Act.put, List.setIfInBounds_toArray, List.set_cons_zero, List.set_cons_succ]
            (first | refine wpS_quiet (some 57) { dst := some 57, op := Op.nilCheck (Operand.tmp 56), type := _, pos := _, after := _, guard := some (5, true) } _ rfl rfl (by rfl) (fun wE hE => by (go_simp; try with_reducible rfl)) ?_ | refine wpS_pass (some 57) _ rfl rfl (by rfl) ?_); simp only [Act.put, List.setIfInBounds_toArray, List.set_cons_zero, List.set_cons_succ]
            (first | refine wpS_quiet (some 58) { dst := some 58, op := Op.fieldAddr 30 (Operand.tmp 57) 0, type := _, pos := _, after := _, guard := some (5, true) } _ rfl rfl (by rfl) (fun wE hE => by (go_simp; try with_reducible rfl)) ?_ | refine wpS_pass (some 58) _ rfl rfl (by rfl) ?_); simp only [Act.put, List.setIfInBounds_toArray, List.set_cons_zero, List.set_cons_succ]
            (first | refine wpS_quiet (some 59) { dst := some 59, op := Op.load 3 (Operand.tmp 58), type := _, pos := _, after := _, guard := some (5, true) } _ rfl rfl (by rfl) (fun wE hE => by (have zk0 := hE.cellS c0; have zk1 := hE.cellS c1; go_simp; try with_reducible rfl)) ?_ | refine wpS_pass (some 59) _ rfl rfl (by rfl) ?_); simp only [Act.put, List.setIfInBounds_toArray, List.set_cons_zero, List.set_cons_succ]
            (first | refine wpS_quiet (some 60) { dst := some 60, op := Op.binOp BinOp.gtr 3 (Operand.tmp 55) (Operand.tmp 59) 3, type := _, pos := _, after := _, guard := some (5, true) } _ rfl rfl (by rfl) (fun wE hE => by (go_simp; try with_reducible rfl)) ?_ | refine wpS_pass (some 60) _ rfl rfl (by rfl) ?_); simp only [Act.put, List.setIfInBounds_toArray, List.set_cons_zero, List.set_cons_succ]
            refine wpS_quiet (some 61) { dst := some 61, op := Op.pick (Operand.tmp 50) (Operand.tmp 60) (Operand.const (Value.bool false)), type := _, pos := _, after := _, guard := none } _ rfl rfl (by rfl) (fun wE hE => by (go_simp; try with_reducible rfl)) ?_; simp only [Act.put, List.setIfInBounds_toArray, List.set_cons_zero, List.set_cons_succ]
            change Exit.then _ _ _ _ _
            have HNEV := Lib.hid hnev
            clear hnev
            go_wp2_with fail
            go_meet
            have hnev := HNEV.out
            exact Lib.hid (DoMid.mk' SC5 ⟨KA5, OT.nil _ _⟩ ((d1h K1.out HND.out)) HKP5.out HEB5.out)
        · have dz : decide (0 < size) = false := decide_eq_false hpz
          have hnev : ¬ (size ≠ 0 ∧ size < (n4 : Int)) := fun h => by omega
          refine wp_region_sched (ops := ops_9_8) Ext [] (.quiet 0 (.quiet 1 (.quiet 2 (.quiet 3 (.quiet 4 (.quiet 5 (.quiet 6 (.quiet 7 (.quiet 8 (.quiet 9 (.quiet 10 (.quiet 11 (.quiet 12 (.quiet 13 (.quiet 14 (.quiet 15 (.quiet 16 (.done)))))))))))))))))) (by kernel_rfl) ext_refl ext_trans (by kernel_rfl) (fun _ _ d _ _ h => by cases d <;> exact h) ?_
          refine wpS_quiet (some 45) { dst := some 45, op := Op.move (Operand.tmp 0), type := _, pos := _, after := _, guard := none } _ rfl rfl (by rfl) (fun wE hE => by (go_simp; try with_reducible rfl)) ?_; simp only [Act.put, List.setIfInBounds_toArray, List.set_cons_zero, List.set_cons_succ]
          refine wpS_quiet (some 46) { dst := some 46, op := Op.nilCheck (Operand.tmp 45), type := _, pos := _, after := _, guard := none } _ rfl rfl (by rfl) (fun wE hE => by (go_simp; try with_reducible rfl)) ?_; simp only [Act.put, List.setIfInBounds_toArray, List.set_cons_zero, List.set_cons_succ]
          refine wpS_quiet (some 47) { dst := some 47, op := Op.fieldAddr 30 (Operand.tmp 46) 0, type := _, pos := _, after := _, guard := none } _ rfl rfl (by rfl) (fun wE hE => by (go_simp; try with_reducible rfl)) ?_; simp only [Act.put, List.setIfInBounds_toArray, List.set_cons_zero, List.set_cons_succ]
          refine wpS_quiet (some 48) { dst := some 48, op := Op.load 3 (Operand.tmp 47), type := _, pos := _, after := _, guard := none } _ rfl rfl (by rfl) (fun wE hE => by (have zk0 := hE.cellS c0; have zk1 := hE.cellS c1; go_simp; try with_reducible rfl)) ?_; simp only [Act.put, List.setIfInBounds_toArray, List.set_cons_zero, List.set_cons_succ]
          refine wpS_quiet (some 49) { dst := some 49, op := Op.binOp BinOp.gtr 3 (Operand.tmp 48) (Operand.const (Value.int IntKind.i64 0)) 3, type := _, pos := _, after := _, guard := none } _ rfl rfl (by rfl) (fun wE hE => by (go_simp; try with_reducible rfl)) ?_; simp only [Act.put, List.setIfInBounds_toArray, List.set_cons_zero, List.set_cons_succ]
          refine wpS_quiet (some 50) { dst := some 50, op := Op.move (Operand.tmp 49), type := _, pos := _, after := _, guard := none } _ rfl rfl (by rfl) (fun wE hE => by (go_simp; try with_reducible rfl)) ?_; simp only [Act.put, List.setIfInBounds_toArray, List.set_cons_zero, List.set_cons_succ]
          (first | refine wpS_quiet (some 51) { dst := some 51, op := Op.move (Operand.tmp 0), type := _, pos := _, after := _, guard := some (5, true) } _ rfl rfl (by rfl) (fun wE hE => by (go_simp; try with_reducible rfl)) ?_ | refine wpS_pass (some 51) _ rfl rfl (by rfl) ?_); simp only [Act.put, List.setIfInBounds_toArray, List.set_cons_zero, List.set_cons_succ]
          (first | refine wpS_quiet (some 52) { dst := some 52, op := Op.nilCheck (Operand.tmp 51), type := _, pos := _, after := _, guard := some (5, true) } _ rfl rfl (by rfl) (fun wE hE => by (go_simp; try with_reducible rfl)) ?_ | refine wpS_pass (some 52) _ rfl rfl (by rfl) ?_); simp only [Act.put, List.setIfInBounds_toArray, List.set_cons_zero, List.set_cons_succ]
          (first | refine wpS_quiet (some 53) { dst := some 53, op := Op.fieldAddr 30 (Operand.tmp 52) 1, type := _, pos := _, after := _, guard := some (5, true) } _ rfl rfl (by rfl) (fun wE hE => by (go_simp; try with_reducible rfl)) ?_ | refine wpS_pass (some 53) _ rfl rfl (by rfl) ?_); simp only [Act.put, List.setIfInBounds_toArray, List.set_cons_zero, List.set_cons_succ]
          (first | refine wpS_quiet (some 54) { dst := some 54, op := Op.load 28 (Operand.tmp 53), type := _, pos := _, after := _, guard := some (5, true) } _ rfl rfl (by rfl) (fun wE hE => by (have zk0 := hE.cellS c0; have zk1 := hE.cellS c1; go_simp; try with_reducible rfl)) ?_ | refine wpS_pass (some 54) _ rfl rfl (by rfl) ?_); simp only [Act.put, List.setIfInBounds_toArray, List.set_cons_zero, List.set_cons_succ]
          (first | refine wpS_quiet (some 55) { dst := some 55, op := Op.call { callee := Callee.builtin Builtin.len, args := #[Operand.tmp 54], argTypes := #[28] }, type := _, pos := _, after := _, guard := some (5, true) } _ rfl rfl (by rfl) (fun wE hE => by (go_simp; try with_reducible rfl)) ?_ | refine wpS_pass (some 55) _ rfl rfl (by rfl) ?_); simp only [Act.put, List.setIfInBounds_toArray, List.set_cons_zero, List.set_cons_succ]
          (first | refine wpS_quiet (some 56) { dst := some 56, op := Op.move (Operand.tmp 0), type := _, pos := _, after := _, guard := some (5, true) } _ rfl rfl (by rfl) (fun wE hE => by (go_simp; try with_reducible rfl)) ?_ | refine wpS_pass (some 56) _ rfl rfl (by rfl) ?_); simp only [Act.put, List.setIfInBounds_toArray, List.set_cons_zero, List.set_cons_succ]
          (first | refine wpS_quiet (some 57) { dst := some 57, op := Op.nilCheck (Operand.tmp 56), type := _, pos := _, after := _, guard := some (5, true) } _ rfl rfl (by rfl) (fun wE hE => by (go_simp; try with_reducible rfl)) ?_ | refine wpS_pass (some 57) _ rfl rfl (by rfl) ?_); simp only [Act.put, List.setIfInBounds_toArray, List.set_cons_zero, List.set_cons_succ]
          (first | refine wpS_quiet (some 58) { dst := some 58, op := Op.fieldAddr 30 (Operand.tmp 57) 0, type := _, pos := _, after := _, guard := some (5, true) } _ rfl rfl (by rfl) (fun wE hE => by (go_simp; try with_reducible rfl)) ?_ | refine wpS_pass (some 58) _ rfl rfl (by rfl) ?_); simp only [Act.put, List.setIfInBounds_toArray, List.set_cons_zero, List.set_cons_succ]
          (first | refine wpS_quiet (some 59) { dst := some 59, op := Op.load 3 (Operand.tmp 58), type := _, pos := _, after := _, guard := some (5, true) } _ rfl rfl (by rfl) (fun wE hE => by (have zk0 := hE.cellS c0; have zk1 := hE.cellS c1; go_simp; try with_reducible rfl)) ?_ | refine wpS_pass (some 59) _ rfl rfl (by rfl) ?_); simp only [Act.put, List.setIfInBounds_toArray, List.set_cons_zero, List.set_cons_succ]
          (first | refine wpS_quiet (some 60) { dst := some 60, op := Op.binOp BinOp.gtr 3 (Operand.tmp 55) (Operand.tmp 59) 3, type := _, pos := _, after := _, guard := some (5, true) } _ rfl rfl (by rfl) (fun wE hE => by (go_simp; try with_reducible rfl)) ?_ | refine wpS_pass (some 60) _ rfl rfl (by rfl) ?_); simp only [Act.put, List.setIfInBounds_toArray, List.set_cons_zero, List.set_cons_succ]
          refine wpS_quiet (some 61) { dst := some 61, op := Op.pick (Operand.tmp 50) (Operand.tmp 60) (Operand.const (Value.bool false)), type := _, pos := _, after := _, guard := none } _ rfl rfl (by rfl) (fun wE hE => by (go_simp; try with_reducible rfl)) ?_; simp only [Act.put, List.setIfInBounds_toArray, List.set_cons_zero, List.set_cons_succ]
          change Exit.then _ _ _ _ _
          have HNEV := Lib.hid hnev
          clear hnev
          go_wp2_with fail
          go_meet
          have hnev := HNEV.out
          exact Lib.hid (DoMid.mk' SC5 ⟨KA5, OT.nil _ _⟩ ((d1h K1.out HND.out)) HKP5.out HEB5.out)
    · have K1 := Lib.hid k1
      have t1 : (o.kind == 1) = false := by simp [k1]
      have t2 : (o.kind == 2) = true := by simp [k1]
      clear hkd k1
      rcases HIX.out with ⟨rfl, hno⟩ | ⟨X, u, Y, rfl, hno, rfl⟩
      · have HNO := Lib.hid hno
        clear hno
        go_wp2_with fail
        go_meet
        exact Lib.hid (DoMid.mk' SC2.out AS2.out (d2m K1.out HNO.out) hkeep.out (ExtB.refl _ _))
      · have HNO := Lib.hid hno
        have hge : (0 : Int) ≤ (X.length : Int) := by omega
        have hXl : X.length ≤ 2000 := by simp at hln; omega
        have hlt : (X.length : Int) < ((X ++ (o.key, u) :: Y).length : Int) := by simp; omega
        have c1 := SC2.out.2.1.cell (o := 1) rfl
        rcases SC2.out.2.2.form with ⟨rfl, hnil⟩ | ⟨g, cap, rfl, _, hcp, _⟩
        · simp at hnil
        obtain ⟨_, _, hv, _, _, _, hrow⟩ := SC2.out.2.2.slice
        simp only [List.cons.injEq, Value.slice.injEq, and_true, true_and] at hv
        obtain ⟨rfl, rfl⟩ := hv
        obtain ⟨_, hc⟩ := flat_at hrow rfl (show (X ++ (o.key, u) :: Y)[X.length]? = some (o.key, u) by simp)
        have p0 := hc 0 _ rfl
        have p1 := hc 1 _ rfl
        simp only [Nat.add_zero, Nat.zero_add] at p0 p1
        obtain ⟨nn, hnn⟩ : ∃ nn, nn = (X ++ (o.key, u) :: Y).length := ⟨_, rfl⟩
        rw [← hnn] at c1 hlt
        have HN := Lib.hid hnn
        clear hno hrow hc hnn
        go_upto_region 13 with fail
        have E7 : Ext W2 (W2.alloc (.cells (prCells (o.key, u)).toArray 59)) := (Ext.refl _).alloc _
        have K7 := Blk.new W2 59 (prCells (o.key, u))
        change Code.wp _ _ _ _ (W2.alloc (.cells (prCells (o.key, u)).toArray 59))
        have hb7 := Nat.le_refl W2.heap.size
        generalize W2.alloc (.cells (prCells (o.key, u)).toArray 59) = W3 at E7 K7 ⊢
        generalize hbb : W2.heap.size = b7 at K7 hb7 ⊢
        have HBB := Lib.hid hbb
        clear hb7
        have hsc3 := SC2.out.ext E7
        rw [← HN.out] at hsc3
        have SC3 := Lib.hid hsc3
        have hka3 := KA2.out.ext E7
        have hal2 := KA2.out.lt
        have hcl2 := SC2.out.2.1.lt
        have h7a : b7 ≠ a := by omega
        have h7c : b7 ≠ c := by omega
        have k70 := K7.cell (o := 0) rfl
        have k71 := K7.cell (o := 1) rfl
        have a0 := hka3.cell (o := 0) rfl
        have fa0 := hka3.frozen 0
        have HKA3 := Lib.hid hka3
        have HK7 := Lib.hid K7
        have HE7 := Lib.hid E7
        have KAs := Lib.hid ((show Blk W3.drew a _ _ from hka3).setCell 0 (.bool true))
        have a1s := hka3.cell (o := 1) rfl
        have fa1s := hka3.frozen 1
        clear hbb hsc3 hka3 K7 E7 c1 p0 p1 o0 o1 o2
        refine wp_region_schedT (ops := ops_9_13) (ExtX (fun q => q = a)) [5] (.quiet 0 (.quiet 1 (.quiet 2 (.loud 3 (.quiet 4 (.last 5 (.done))) (.stop))))) (by kernel_rfl) (ExtX.refl (fun q => q = a)) (fun _ _ _ => ExtX.trans) (by kernel_rfl) (fun _ _ d _ _ h => by cases d <;> exact h) ?_
        refine wpS_quiet (some 81) { dst := some 81, op := Op.fieldAddr 59 (Operand.tmp 7) 1, type := _, pos := _, after := _, guard := none } _ rfl rfl (by rfl) (fun wE hE => by (go_simp; try with_reducible rfl)) ?_; simp only [Act.put, List.setIfInBounds_toArray, List.set_cons_zero, List.set_cons_succ]
        refine wpS_quiet (some 82) { dst := some 82, op := Op.load 3 (Operand.tmp 81), type := _, pos := _, after := _, guard := none } _ rfl rfl (by rfl) (fun wE hE => by (have zk0 := hE.cellS h7a k70; have zk1 := hE.cellS h7a k71; go_simp; try with_reducible rfl)) ?_; simp only [Act.put, List.setIfInBounds_toArray, List.set_cons_zero, List.set_cons_succ]
        refine wpS_quiet (some 83) { dst := some 83, op := Op.fieldAddr 36 (Operand.tmp 5) 0, type := _, pos := _, after := _, guard := none } _ rfl rfl (by rfl) (fun wE hE => by (go_simp; try with_reducible rfl)) ?_; simp only [Act.put, List.setIfInBounds_toArray, List.set_cons_zero, List.set_cons_succ]
        refine wpS_val none { dst := none, op := Op.store 4 (Operand.tmp 83) (Operand.const (Value.bool true)), type := _, pos := _, after := _, guard := none } undef (World.setCell W3.drew ⟨a, 0, none⟩ (.bool true)) rfl rfl (by rfl) (.inr ⟨rfl, by (go_simp; try rfl)⟩) (setC_X _ _ _ _ rfl) ?_ trivial
        simp only [Act.put, List.setIfInBounds_toArray, List.set_cons_zero, List.set_cons_succ]
        refine wpS_quiet (some 84) { dst := some 84, op := Op.fieldAddr 36 (Operand.tmp 5) 1, type := _, pos := _, after := _, guard := none } _ rfl rfl (by rfl) (fun wE hE => by (go_simp; try with_reducible rfl)) ?_; simp only [Act.put, List.setIfInBounds_toArray, List.set_cons_zero, List.set_cons_succ]
        refine wpS_last none { dst := none, op := Op.store 3 (Operand.tmp 84) (Operand.tmp 82), type := _, pos := _, after := _, guard := none } undef (World.setCell (World.setCell W3.drew ⟨a, 0, none⟩ (.bool true)) ⟨a, 1, none⟩ (.int .i64 u)) rfl rfl (by rfl) (.inr ⟨rfl, by (go_simp; try rfl)⟩) ?_
        simp only [Act.put]
        change Exit.then _ _ _ _ _
        have KA5 := KAs.out.setCell 1 (.int .i64 u)
        have X5 : ExtX (fun q => q = a) W3 (World.setCell (World.setCell W3.drew ⟨a, 0, none⟩ (.bool true)) ⟨a, 1, none⟩ (.int .i64 u)) := ((show ExtX (fun q => q = a) W3 W3.drew from ExtX.refl _ W3).trans (setC_E W3.drew a 0 (.bool true))).trans (setC_E _ a 1 (.int .i64 u))
        have nac := SC3.out.apart HKA3.out (by decide) (by decide)
        have hsc5 := SC3.out.keep X5 (fun e => nac.1 e.symm) (fun q hq e => nac.2 (e ▸ hq))
        have hk75 := HK7.out.extX X5 h7a
        have hs5 : S ≤ (World.setCell (World.setCell W3.drew ⟨a, 0, none⟩ (.bool true)) ⟨a, 1, none⟩ (.int .i64 u)).heap.size := Nat.le_trans hsz2 (Nat.le_trans HE7.out.size X5.size)
        have hkp5 : ∀ b T cs, Blk W2 b T cs → b ≠ c → b ≠ a → T ≠ 59 → Blk (World.setCell (World.setCell W3.drew ⟨a, 0, none⟩ (.bool true)) ⟨a, 1, none⟩ (.int .i64 u)) b T cs := fun b T cs hb hc ha hT => (hb.ext HE7.out).extX X5 ha
        have heb5 : ExtB S W2 (World.setCell (World.setCell W3.drew ⟨a, 0, none⟩ (.bool true)) ⟨a, 1, none⟩ (.int .i64 u)) := (HE7.out.toB hsz2).trans (X5.toB (fun q h => h ▸ hSa.1) (Nat.le_trans hsz2 HE7.out.size))
        change Exit.then _ _ _ _ (World.setCell (World.setCell W3.drew ⟨a, 0, none⟩ (.bool true)) ⟨a, 1, none⟩ (.int .i64 u))
        generalize World.setCell (World.setCell W3.drew ⟨a, 0, none⟩ (.bool true)) ⟨a, 1, none⟩ (.int .i64 u) = w5 at KA5 hsc5 hk75 hs5 hkp5 heb5 ⊢
        have HKA5 := Lib.hid KA5
        have SC5 := Lib.hid hsc5
        have HKP5 := Lib.hid hkp5
        have HEB5 := Lib.hid heb5
        have h7l := hk75.lt
        have hcl5 := hsc5.2.1.lt
        have hal5 := KA5.lt
        have hnn2 : (X ++ (o.key, u) :: Y).length ≤ 2000 := by omega
        have HNN2 := Lib.hid hnn2
        have q0 := hk75.cell (o := 0) rfl
        have q1 := hk75.cell (o := 1) rfl
        have c1 := hsc5.2.1.cell (o := 1) rfl
        clear KA5 hsc5 hk75 hkp5 heb5 X5 nac a0 fa0 a1s fa1s k70 k71 hnn2 hlt hln
        have K1h := K1
        have nac5 := SC5.out.apart HKA5.out (by decide) (by decide)
        clear K1
        go_upto_region 14 with fail
        have XX : ExtX (fun q => w5.heap.size ≤ q) w5 w5.drew := ExtX.refl _ w5
        have hs : w5.heap.size ≤ w5.drew.heap.size := Nat.le_refl _
        refine wp_region_schedT (ops := ops_9_14) (ExtB w5.heap.size) [12, 15] (.pure 0 (.quiet 1 (.quiet 3 (.quiet 4 (.quiet 5 (.quiet 6 (.quiet 8 (.quiet 9 (.quiet 10 (.loud 2 (.loud 7 (.loud 11 (.last 12 (.pure 13 (.pure 14 (.last 15 (.done))))) (.stop)) (.stop)) (.loud 7 (.loud 2 (.loud 11 (.last 12 (.pure 13 (.pure 14 (.last 15 (.done))))) (.stop)) (.loud 11 (.loud 2 (.last 12 (.pure 13 (.pure 14 (.last 15 (.done))))) (.stop)) (.stop))) (.stop)))))))))))) (by kernel_rfl) (extB_refl w5.heap.size) (extB_trans w5.heap.size) (by kernel_rfl) (fun _ _ d _ _ h => by cases d <;> exact h) ?_
        refine wpS_pure (some 85) { dst := some 85, op := Op.move (Operand.tmp 0), type := _, pos := _, after := _, guard := none } _ rfl rfl (by rfl) (fun wE => by (go_simp; try with_reducible rfl)) ?_; simp only [Act.put, List.setIfInBounds_toArray, List.set_cons_zero, List.set_cons_succ]
        refine wpS_quiet (some 86) { dst := some 86, op := Op.load 59 (Operand.tmp 7), type := _, pos := _, after := _, guard := none } _ rfl rfl (by rfl) (fun wE hE => by (have zk0 := hE.cellS (by first | exact h7l | exact hcl5) q0; have zk1 := hE.cellS (by first | exact h7l | exact hcl5) q1; have zk2 := hE.cellS (by first | exact h7l | exact hcl5) c1; go_simp; try with_reducible rfl)) ?_; simp only [Act.put, List.setIfInBounds_toArray, List.set_cons_zero, List.set_cons_succ]
        refine wpS_quiet (some 88) { dst := some 88, op := Op.move (Operand.tmp 0), type := _, pos := _, after := _, guard := none } _ rfl rfl (by rfl) (fun wE hE => by (go_simp; try with_reducible rfl)) ?_; simp only [Act.put, List.setIfInBounds_toArray, List.set_cons_zero, List.set_cons_succ]
        refine wpS_quiet (some 89) { dst := some 89, op := Op.nilCheck (Operand.tmp 88), type := _, pos := _, after := _, guard := none } _ rfl rfl (by rfl) (fun wE hE => by (go_simp; try with_reducible rfl)) ?_; simp only [Act.put, List.setIfInBounds_toArray, List.set_cons_zero, List.set_cons_succ]
        refine wpS_quiet (some 90) { dst := some 90, op := Op.fieldAddr 30 (Operand.tmp 89) 1, type := _, pos := _, after := _, guard := none } _ rfl rfl (by rfl) (fun wE hE => by (go_simp; try with_reducible rfl)) ?_; simp only [Act.put, List.setIfInBounds_toArray, List.set_cons_zero, List.set_cons_succ]
        refine wpS_quiet (some 91) { dst := some 91, op := Op.load 28 (Operand.tmp 90), type := _, pos := _, after := _, guard := none } _ rfl rfl (by rfl) (fun wE hE => by (have zk0 := hE.cellS (by first | exact h7l | exact hcl5) q0; have zk1 := hE.cellS (by first | exact h7l | exact hcl5) q1; have zk2 := hE.cellS (by first | exact h7l | exact hcl5) c1; go_simp; try with_reducible rfl)) ?_; simp only [Act.put, List.setIfInBounds_toArray, List.set_cons_zero, List.set_cons_succ]
        refine wpS_quiet (some 93) { dst := some 93, op := Op.move (Operand.tmp 6), type := _, pos := _, after := _, guard := none } _ rfl rfl (by rfl) (fun wE hE => by (go_simp; try with_reducible rfl)) ?_; simp only [Act.put, List.setIfInBounds_toArray, List.set_cons_zero, List.set_cons_succ]
        refine wpS_quiet (some 94) { dst := some 94, op := Op.move (Operand.tmp 6), type := _, pos := _, after := _, guard := none } _ rfl rfl (by rfl) (fun wE hE => by (go_simp; try with_reducible rfl)) ?_; simp only [Act.put, List.setIfInBounds_toArray, List.set_cons_zero, List.set_cons_succ]
        refine wpS_quiet (some 95) { dst := some 95, op := Op.binOp BinOp.add 3 (Operand.tmp 94) (Operand.const (Value.int IntKind.i64 1)) 3, type := _, pos := _, after := _, guard := none } _ rfl rfl (by rfl) (fun wE hE => by (go_simp; try with_reducible rfl)) ?_; simp only [Act.put, List.setIfInBounds_toArray, List.set_cons_zero, List.set_cons_succ]
        clear q0 q1 c1
        refine wpS_make (some 87) { dst := some 87, op := Op.buildSlice 28 1 #[(0, Operand.tmp 86)], type := _, pos := _, after := _, guard := none } rfl rfl (by rfl) 59 (prCells (o.key, u)) 1 (by go_simp; try rfl) (fun w' h => h.toB hs) ?_ ?_
        rotate_right
        · skip
          refine wpS_callm (some 92) { dst := some 92, op := Op.call { callee := Callee.value (Operand.func 26), args := #[Operand.tmp 91], argTypes := #[28] }, type := _, pos := _, after := _, guard := none } 26 _ rfl rfl (by rfl) (by go_simp; try with_reducible rfl) ?_ trivial
          have HOC := own_keep SC5.out.2.2 XX (fun q hq h => by (obtain ⟨cq, kq⟩ := SC5.out.2.2.blk hq.symm; have := kq.lt; omega))
          refine (cloneEn_any _ _ _ w5.drew HOC HNN2.out (by simp)).mono ?_
          rintro e w2 ⟨v2, rfl, P2, e2⟩
          refine ⟨_, rfl, e2.toB hs, ?_⟩
          obtain ⟨A2, n2, cap2, rfl⟩ := own_shape P2
          (have gp2 : ∀ q, some q = Value.ownBlock (.slice A2 n2 cap2) → w5.heap.size ≤ q := fun q hq => Nat.le_trans hs (P2.own q hq.symm).1)
          (try have na : ∀ q, some q = Value.ownBlock (.slice A2 n2 cap2) → q ≠ b1 := fun q hq h => by (have h1 := (P2.own q hq.symm).1; have := K1.lt; omega))
          (try replace K1 := K1.ext e2)
          replace P2 := OwnP.lower P2 (Nat.zero_le _) (fun q hq => Nat.le_trans hs5 (Nat.le_trans hs hq))
          replace XX := XX.trans (e2.toX _)
          replace hs := Nat.le_trans hs e2.size
          clear e2 HOC
          simp only [Act.put, List.setIfInBounds_toArray, List.set_cons_zero, List.set_cons_succ]
          refine wpS_make (some 87) { dst := some 87, op := Op.buildSlice 28 1 #[(0, Operand.tmp 86)], type := _, pos := _, after := _, guard := none } rfl rfl (by rfl) 59 (prCells (o.key, u)) 1 (by go_simp; try rfl) (fun w' h => h.toB hs) ?_ ?_
          rotate_right
          · skip
            refine wpS_callm (some 96) { dst := some 96, op := Op.call { callee := Callee.value (Operand.func 25), args := #[Operand.tmp 92, Operand.tmp 93, Operand.tmp 95], argTypes := #[28, 3, 3] }, type := _, pos := _, after := _, guard := none } 25 _ rfl rfl (by rfl) (by go_simp; try with_reducible rfl) ?_ trivial
            have hd := delEn_any _ _ _ X Y (o.key, u) w2 P2 HNN2.out
            rw [show (((X.length + 1 : Nat)) : Int) = IntKind.i64.wrap ((X.length : Int) + 1) from by (rw [IntKind.wrap_i64]; omega)] at hd
            with_reducible (refine hd.mono ?_)
            rintro e w3 ⟨v3, rfl, P3, hv3, x3⟩
            refine ⟨_, rfl, x3.toB (fun q h => gp2 q h) hs, ?_⟩
            obtain ⟨A3, n3, cap3, rfl⟩ := own_shape P3
            (try replace K1 := K1.extX x3 (fun h => na _ h rfl))
            replace XX := XX.trans (x3.mono fun q _ h => gp2 q h)
            replace hs := Nat.le_trans hs x3.size
            clear hd x3 P2
            simp only [Act.put, List.setIfInBounds_toArray, List.set_cons_zero, List.set_cons_succ]
            refine wpS_make (some 87) { dst := some 87, op := Op.buildSlice 28 1 #[(0, Operand.tmp 86)], type := _, pos := _, after := _, guard := none } rfl rfl (by rfl) 59 (prCells (o.key, u)) 1 (by go_simp; try rfl) (fun w' h => h.toB hs) ?_ trivial
            intro b1 w1 hb1 e1 K1
            (have gb1 : w5.heap.size ≤ b1 := by rw [hb1]; exact hs)
            (try have na : ∀ q, some q = Value.ownBlock (.slice A2 n2 cap2) → q ≠ b1 := fun q hq h => by (obtain ⟨cq, kq⟩ := P2.blk hq.symm; have := kq.lt; omega))
            (try have na : ∀ q, some q = Value.ownBlock (.slice A2 n2 cap2) → q ≠ b1 := fun q hq h => by (obtain ⟨cq, kq⟩ := P3.blk (hv3.trans hq.symm); have := kq.lt; omega))
            (try replace P2 := P2.ext e1)
            (try replace P3 := P3.ext e1)
            replace XX := XX.trans (e1.toX _)
            replace hs := Nat.le_trans hs e1.size
            clear hb1 e1
            simp only [Act.put, List.setIfInBounds_toArray, List.set_cons_zero, List.set_cons_succ]
            refine wpS_lastE (some 97) { dst := some 97, op := Op.call { callee := Callee.builtin Builtin.append, args := #[Operand.tmp 87, Operand.tmp 96], argTypes := #[28, 28] }, type := _, pos := _, after := _, guard := none } rfl rfl (by rfl)  ?_
            obtain ⟨A4, n4, cp4, w4, hn4, r4, own4, x4⟩ := cons_app K1 (Nat.le_trans hs5 gb1) P3 (fun he => na b1 (by rw [he, hv3]) rfl) (Nat.le_trans hs5 hs) (by simp at hXl ⊢; have := HNN2.out; simp at this; omega)
            refine ⟨_, w4, exec_app (.tmp 87) (.tmp 96) 28 rfl rfl rfl r4, ?_⟩
            replace XX := XX.trans (x4.mono fun q _ h => h ▸ gb1)
            replace hs := Nat.le_trans hs x4.size
            clear r4 x4
            simp only [Act.put, List.setIfInBounds_toArray, List.set_cons_zero, List.set_cons_succ]
            refine wpS_pure (some 98) { dst := some 98, op := Op.nilCheck (Operand.tmp 85), type := _, pos := _, after := _, guard := none } _ rfl rfl (by rfl) (fun wE => by (go_simp; try with_reducible rfl)) ?_; simp only [Act.put, List.setIfInBounds_toArray, List.set_cons_zero, List.set_cons_succ]
            refine wpS_pure (some 99) { dst := some 99, op := Op.fieldAddr 30 (Operand.tmp 98) 1, type := _, pos := _, after := _, guard := none } _ rfl rfl (by rfl) (fun wE => by (go_simp; try with_reducible rfl)) ?_; simp only [Act.put, List.setIfInBounds_toArray, List.set_cons_zero, List.set_cons_succ]
            refine wpS_lastS none { dst := none, op := Op.store 28 (Operand.tmp 99) (Operand.tmp 97), type := _, pos := _, after := _, guard := none } rfl rfl (by rfl) (World.setCell w4 ⟨c, 1, none⟩ (.slice A4 n4 cp4)) (by (have KC := SC5.out.2.1.extX XX (by omega); have c2 := KC.cell (o := 1) rfl; have f2 := KC.frozen 1; go_simp; try rfl)) ?_
            (have KC6 := (SC5.out.2.1.extX XX (by omega)).setCell 1 (.slice A4 n4 cp4))
            have XS := setC_E w4 c 1 (.slice A4 n4 cp4)
            (have own6 := own_keep own4 XS (fun q hq e => by (obtain ⟨cs', hb'⟩ := own4.blk hq.symm; rw [show q = c from e] at hb'; exact absurd (hb'.inj (SC5.out.2.1.extX XX (by omega))) (by decide))))
            (have X6 : ExtX (fun q => q = c ∨ w5.heap.size ≤ q) w5 (World.setCell w4 ⟨c, 1, none⟩ (.slice A4 n4 cp4)) := (XX.mono fun q _ h => .inr h).trans (XS.mono fun q _ h => .inl h))
            generalize World.setCell w4 ⟨c, 1, none⟩ (.slice A4 n4 cp4) = w6 at KC6 own6 X6 ⊢
            simp only [Act.put, List.setIfInBounds_toArray, List.set_cons_zero, List.set_cons_succ]
            change Exit.inBlock _ _ _ _ _
            go_wp2_with fail
            go_meet
            refine Lib.hid (DoMid.mk' ⟨SC5.out.1, KC6, own6⟩ ⟨HKA5.out.extX X6 (fun h => h.elim (fun h => ?_) (fun h => by omega)), OT.nil _ _⟩ (d2h K1h.out HND.out) (fun b T cs hb hc ha hT => (HKP5.out b T cs hb hc ha hT).extX X6 (fun h => h.elim hc (fun h => by have := (HKP5.out b T cs hb hc ha hT).lt; omega))) (HEB5.out.trans (X6.toB (fun q h => h.elim (fun h => h ▸ SC5.out.1) (fun h => Nat.le_trans hs5 h)) hs5)))
            exact nac5.1 h
          intro b1 w1 hb1 e1 K1
          (have gb1 : w5.heap.size ≤ b1 := by rw [hb1]; exact hs)
          (try have na : ∀ q, some q = Value.ownBlock (.slice A2 n2 cap2) → q ≠ b1 := fun q hq h => by (obtain ⟨cq, kq⟩ := P2.blk hq.symm; have := kq.lt; omega))
          (try have na : ∀ q, some q = Value.ownBlock (.slice A2 n2 cap2) → q ≠ b1 := fun q hq h => by (obtain ⟨cq, kq⟩ := P3.blk (hv3.trans hq.symm); have := kq.lt; omega))
          (try replace P2 := P2.ext e1)
          (try replace P3 := P3.ext e1)
          replace XX := XX.trans (e1.toX _)
          replace hs := Nat.le_trans hs e1.size
          clear hb1 e1
          simp only [Act.put, List.setIfInBounds_toArray, List.set_cons_zero, List.set_cons_succ]
          refine wpS_callm (some 96) { dst := some 96, op := Op.call { callee := Callee.value (Operand.func 25), args := #[Operand.tmp 92, Operand.tmp 93, Operand.tmp 95], argTypes := #[28, 3, 3] }, type := _, pos := _, after := _, guard := none } 25 _ rfl rfl (by rfl) (by go_simp; try with_reducible rfl) ?_ trivial
          have hd := delEn_any _ _ _ X Y (o.key, u) w1 P2 HNN2.out
          rw [show (((X.length + 1 : Nat)) : Int) = IntKind.i64.wrap ((X.length : Int) + 1) from by (rw [IntKind.wrap_i64]; omega)] at hd
          with_reducible (refine hd.mono ?_)
          rintro e w3 ⟨v3, rfl, P3, hv3, x3⟩
          refine ⟨_, rfl, x3.toB (fun q h => gp2 q h) hs, ?_⟩
          obtain ⟨A3, n3, cap3, rfl⟩ := own_shape P3
          (try replace K1 := K1.extX x3 (fun h => na _ h rfl))
          replace XX := XX.trans (x3.mono fun q _ h => gp2 q h)
          replace hs := Nat.le_trans hs x3.size
          clear hd x3 P2
          simp only [Act.put, List.setIfInBounds_toArray, List.set_cons_zero, List.set_cons_succ]
          refine wpS_lastE (some 97) { dst := some 97, op := Op.call { callee := Callee.builtin Builtin.append, args := #[Operand.tmp 87, Operand.tmp 96], argTypes := #[28, 28] }, type := _, pos := _, after := _, guard := none } rfl rfl (by rfl)  ?_
          obtain ⟨A4, n4, cp4, w4, hn4, r4, own4, x4⟩ := cons_app K1 (Nat.le_trans hs5 gb1) P3 (fun he => na b1 (by rw [he, hv3]) rfl) (Nat.le_trans hs5 hs) (by simp at hXl ⊢; have := HNN2.out; simp at this; omega)
          refine ⟨_, w4, exec_app (.tmp 87) (.tmp 96) 28 rfl rfl rfl r4, ?_⟩
          replace XX := XX.trans (x4.mono fun q _ h => h ▸ gb1)
          replace hs := Nat.le_trans hs x4.size
          clear r4 x4
          simp only [Act.put, List.setIfInBounds_toArray, List.set_cons_zero, List.set_cons_succ]
          refine wpS_pure (some 98) { dst := some 98, op := Op.nilCheck (Operand.tmp 85), type := _, pos := _, after := _, guard := none } _ rfl rfl (by rfl) (fun wE => by (go_simp; try with_reducible rfl)) ?_; simp only [Act.put, List.setIfInBounds_toArray, List.set_cons_zero, List.set_cons_succ]
          refine wpS_pure (some 99) { dst := some 99, op := Op.fieldAddr 30 (Operand.tmp 98) 1, type := _, pos := _, after := _, guard := none } _ rfl rfl (by rfl) (fun wE => by (go_simp; try with_reducible rfl)) ?_; simp only [Act.put, List.setIfInBounds_toArray, List.set_cons_zero, List.set_cons_succ]
          refine wpS_lastS none { dst := none, op := Op.store 28 (Operand.tmp 99) (Operand.tmp 97), type := _, pos := _, after := _, guard := none } rfl rfl (by rfl) (World.setCell w4 ⟨c, 1, none⟩ (.slice A4 n4 cp4)) (by (have KC := SC5.out.2.1.extX XX (by omega); have c2 := KC.cell (o := 1) rfl; have f2 := KC.frozen 1; go_simp; try rfl)) ?_
          (have KC6 := (SC5.out.2.1.extX XX (by omega)).setCell 1 (.slice A4 n4 cp4))
          have XS := setC_E w4 c 1 (.slice A4 n4 cp4)
          (have own6 := own_keep own4 XS (fun q hq e => by (obtain ⟨cs', hb'⟩ := own4.blk hq.symm; rw [show q = c from e] at hb'; exact absurd (hb'.inj (SC5.out.2.1.extX XX (by omega))) (by decide))))
          (have X6 : ExtX (fun q => q = c ∨ w5.heap.size ≤ q) w5 (World.setCell w4 ⟨c, 1, none⟩ (.slice A4 n4 cp4)) := (XX.mono fun q _ h => .inr h).trans (XS.mono fun q _ h => .inl h))
          generalize World.setCell w4 ⟨c, 1, none⟩ (.slice A4 n4 cp4) = w6 at KC6 own6 X6 ⊢
          simp only [Act.put, List.setIfInBounds_toArray, List.set_cons_zero, List.set_cons_succ]
          change Exit.inBlock _ _ _ _ _
          go_wp2_with fail
          go_meet
          refine Lib.hid (DoMid.mk' ⟨SC5.out.1, KC6, own6⟩ ⟨HKA5.out.extX X6 (fun h => h.elim (fun h => ?_) (fun h => by omega)), OT.nil _ _⟩ (d2h K1h.out HND.out) (fun b T cs hb hc ha hT => (HKP5.out b T cs hb hc ha hT).extX X6 (fun h => h.elim hc (fun h => by have := (HKP5.out b T cs hb hc ha hT).lt; omega))) (HEB5.out.trans (X6.toB (fun q h => h.elim (fun h => h ▸ SC5.out.1) (fun h => Nat.le_trans hs5 h)) hs5)))
          exact nac5.1 h
        intro b1 w1 hb1 e1 K1
        (have gb1 : w5.heap.size ≤ b1 := by rw [hb1]; exact hs)
        (try have na : ∀ q, some q = Value.ownBlock (.slice A2 n2 cap2) → q ≠ b1 := fun q hq h => by (obtain ⟨cq, kq⟩ := P2.blk hq.symm; have := kq.lt; omega))
        (try have na : ∀ q, some q = Value.ownBlock (.slice A2 n2 cap2) → q ≠ b1 := fun q hq h => by (obtain ⟨cq, kq⟩ := P3.blk (hv3.trans hq.symm); have := kq.lt; omega))
        (try replace P2 := P2.ext e1)
        (try replace P3 := P3.ext e1)
        replace XX := XX.trans (e1.toX _)
        replace hs := Nat.le_trans hs e1.size
        clear hb1 e1
        simp only [Act.put, List.setIfInBounds_toArray, List.set_cons_zero, List.set_cons_succ]
        refine wpS_callm (some 92) { dst := some 92, op := Op.call { callee := Callee.value (Operand.func 26), args := #[Operand.tmp 91], argTypes := #[28] }, type := _, pos := _, after := _, guard := none } 26 _ rfl rfl (by rfl) (by go_simp; try with_reducible rfl) ?_ trivial
        have HOC := own_keep SC5.out.2.2 XX (fun q hq h => by (obtain ⟨cq, kq⟩ := SC5.out.2.2.blk hq.symm; have := kq.lt; omega))
        refine (cloneEn_any _ _ _ w1 HOC HNN2.out (by simp)).mono ?_
        rintro e w2 ⟨v2, rfl, P2, e2⟩
        refine ⟨_, rfl, e2.toB hs, ?_⟩
        obtain ⟨A2, n2, cap2, rfl⟩ := own_shape P2
        (have gp2 : ∀ q, some q = Value.ownBlock (.slice A2 n2 cap2) → w5.heap.size ≤ q := fun q hq => Nat.le_trans hs (P2.own q hq.symm).1)
        (try have na : ∀ q, some q = Value.ownBlock (.slice A2 n2 cap2) → q ≠ b1 := fun q hq h => by (have h1 := (P2.own q hq.symm).1; have := K1.lt; omega))
        (try replace K1 := K1.ext e2)
        replace P2 := OwnP.lower P2 (Nat.zero_le _) (fun q hq => Nat.le_trans hs5 (Nat.le_trans hs hq))
        replace XX := XX.trans (e2.toX _)
        replace hs := Nat.le_trans hs e2.size
        clear e2 HOC
        simp only [Act.put, List.setIfInBounds_toArray, List.set_cons_zero, List.set_cons_succ]
        refine wpS_callm (some 96) { dst := some 96, op := Op.call { callee := Callee.value (Operand.func 25), args := #[Operand.tmp 92, Operand.tmp 93, Operand.tmp 95], argTypes := #[28, 3, 3] }, type := _, pos := _, after := _, guard := none } 25 _ rfl rfl (by rfl) (by go_simp; try with_reducible rfl) ?_ trivial
        have hd := delEn_any _ _ _ X Y (o.key, u) w2 P2 HNN2.out
        rw [show (((X.length + 1 : Nat)) : Int) = IntKind.i64.wrap ((X.length : Int) + 1) from by (rw [IntKind.wrap_i64]; omega)] at hd
        with_reducible (refine hd.mono ?_)
        rintro e w3 ⟨v3, rfl, P3, hv3, x3⟩
        refine ⟨_, rfl, x3.toB (fun q h => gp2 q h) hs, ?_⟩
        obtain ⟨A3, n3, cap3, rfl⟩ := own_shape P3
        (try replace K1 := K1.extX x3 (fun h => na _ h rfl))
        replace XX := XX.trans (x3.mono fun q _ h => gp2 q h)
        replace hs := Nat.le_trans hs x3.size
        clear hd x3 P2
        simp only [Act.put, List.setIfInBounds_toArray, List.set_cons_zero, List.set_cons_succ]
        refine wpS_lastE (some 97) { dst := some 97, op := Op.call { callee := Callee.builtin Builtin.append, args := #[Operand.tmp 87, Operand.tmp 96], argTypes := #[28, 28] }, type := _, pos := _, after := _, guard := none } rfl rfl (by rfl)  ?_
        obtain ⟨A4, n4, cp4, w4, hn4, r4, own4, x4⟩ := cons_app K1 (Nat.le_trans hs5 gb1) P3 (fun he => na b1 (by rw [he, hv3]) rfl) (Nat.le_trans hs5 hs) (by simp at hXl ⊢; have := HNN2.out; simp at this; omega)
        refine ⟨_, w4, exec_app (.tmp 87) (.tmp 96) 28 rfl rfl rfl r4, ?_⟩
        replace XX := XX.trans (x4.mono fun q _ h => h ▸ gb1)
        replace hs := Nat.le_trans hs x4.size
        clear r4 x4
        simp only [Act.put, List.setIfInBounds_toArray, List.set_cons_zero, List.set_cons_succ]
        refine wpS_pure (some 98) { dst := some 98, op := Op.nilCheck (Operand.tmp 85), type := _, pos := _, after := _, guard := none } _ rfl rfl (by rfl) (fun wE => by (go_simp; try with_reducible rfl)) ?_; simp only [Act.put, List.setIfInBounds_toArray, List.set_cons_zero, List.set_cons_succ]
        refine wpS_pure (some 99) { dst := some 99, op := Op.fieldAddr 30 (Operand.tmp 98) 1, type := _, pos := _, after := _, guard := none } _ rfl rfl (by rfl) (fun wE => by (go_simp; try with_reducible rfl)) ?_; simp only [Act.put, List.setIfInBounds_toArray, List.set_cons_zero, List.set_cons_succ]
        refine wpS_lastS none { dst := none, op := Op.store 28 (Operand.tmp 99) (Operand.tmp 97), type := _, pos := _, after := _, guard := none } rfl rfl (by rfl) (World.setCell w4 ⟨c, 1, none⟩ (.slice A4 n4 cp4)) (by (have KC := SC5.out.2.1.extX XX (by omega); have c2 := KC.cell (o := 1) rfl; have f2 := KC.frozen 1; go_simp; try rfl)) ?_
        (have KC6 := (SC5.out.2.1.extX XX (by omega)).setCell 1 (.slice A4 n4 cp4))
        have XS := setC_E w4 c 1 (.slice A4 n4 cp4)
        (have own6 := own_keep own4 XS (fun q hq e => by (obtain ⟨cs', hb'⟩ := own4.blk hq.symm; rw [show q = c from e] at hb'; exact absurd (hb'.inj (SC5.out.2.1.extX XX (by omega))) (by decide))))
        (have X6 : ExtX (fun q => q = c ∨ w5.heap.size ≤ q) w5 (World.setCell w4 ⟨c, 1, none⟩ (.slice A4 n4 cp4)) := (XX.mono fun q _ h => .inr h).trans (XS.mono fun q _ h => .inl h))
        generalize World.setCell w4 ⟨c, 1, none⟩ (.slice A4 n4 cp4) = w6 at KC6 own6 X6 ⊢
        simp only [Act.put, List.setIfInBounds_toArray, List.set_cons_zero, List.set_cons_succ]
        change Exit.inBlock _ _ _ _ _
        go_wp2_with fail
        go_meet
        refine Lib.hid (DoMid.mk' ⟨SC5.out.1, KC6, own6⟩ ⟨HKA5.out.extX X6 (fun h => h.elim (fun h => ?_) (fun h => by omega)), OT.nil _ _⟩ (d2h K1h.out HND.out) (fun b T cs hb hc ha hT => (HKP5.out b T cs hb hc ha hT).extX X6 (fun h => h.elim hc (fun h => by have := (HKP5.out b T cs hb hc ha hT).lt; omega))) (HEB5.out.trans (X6.toB (fun q h => h.elim (fun h => h ▸ SC5.out.1) (fun h => Nat.le_trans hs5 h)) hs5)))
        exact nac5.1 h
    · have K1 := Lib.hid k1
      have t1 : (o.kind == 1) = false := by simp [k1]
      have t2 : (o.kind == 2) = false := by simp [k1]
      have t3 : (o.kind == 3) = true := by simp [k1]
      clear hkd k1
      rcases HIX.out with ⟨rfl, hno⟩ | ⟨X, u, Y, rfl, hno, rfl⟩
      · have HNO := Lib.hid hno
        clear hno
        go_wp2_with fail
        go_meet
        exact Lib.hid (DoMid.mk' SC2.out AS2.out (d3m K1.out HNO.out) hkeep.out (ExtB.refl _ _))
      · have HNO := Lib.hid hno
        have hge : (0 : Int) ≤ (X.length : Int) := by omega
        clear hno
        go_wp2_with fail
        refine (out_any S W2.heap.size c a size 0 v _ _ false [] X Y (o.key, u) W2 SC2.out AS2.out (by omega) (by simp) hsz2 (Nat.le_refl _)).mono ?_
        rintro e w3 ⟨rfl, h3⟩
        have H3 := Lib.hid h3
        clear h3
        go_wp2_with fail
        go_meet
        exact Lib.hid (DoMid.of H3.out (d3h K1.out HND.out) (Nat.le_refl _) SC2.out.1 hSa.1 hsz2)
    · have K1 := Lib.hid k1
      have t1 : (o.kind == 1) = false := by simp [k1]
      have t2 : (o.kind == 2) = false := by simp [k1]
      have t3 : (o.kind == 3) = false := by simp [k1]
      have t4 : (o.kind == 4) = true := by simp [k1]
      clear hkd k1
      have c1 := SC2.out.2.1.cell (o := 1) rfl
      obtain ⟨A, cp, rfl, _⟩ := SC2.out.2.2.shape
      rcases List.eq_nil_or_concat L with rfl | ⟨X, p, rfl⟩
      · go_wp2_with fail
        go_meet
        exact Lib.hid (DoMid.mk' SC2.out AS2.out (d4 K1.out) hkeep.out (ExtB.refl _ _))
      · rw [List.concat_eq_append] at *
        have hll : (X ++ [p]).length = X.length + 1 := by simp
        rw [hll] at c1
        have hge : (0 : Int) < ((X.length + 1 : Nat) : Int) := by omega
        have hxl : X.length ≤ 402 := by omega
        have HLL := Lib.hid hll
        have HO := Lib.hid (out_any S W2.heap.size c a size 0 _ _ _ false [] X [] p W2 SC2.out AS2.out (by omega) (by simp) hsz2 (Nat.le_refl _))
        clear hll hln
        go_wp2_with fail
        refine HO.out.mono ?_
        rintro e w3 ⟨rfl, h3⟩
        have H3 := Lib.hid h3
        clear h3
        go_wp2_with fail
        go_meet
        exact Lib.hid (DoMid.of H3.out (by rw [d4 K1.out]; simp) (Nat.le_refl _) SC2.out.1 hSa.1 hsz2)
    · have K1 := Lib.hid k1
      have t1 : (o.kind == 1) = false := by simp [k1]
      have t2 : (o.kind == 2) = false := by simp [k1]
      have t3 : (o.kind == 3) = false := by simp [k1]
      have t4 : (o.kind == 4) = false := by simp [k1]
      have t5 : (o.kind == 5) = true := by simp [k1]
      clear hkd k1
      have c1 := SC2.out.2.1.cell (o := 1) rfl
      have a1 := KA2.out.cell (o := 1) rfl
      have fa1 := KA2.out.frozen 1
      obtain ⟨A, cp, rfl, _⟩ := SC2.out.2.2.shape
      go_wp2_with fail
      go_meet
      have XS := setC_E W2 a 1 (.int .i64 L.length)
      have na := SC2.out.apart KA2.out (by decide) (by decide)
      exact Lib.hid (DoMid.mk' (SC2.out.keep XS (fun e => na.1 e.symm) (fun q hq e => na.2 (e ▸ hq))) ⟨KA2.out.setCell 1 (.int .i64 L.length), OT.nil _ _⟩ (d5 K1.out) (fun b T cs hb _ ha _ => hb.extX XS ha) (XS.toB (fun q h => h ▸ hSa.1) hsz2))
    · have K1 := Lib.hid k1
      have t1 : (o.kind == 1) = false := by simp [k1]
      have t2 : (o.kind == 2) = false := by simp [k1]
      have t3 : (o.kind == 3) = false := by simp [k1]
      have t4 : (o.kind == 4) = false := by simp [k1]
      have t5 : (o.kind == 5) = false := by simp [k1]
      have t6 : (o.kind == 6) = true := by simp [k1]
      clear hkd k1
      have c1 := SC2.out.2.1.cell (o := 1) rfl
      have HSo := Lib.hid (sortEn_any _ v L W2 SC2.out.2.2 (by omega) HND.out hb.out)
      obtain ⟨A, cp, hvv, _⟩ := SC2.out.2.2.shape
      subst hvv
      go_wp2_with fail
      refine HSo.out.mono ?_
      rintro e w3 ⟨rfl, o3, x3⟩
      have ns := SC2.out.apart KA2.out (by decide) (by decide)
      have hoc : ∀ q, some q = Value.ownBlock (.slice A L.length cp) → q ≠ c := fun q hq e => by
        obtain ⟨cs', hb'⟩ := SC2.out.2.2.blk hq.symm
        rw [e] at hb'
        exact absurd (hb'.inj SC2.out.2.1) (by decide)
      have K3 := SC2.out.2.1.extX x3 (fun h => hoc c h rfl)
      have hst : OutAns S W2.heap.size c a size 0 false ((sortP L).drop 0) ((sortP L).take 0) w3 w3 := ⟨_, _, _, ⟨SC2.out.1, K3, o3⟩, ⟨KA2.out.extX x3 ns.2, OT.nil _ _⟩, ExtX.refl _ _⟩
      have HST := Lib.hid hst
      have X3 := Lib.hid x3
      have hsl : (sortP L).length ≤ 402 := by rw [len_sort]; exact hln
      have hs3 : S ≤ w3.heap.size := Nat.le_trans hsz2 x3.size
      have hb3 : W2.heap.size ≤ w3.heap.size := x3.size
      clear hst o3 x3 K3 c1 o0 o1 o2 hoc
      go_wp2_with fail
      go_loopg [] (sortP L).length (fun gg wx => ∃ k, (sortP L).length - k ≤ gg ∧ k ≤ (sortP L).length ∧ Hid (OutAns S W2.heap.size c a size 0 false ((sortP L).drop k) ((sortP L).take k) w3 wx))
      case atStart => exact ⟨0, Nat.le_refl _, Nat.zero_le _, HST⟩
      case round =>
        obtain ⟨k, hgg, hk, hO⟩ := hrel
        obtain ⟨v', vO, vV, sc, as2, xo⟩ := hO.out
        have c1 := sc.2.1.cell (o := 1) rfl
        have hsx := xo.size
        by_cases hkl : k < (sortP L).length
        · obtain ⟨p, hp⟩ : ∃ p, (sortP L)[k]? = some p := ⟨_, List.getElem?_eq_getElem hkl⟩
          have hdr : (sortP L).drop k = [] ++ p :: (sortP L).drop (k + 1) := by
            have h1 := (List.getElem?_eq_some_iff.1 hp).2
            rw [← h1, List.nil_append, List.getElem_cons_drop]
          have htk : (sortP L).take k ++ [p] = (sortP L).take (k + 1) := (take_snoc' hp).symm
          have hdl : ((sortP L).drop k).length = (sortP L).length - k := List.length_drop
          rw [hdr] at sc
          have ho := out_any S W2.heap.size c a size 0 v' vO vV false _ [] _ p wr sc as2 (by rw [← hdr]; omega) (by rw [List.length_take]; omega) (by omega) (by omega)
          rw [htk, List.nil_append, show (([] : PL).length : Int) = 0 from rfl] at ho
          have HO2 := Lib.hid ho
          have HXO := Lib.hid xo
          obtain ⟨A4, cp4, rfl, _⟩ := sc.2.2.shape
          rw [← hdr, hdl] at c1
          have hpos : (0 : Int) < (((sortP L).length - k : Nat) : Int) := by omega
          clear sc as2 xo ho hp hdr htk hdl
          go_wp2_with fail
          refine HO2.out.mono ?_
          rintro e w4 ⟨rfl, h4⟩
          have H4 := Lib.hid h4
          clear h4 c1
          go_wp2_with fail
          go_roundg ((sortP L).length - (k + 1))
          case measure => omega
          case rel =>
            obtain ⟨v5, vO5, vV5, s5, a5, x5⟩ := H4.out
            exact ⟨k + 1, by omega, by omega, Lib.hid ⟨v5, vO5, vV5, s5, a5, HXO.out.trans x5⟩⟩
        · have hke : k = (sortP L).length := by omega
          have hdn : (sortP L).drop k = [] := by rw [hke]; exact List.drop_length
          have htn : (sortP L).take k = sortP L := by rw [hke]; exact List.take_length
          have hf : OutAns S W2.heap.size c a size 0 false [] (sortP L) w3 wr := by rw [← htn, ← hdn]; exact hO.out
          have HF := Lib.hid hf
          rw [hdn] at sc
          obtain ⟨A4, cp4, rfl, _⟩ := sc.2.2.shape
          clear sc as2 xo hf hke hdn htn
          go_wp2_with fail
          go_meet
          obtain ⟨v5, vO5, vV5, s5, a5, x5⟩ := HF.out
          refine Lib.hid (DoMid.mk' s5 a5 (d6 K1.out) (fun b T cs hb hc ha hT => (hb.extX X3.out (fun h => ?_)).extX x5 (fun h => h.elim hc (fun h => h.elim ha (fun h => by have := hb.lt; omega)))) ?_)
          · obtain ⟨cs', hb'⟩ := SC2.out.2.2.blk h.symm
            exact hT (hb.inj hb')
          · exact (X3.out.toB (fun q h => SC2.out.2.2.1 q h.symm) hsz2).trans (x5.toB (fun q h => h.elim (fun h => h ▸ SC2.out.1) (fun h => h.elim (fun h => h ▸ hSa.1) (fun h => by omega))) hs3)
  case rest =>
    obtain ⟨v', vO, vV, sc, as2, hkp, hex⟩ := hcut.out
    have HSC := Lib.hid sc
    have HAS := Lib.hid as2
    have KRc := hkp r0 _ _ KR2.out hrc hra (by decide)
    have a0 := as2.1.cell (o := 0) rfl
    have a1 := as2.1.cell (o := 1) rfl
    have a2 := as2.1.cell (o := 2) rfl
    have a3 := as2.1.cell (o := 3) rfl
    have r0c := KRc.cell (o := 0) rfl
    have r1c := KRc.cell (o := 1) rfl
    have r2c := KRc.cell (o := 2) rfl
    have r3c := KRc.cell (o := 3) rfl
    have f0 := KRc.frozen 0
    have f1 := KRc.frozen 1
    have f2 := KRc.frozen 2
    have f3 := KRc.frozen 3
    have HKRc := Lib.hid KRc
    obtain ⟨AO, nO, cO, rfl⟩ := own_shape as2.2.1
    obtain ⟨AV, nV, cV, rfl⟩ := own_shape as2.2.2
    clear sc as2 hkp KRc o0 o1 o2
    have HEX := Lib.hid hex
    clear hex
    go_wp2_with fail
    have KF := (((HKRc.out.setCell 0 (.bool (doP size L o).2.ok)).setCell 1 (.int .i64 (doP size L o).2.val)).setCell 2 (.slice AO nO cO)).setCell 3 (.slice AV nV cV)
    have XF : ExtX (fun q => q = r0) wc _ := (((setC_E wc r0 0 (.bool (doP size L o).2.ok)).trans (setC_E _ r0 1 (.int .i64 (doP size L o).2.val))).trans (setC_E _ r0 2 (.slice AO nO cO))).trans (setC_E _ r0 3 (.slice AV nV cV))
    generalize (((wc.setCell ⟨r0, 0, none⟩ (.bool (doP size L o).2.ok)).setCell ⟨r0, 1, none⟩ (.int .i64 (doP size L o).2.val)).setCell ⟨r0, 2, none⟩ (.slice AO nO cO)).setCell ⟨r0, 3, none⟩ (.slice AV nV cV) = wF at KF XF ⊢
    have g0 := KF.cell (o := 0) rfl
    have g1 := KF.cell (o := 1) rfl
    have g2 := KF.cell (o := 2) rfl
    have g3 := KF.cell (o := 3) rfl
    have nr := HSC.out.apart HKRc.out (by decide) (by decide)
    have nt := HAS.out.2.apart HKRc.out (by decide)
    refine bodyPost_ret (v := .agg #[.bool (doP size L o).2.ok, .int .i64 (doP size L o).2.val, .slice AO nO cO, .slice AV nV cV]) (by simp [results, Try.results9, go_sem, g0, g1, g2, g3]) rfl ⟨_, _, v', rfl, ?_, ?_, HSC.out.keep XF (fun e => nr.1 e.symm) (fun q hq e => nr.2 (e ▸ hq)), ?_⟩
    · exact (Rp.slice Rp.iv).toAny ((own_keep HAS.out.2.1 XF (fun q hq e => nt.1 (e ▸ hq))).slice)
    · exact (Rp.slice Rp.iv).toAny ((own_keep HAS.out.2.2 XF (fun q hq e => nt.2 (e ▸ hq))).slice)
    · exact ((HE2.out.toB hS).trans HEX.out).trans (XF.toB (fun q h => h ▸ hSa.2.1) (Nat.le_trans hsz2 HEX.out.size))
end Go.Proofs.Ytphhkphibdiahaa
