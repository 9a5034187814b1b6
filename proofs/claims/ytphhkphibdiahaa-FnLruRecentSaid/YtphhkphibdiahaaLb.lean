/-
  container/list: what its functions do to a ring in memory.
-/
import Derived.Test.YtphhkphibdiahaaLa
import Derived.Handy
import Derived.LaidEqlPtr
namespace Go.Proofs.Ytphhkphibdiahaa
open Go.RowKit
set_option linter.unusedSimpArgs false
set_option linter.unusedVariables false

/-- a block of the ring -/
def InR (l : Nat) (its : List It) (b : Nat) : Prop := b = l ∨ ∃ y ∈ its, y.e = b
theorem DC.at {w : World} {l : Nat} {len : Int} {its : List It} {N P : Nat → Nat} (h : DC w l len its N P) {b : Nat} (hb : InR l its b) :
    w.cell? ⟨b, 0, none⟩ = some (pv (N b)) ∧ w.cell? ⟨b, 1, none⟩ = some (pv (P b)) ∧ w.frozen? ⟨b, 0, none⟩ = false ∧ w.frozen? ⟨b, 1, none⟩ = false := by
  rcases hb with rfl | ⟨y, hy, rfl⟩
  · exact ⟨h.1.cell rfl, h.1.cell rfl, h.1.frozen _, h.1.frozen _⟩
  · exact ⟨(h.2 y hy).cell rfl, (h.2 y hy).cell rfl, (h.2 y hy).frozen _, (h.2 y hy).frozen _⟩
theorem setC_X {M : Nat → Prop} (w : World) (b o : Nat) (v : Value) (h : M b) : ExtX M w (w.setCell ⟨b, o, none⟩ v) := ExtX.setCell (ExtX.refl _ w) (p := ⟨b, o, none⟩) h v

theorem setC_E (w : World) (b o : Nat) (v : Value) : ExtX (fun k => k = b) w (w.setCell ⟨b, o, none⟩ v) := setC_X w b o v rfl
/-! ### Pointers held against each other -/
theorem infoE : ∃ j, Try.prog.info? 106 = some j ∧ j.size ≠ 0 := by
  have h : (Try.prog.info? 106).map (·.size) = some 4 := by kernel_rfl
  cases hi : Try.prog.info? 106 with
  | none => rw [hi] at h; cases h
  | some j => rw [hi] at h; exact ⟨j, rfl, by simp only [Option.map_some, Option.some.injEq] at h; omega⟩
theorem infoL : ∃ j, Try.prog.info? 127 = some j ∧ j.size ≠ 0 := by
  have h : (Try.prog.info? 127).map (·.size) = some 5 := by kernel_rfl
  cases hi : Try.prog.info? 127 with
  | none => rw [hi] at h; cases h
  | some j => rw [hi] at h; exact ⟨j, rfl, by simp only [Option.map_some, Option.some.injEq] at h; omega⟩
theorem eqE_same (b : Nat) (w : World) : (binOp .eql 99 (pv b) (pv b)).run Try.prog w = .ok (.bool true) w := by
  obtain ⟨j, hj, _⟩ := infoE
  exact run_eql_ptr_same w _ Try.underlying99 hj
theorem eqE_other {a b : Nat} {w : World} {ta tb : TypeId} {ca cb : List Value} (ha : Blk w a ta ca) (hb : Blk w b tb cb) (h : a ≠ b) : (binOp .eql 99 (pv a) (pv b)).run Try.prog w = .ok (.bool false) w := by
  obtain ⟨j, hj, hs⟩ := infoE
  exact run_eql_ptr_other w Try.underlying99 hj hs (by simp [h]) ha hb
theorem eqL_same (b : Nat) (w : World) : (binOp .eql 70 (pv b) (pv b)).run Try.prog w = .ok (.bool true) w := by
  obtain ⟨j, hj, _⟩ := infoL
  exact run_eql_ptr_same w _ Try.underlying70 hj
theorem neL_same (b : Nat) (w : World) : (binOp .neq 70 (pv b) (pv b)).run Try.prog w = .ok (.bool false) w := by
  obtain ⟨j, hj, _⟩ := infoL
  have h : ∀ d : Nat, (Op.equalIn (d + 1) 70 (pv b) (pv b)).run Try.prog w = .ok true w := fun d => by
    simp [Op.equalIn, run_underlying Try.underlying70, sizeOf, typeInfo, hj, run_sameAddr_same]
  simp only [binOp]
  simp [Op.equal, Op.maxDepth, h 9999]
theorem DC.blk {w : World} {l : Nat} {len : Int} {its : List It} {N P : Nat → Nat} (h : DC w l len its N P) {b : Nat} (hb : InR l its b) : ∃ T cs, Blk w b T cs := by
  rcases hb with rfl | ⟨y, hy, rfl⟩
  · exact ⟨_, _, h.1⟩
  · exact ⟨_, _, h.2 y hy⟩

noncomputable def ops_89_1 : Array Oper := opsAt Try.f89 1
noncomputable def ops_89_2 : Array Oper := opsAt Try.f89 2
noncomputable def ops_101_0 : Array Oper := opsAt Try.f101 0
noncomputable def ops_101_1 : Array Oper := opsAt Try.f101 1
set_option maxRecDepth 20000 in
set_option maxHeartbeats 1000000 in
theorem move_any (l e p n f : Nat) (len : Int) (its : List It) (N P : Nat → Nat) (w : World) (h : DC w l len its N P) (he : InR l its e) (hp : InR l its p) (hn : InR l its n) (hf : InR l its f) (hNe : N e = n) (hPe : P e = p) (hNl : N l = f)
    (hel : e ≠ l) (hep : e ≠ p) (hen : e ≠ n) (hpl : p ≠ l) (hfe : f ≠ e) (hfl : f ≠ l) :
    Calls Try.prog 89 #[pv l, pv e, pv l] w fun r w' => r = .returned (.tuple #[]) ∧ DC w' l len its (upd (upd (upd N p n) e f) l e) (upd (upd (upd P n p) e l) f e) ∧ ExtX (fun k => InR l its k) w w' := by
  obtain ⟨ce0, ce1, fe0, fe1⟩ := h.at he
  obtain ⟨cp0, cp1, fp0, fp1⟩ := h.at hp
  obtain ⟨cn0, cn1, fn0, fn1⟩ := h.at hn
  rw [hNe] at ce0
  rw [hPe] at ce1
  have H := Lib.hid h
  have HNL := Lib.hid hNl
  have HNE := Lib.hid hNe
  have HPE := Lib.hid hPe
  obtain ⟨T1, cs1, k1⟩ := h.blk he
  obtain ⟨T2, cs2, k2⟩ := h.blk (.inl rfl)
  have q1 := eqE_other k1 k2 hel
  clear k1 k2
  clear h hNe hPe hNl
  go_enter Try.func89, Try.ntmps89
  go_wp2_with fail
  refine wp_region_sched (ops := ops_89_1) (ExtX (fun k => k = p)) [] (.quiet 0 (.quiet 1 (.quiet 2 (.quiet 3 (.quiet 4 (.quiet 5 (.quiet 6 (.quiet 7 (.quiet 8 (.quiet 9 (.loud 10 (.done) (.stop)))))))))))) (by kernel_rfl) (ExtX.refl (fun k => k = p)) (fun _ _ _ => ExtX.trans) (by kernel_rfl) (fun _ _ d _ _ h => by cases d <;> exact h) ?_
  refine wpS_quiet (some 9) { dst := some 9, op := Op.move (Operand.tmp 1), type := _, pos := _, after := _, guard := none } _ rfl rfl (by rfl) (fun wE hE => by (go_simp; try with_reducible rfl)) ?_; simp only [Act.put, List.setIfInBounds_toArray, List.set_cons_zero, List.set_cons_succ]
  refine wpS_quiet (some 10) { dst := some 10, op := Op.nilCheck (Operand.tmp 9), type := _, pos := _, after := _, guard := none } _ rfl rfl (by rfl) (fun wE hE => by (go_simp; try with_reducible rfl)) ?_; simp only [Act.put, List.setIfInBounds_toArray, List.set_cons_zero, List.set_cons_succ]
  refine wpS_quiet (some 11) { dst := some 11, op := Op.fieldAddr 106 (Operand.tmp 10) 1, type := _, pos := _, after := _, guard := none } _ rfl rfl (by rfl) (fun wE hE => by (go_simp; try with_reducible rfl)) ?_; simp only [Act.put, List.setIfInBounds_toArray, List.set_cons_zero, List.set_cons_succ]
  refine wpS_quiet (some 12) { dst := some 12, op := Op.load 99 (Operand.tmp 11), type := _, pos := _, after := _, guard := none } _ rfl rfl (by rfl) (fun wE hE => by (have zk0 := hE.cellS hep ce1; have zk1 := hE.cellS hep ce0; go_simp; try with_reducible rfl)) ?_; simp only [Act.put, List.setIfInBounds_toArray, List.set_cons_zero, List.set_cons_succ]
  refine wpS_quiet (some 13) { dst := some 13, op := Op.move (Operand.tmp 1), type := _, pos := _, after := _, guard := none } _ rfl rfl (by rfl) (fun wE hE => by (go_simp; try with_reducible rfl)) ?_; simp only [Act.put, List.setIfInBounds_toArray, List.set_cons_zero, List.set_cons_succ]
  refine wpS_quiet (some 14) { dst := some 14, op := Op.nilCheck (Operand.tmp 13), type := _, pos := _, after := _, guard := none } _ rfl rfl (by rfl) (fun wE hE => by (go_simp; try with_reducible rfl)) ?_; simp only [Act.put, List.setIfInBounds_toArray, List.set_cons_zero, List.set_cons_succ]
  refine wpS_quiet (some 15) { dst := some 15, op := Op.fieldAddr 106 (Operand.tmp 14) 0, type := _, pos := _, after := _, guard := none } _ rfl rfl (by rfl) (fun wE hE => by (go_simp; try with_reducible rfl)) ?_; simp only [Act.put, List.setIfInBounds_toArray, List.set_cons_zero, List.set_cons_succ]
  refine wpS_quiet (some 16) { dst := some 16, op := Op.load 99 (Operand.tmp 15), type := _, pos := _, after := _, guard := none } _ rfl rfl (by rfl) (fun wE hE => by (have zk0 := hE.cellS hep ce1; have zk1 := hE.cellS hep ce0; go_simp; try with_reducible rfl)) ?_; simp only [Act.put, List.setIfInBounds_toArray, List.set_cons_zero, List.set_cons_succ]
  refine wpS_quiet (some 17) { dst := some 17, op := Op.nilCheck (Operand.tmp 12), type := _, pos := _, after := _, guard := none } _ rfl rfl (by rfl) (fun wE hE => by (go_simp; try with_reducible rfl)) ?_; simp only [Act.put, List.setIfInBounds_toArray, List.set_cons_zero, List.set_cons_succ]
  refine wpS_quiet (some 18) { dst := some 18, op := Op.fieldAddr 106 (Operand.tmp 17) 0, type := _, pos := _, after := _, guard := none } _ rfl rfl (by rfl) (fun wE hE => by (go_simp; try with_reducible rfl)) ?_; simp only [Act.put, List.setIfInBounds_toArray, List.set_cons_zero, List.set_cons_succ]
  refine wpS_val none { dst := none, op := Op.store 99 (Operand.tmp 18) (Operand.tmp 16), type := _, pos := _, after := _, guard := none } undef (World.setCell w.drew ⟨p, 0, none⟩ (pv n)) rfl rfl (by rfl) (.inr ⟨rfl, by (go_simp; try rfl)⟩) (setC_X _ _ _ _ rfl) ?_ trivial
  simp only [Act.put, List.setIfInBounds_toArray, List.set_cons_zero, List.set_cons_succ]
  change Exit.then _ _ _ _ _
  have H1 := Lib.hid (H.out.drew.setN p n)
  have X1 : ExtX (fun k => InR l its k) w (w.drew.setCell ⟨p, 0, none⟩ (pv n)) := setC_X w.drew p 0 _ hp
  generalize w.drew.setCell ⟨p, 0, none⟩ (pv n) = w1 at H1 X1 ⊢
  clear ce0 ce1 fe0 fe1 cp0 cp1 fp0 fp1 cn0 cn1 fn0 fn1
  obtain ⟨ce0, ce1, fe0, fe1⟩ := H1.out.at he
  obtain ⟨cn0, cn1, fn0, fn1⟩ := H1.out.at hn
  rw [upd_ne hep, HNE.out] at ce0
  rw [HPE.out] at ce1
  go_wp2_with fail
  refine wp_region_sched (ops := ops_89_2) (ExtX (fun k => k = n)) [] (.quiet 0 (.quiet 1 (.quiet 2 (.quiet 3 (.quiet 4 (.quiet 5 (.quiet 6 (.quiet 7 (.quiet 8 (.quiet 9 (.loud 10 (.done) (.stop)))))))))))) (by kernel_rfl) (ExtX.refl (fun k => k = n)) (fun _ _ _ => ExtX.trans) (by kernel_rfl) (fun _ _ d _ _ h => by cases d <;> exact h) ?_
  refine wpS_quiet (some 19) { dst := some 19, op := Op.move (Operand.tmp 1), type := _, pos := _, after := _, guard := none } _ rfl rfl (by rfl) (fun wE hE => by (go_simp; try with_reducible rfl)) ?_; simp only [Act.put, List.setIfInBounds_toArray, List.set_cons_zero, List.set_cons_succ]
  refine wpS_quiet (some 20) { dst := some 20, op := Op.nilCheck (Operand.tmp 19), type := _, pos := _, after := _, guard := none } _ rfl rfl (by rfl) (fun wE hE => by (go_simp; try with_reducible rfl)) ?_; simp only [Act.put, List.setIfInBounds_toArray, List.set_cons_zero, List.set_cons_succ]
  refine wpS_quiet (some 21) { dst := some 21, op := Op.fieldAddr 106 (Operand.tmp 20) 0, type := _, pos := _, after := _, guard := none } _ rfl rfl (by rfl) (fun wE hE => by (go_simp; try with_reducible rfl)) ?_; simp only [Act.put, List.setIfInBounds_toArray, List.set_cons_zero, List.set_cons_succ]
  refine wpS_quiet (some 22) { dst := some 22, op := Op.load 99 (Operand.tmp 21), type := _, pos := _, after := _, guard := none } _ rfl rfl (by rfl) (fun wE hE => by (have zk0 := hE.cellS hen ce0; have zk1 := hE.cellS hen ce1; go_simp; try with_reducible rfl)) ?_; simp only [Act.put, List.setIfInBounds_toArray, List.set_cons_zero, List.set_cons_succ]
  refine wpS_quiet (some 23) { dst := some 23, op := Op.move (Operand.tmp 1), type := _, pos := _, after := _, guard := none } _ rfl rfl (by rfl) (fun wE hE => by (go_simp; try with_reducible rfl)) ?_; simp only [Act.put, List.setIfInBounds_toArray, List.set_cons_zero, List.set_cons_succ]
  refine wpS_quiet (some 24) { dst := some 24, op := Op.nilCheck (Operand.tmp 23), type := _, pos := _, after := _, guard := none } _ rfl rfl (by rfl) (fun wE hE => by (go_simp; try with_reducible rfl)) ?_; simp only [Act.put, List.setIfInBounds_toArray, List.set_cons_zero, List.set_cons_succ]
  refine wpS_quiet (some 25) { dst := some 25, op := Op.fieldAddr 106 (Operand.tmp 24) 1, type := _, pos := _, after := _, guard := none } _ rfl rfl (by rfl) (fun wE hE => by (go_simp; try with_reducible rfl)) ?_; simp only [Act.put, List.setIfInBounds_toArray, List.set_cons_zero, List.set_cons_succ]
  refine wpS_quiet (some 26) { dst := some 26, op := Op.load 99 (Operand.tmp 25), type := _, pos := _, after := _, guard := none } _ rfl rfl (by rfl) (fun wE hE => by (have zk0 := hE.cellS hen ce0; have zk1 := hE.cellS hen ce1; go_simp; try with_reducible rfl)) ?_; simp only [Act.put, List.setIfInBounds_toArray, List.set_cons_zero, List.set_cons_succ]
  refine wpS_quiet (some 27) { dst := some 27, op := Op.nilCheck (Operand.tmp 22), type := _, pos := _, after := _, guard := none } _ rfl rfl (by rfl) (fun wE hE => by (go_simp; try with_reducible rfl)) ?_; simp only [Act.put, List.setIfInBounds_toArray, List.set_cons_zero, List.set_cons_succ]
  refine wpS_quiet (some 28) { dst := some 28, op := Op.fieldAddr 106 (Operand.tmp 27) 1, type := _, pos := _, after := _, guard := none } _ rfl rfl (by rfl) (fun wE hE => by (go_simp; try with_reducible rfl)) ?_; simp only [Act.put, List.setIfInBounds_toArray, List.set_cons_zero, List.set_cons_succ]
  refine wpS_val none { dst := none, op := Op.store 99 (Operand.tmp 28) (Operand.tmp 26), type := _, pos := _, after := _, guard := none } undef (World.setCell w1.drew ⟨n, 1, none⟩ (pv p)) rfl rfl (by rfl) (.inr ⟨rfl, by (go_simp; try rfl)⟩) (setC_X _ _ _ _ rfl) ?_ trivial
  simp only [Act.put, List.setIfInBounds_toArray, List.set_cons_zero, List.set_cons_succ]
  change Exit.then _ _ _ _ _
  have H2 := Lib.hid (H1.out.drew.setP n p)
  have X2 : ExtX (fun k => InR l its k) w (w1.drew.setCell ⟨n, 1, none⟩ (pv p)) := X1.trans (setC_X w1.drew n 1 _ hn)
  generalize w1.drew.setCell ⟨n, 1, none⟩ (pv p) = w2 at H2 X2 ⊢
  clear ce0 ce1 fe0 fe1 cn0 cn1 fn0 fn1
  obtain ⟨ce0, ce1, fe0, fe1⟩ := H2.out.at he
  obtain ⟨cf0, cf1, ff0, ff1⟩ := H2.out.at hf
  obtain ⟨cl0, cl1, fl0, fl1⟩ := H2.out.at (.inl rfl)
  rw [upd_ne (Ne.symm hpl), HNL.out] at cl0
  have hle : l ≠ e := Ne.symm hel
  go_wp2_with fail
  go_end0
  refine ⟨rfl, (((H2.out.setP e l).setN e f).setN l e).setP f e, ?_⟩
  exact (((X2.trans (setC_X _ e 1 _ he)).trans (setC_X _ e 0 _ he)).trans (setC_X _ l 0 _ (.inl rfl))).trans (setC_X _ f 1 _ hf)
set_option maxRecDepth 20000 in
set_option maxHeartbeats 1000000 in
theorem rem_any (l p n : Nat) (x : It) (len : Int) (its its' : List It) (N P : Nat → Nat) (w : World) (h : DC w l len its N P) (hx : x ∈ its) (hp : InR l its p) (hn : InR l its n) (hNe : N x.e = n) (hPe : P x.e = p)
    (hel : x.e ≠ l) (hep : x.e ≠ p) (hen : x.e ≠ n) (hl1 : 1 ≤ len) (hl2 : len ≤ 10000) (hs : ∀ y ∈ its', y ∈ its ∧ y.e ≠ x.e ∧ y.e ≠ l) :
    Calls Try.prog 101 #[pv l, pv x.e] w fun r w' => r = .returned (.tuple #[]) ∧ DC w' l (len - 1) its' (upd N p n) (upd P n p) ∧
      Blk w' x.e 106 [.pointer none, .pointer none, .pointer none, .iface 104 (pv x.t)] ∧ ExtX (fun k => InR l its k) w w' := by
  have he : InR l its x.e := .inr ⟨x, hx, rfl⟩
  obtain ⟨ce0, ce1, fe0, fe1⟩ := h.at he
  obtain ⟨cp0, cp1, fp0, fp1⟩ := h.at hp
  rw [hNe] at ce0
  rw [hPe] at ce1
  have H := Lib.hid h
  have HNE := Lib.hid hNe
  have HPE := Lib.hid hPe
  clear h hNe hPe
  go_enter Try.func101, Try.ntmps101
  go_wp2_with fail
  refine wp_region_sched (ops := ops_101_0) (ExtX (fun k => k = p)) [] (.quiet 0 (.quiet 1 (.quiet 2 (.quiet 3 (.quiet 4 (.quiet 5 (.quiet 6 (.quiet 7 (.quiet 8 (.quiet 9 (.loud 10 (.done) (.stop)))))))))))) (by kernel_rfl) (ExtX.refl (fun k => k = p)) (fun _ _ _ => ExtX.trans) (by kernel_rfl) (fun _ _ d _ _ h => by cases d <;> exact h) ?_
  refine wpS_quiet (some 4) { dst := some 4, op := Op.move (Operand.tmp 1), type := _, pos := _, after := _, guard := none } _ rfl rfl (by rfl) (fun wE hE => by (go_simp; try with_reducible rfl)) ?_; simp only [Act.put, List.setIfInBounds_toArray, List.set_cons_zero, List.set_cons_succ]
  refine wpS_quiet (some 5) { dst := some 5, op := Op.nilCheck (Operand.tmp 4), type := _, pos := _, after := _, guard := none } _ rfl rfl (by rfl) (fun wE hE => by (go_simp; try with_reducible rfl)) ?_; simp only [Act.put, List.setIfInBounds_toArray, List.set_cons_zero, List.set_cons_succ]
  refine wpS_quiet (some 6) { dst := some 6, op := Op.fieldAddr 106 (Operand.tmp 5) 1, type := _, pos := _, after := _, guard := none } _ rfl rfl (by rfl) (fun wE hE => by (go_simp; try with_reducible rfl)) ?_; simp only [Act.put, List.setIfInBounds_toArray, List.set_cons_zero, List.set_cons_succ]
  refine wpS_quiet (some 7) { dst := some 7, op := Op.load 99 (Operand.tmp 6), type := _, pos := _, after := _, guard := none } _ rfl rfl (by rfl) (fun wE hE => by (have zk0 := hE.cellS hep ce1; have zk1 := hE.cellS hep ce0; go_simp; try with_reducible rfl)) ?_; simp only [Act.put, List.setIfInBounds_toArray, List.set_cons_zero, List.set_cons_succ]
  refine wpS_quiet (some 8) { dst := some 8, op := Op.move (Operand.tmp 1), type := _, pos := _, after := _, guard := none } _ rfl rfl (by rfl) (fun wE hE => by (go_simp; try with_reducible rfl)) ?_; simp only [Act.put, List.setIfInBounds_toArray, List.set_cons_zero, List.set_cons_succ]
  refine wpS_quiet (some 9) { dst := some 9, op := Op.nilCheck (Operand.tmp 8), type := _, pos := _, after := _, guard := none } _ rfl rfl (by rfl) (fun wE hE => by (go_simp; try with_reducible rfl)) ?_; simp only [Act.put, List.setIfInBounds_toArray, List.set_cons_zero, List.set_cons_succ]
  refine wpS_quiet (some 10) { dst := some 10, op := Op.fieldAddr 106 (Operand.tmp 9) 0, type := _, pos := _, after := _, guard := none } _ rfl rfl (by rfl) (fun wE hE => by (go_simp; try with_reducible rfl)) ?_; simp only [Act.put, List.setIfInBounds_toArray, List.set_cons_zero, List.set_cons_succ]
  refine wpS_quiet (some 11) { dst := some 11, op := Op.load 99 (Operand.tmp 10), type := _, pos := _, after := _, guard := none } _ rfl rfl (by rfl) (fun wE hE => by (have zk0 := hE.cellS hep ce1; have zk1 := hE.cellS hep ce0; go_simp; try with_reducible rfl)) ?_; simp only [Act.put, List.setIfInBounds_toArray, List.set_cons_zero, List.set_cons_succ]
  refine wpS_quiet (some 12) { dst := some 12, op := Op.nilCheck (Operand.tmp 7), type := _, pos := _, after := _, guard := none } _ rfl rfl (by rfl) (fun wE hE => by (go_simp; try with_reducible rfl)) ?_; simp only [Act.put, List.setIfInBounds_toArray, List.set_cons_zero, List.set_cons_succ]
  refine wpS_quiet (some 13) { dst := some 13, op := Op.fieldAddr 106 (Operand.tmp 12) 0, type := _, pos := _, after := _, guard := none } _ rfl rfl (by rfl) (fun wE hE => by (go_simp; try with_reducible rfl)) ?_; simp only [Act.put, List.setIfInBounds_toArray, List.set_cons_zero, List.set_cons_succ]
  refine wpS_val none { dst := none, op := Op.store 99 (Operand.tmp 13) (Operand.tmp 11), type := _, pos := _, after := _, guard := none } undef (World.setCell w.drew ⟨p, 0, none⟩ (pv n)) rfl rfl (by rfl) (.inr ⟨rfl, by (go_simp; try rfl)⟩) (setC_X _ _ _ _ rfl) ?_ trivial
  simp only [Act.put, List.setIfInBounds_toArray, List.set_cons_zero, List.set_cons_succ]
  change Exit.then _ _ _ _ _
  have H1 := Lib.hid (H.out.drew.setN p n)
  have X1 : ExtX (fun k => InR l its k) w (w.drew.setCell ⟨p, 0, none⟩ (pv n)) := setC_X w.drew p 0 _ hp
  generalize w.drew.setCell ⟨p, 0, none⟩ (pv n) = w1 at H1 X1 ⊢
  clear ce0 ce1 fe0 fe1 cp0 cp1 fp0 fp1
  obtain ⟨ce0, ce1, fe0, fe1⟩ := H1.out.at he
  obtain ⟨cn0, cn1, fn0, fn1⟩ := H1.out.at hn
  rw [upd_ne hep, HNE.out] at ce0
  rw [HPE.out] at ce1
  go_wp2_with fail
  refine wp_region_sched (ops := ops_101_1) (ExtX (fun k => k = n)) [] (.quiet 0 (.quiet 1 (.quiet 2 (.quiet 3 (.quiet 4 (.quiet 5 (.quiet 6 (.quiet 7 (.quiet 8 (.quiet 9 (.loud 10 (.done) (.stop)))))))))))) (by kernel_rfl) (ExtX.refl (fun k => k = n)) (fun _ _ _ => ExtX.trans) (by kernel_rfl) (fun _ _ d _ _ h => by cases d <;> exact h) ?_
  refine wpS_quiet (some 14) { dst := some 14, op := Op.move (Operand.tmp 1), type := _, pos := _, after := _, guard := none } _ rfl rfl (by rfl) (fun wE hE => by (go_simp; try with_reducible rfl)) ?_; simp only [Act.put, List.setIfInBounds_toArray, List.set_cons_zero, List.set_cons_succ]
  refine wpS_quiet (some 15) { dst := some 15, op := Op.nilCheck (Operand.tmp 14), type := _, pos := _, after := _, guard := none } _ rfl rfl (by rfl) (fun wE hE => by (go_simp; try with_reducible rfl)) ?_; simp only [Act.put, List.setIfInBounds_toArray, List.set_cons_zero, List.set_cons_succ]
  refine wpS_quiet (some 16) { dst := some 16, op := Op.fieldAddr 106 (Operand.tmp 15) 0, type := _, pos := _, after := _, guard := none } _ rfl rfl (by rfl) (fun wE hE => by (go_simp; try with_reducible rfl)) ?_; simp only [Act.put, List.setIfInBounds_toArray, List.set_cons_zero, List.set_cons_succ]
  refine wpS_quiet (some 17) { dst := some 17, op := Op.load 99 (Operand.tmp 16), type := _, pos := _, after := _, guard := none } _ rfl rfl (by rfl) (fun wE hE => by (have zk0 := hE.cellS hen ce0; have zk1 := hE.cellS hen ce1; go_simp; try with_reducible rfl)) ?_; simp only [Act.put, List.setIfInBounds_toArray, List.set_cons_zero, List.set_cons_succ]
  refine wpS_quiet (some 18) { dst := some 18, op := Op.move (Operand.tmp 1), type := _, pos := _, after := _, guard := none } _ rfl rfl (by rfl) (fun wE hE => by (go_simp; try with_reducible rfl)) ?_; simp only [Act.put, List.setIfInBounds_toArray, List.set_cons_zero, List.set_cons_succ]
  refine wpS_quiet (some 19) { dst := some 19, op := Op.nilCheck (Operand.tmp 18), type := _, pos := _, after := _, guard := none } _ rfl rfl (by rfl) (fun wE hE => by (go_simp; try with_reducible rfl)) ?_; simp only [Act.put, List.setIfInBounds_toArray, List.set_cons_zero, List.set_cons_succ]
  refine wpS_quiet (some 20) { dst := some 20, op := Op.fieldAddr 106 (Operand.tmp 19) 1, type := _, pos := _, after := _, guard := none } _ rfl rfl (by rfl) (fun wE hE => by (go_simp; try with_reducible rfl)) ?_; simp only [Act.put, List.setIfInBounds_toArray, List.set_cons_zero, List.set_cons_succ]
  refine wpS_quiet (some 21) { dst := some 21, op := Op.load 99 (Operand.tmp 20), type := _, pos := _, after := _, guard := none } _ rfl rfl (by rfl) (fun wE hE => by (have zk0 := hE.cellS hen ce0; have zk1 := hE.cellS hen ce1; go_simp; try with_reducible rfl)) ?_; simp only [Act.put, List.setIfInBounds_toArray, List.set_cons_zero, List.set_cons_succ]
  refine wpS_quiet (some 22) { dst := some 22, op := Op.nilCheck (Operand.tmp 17), type := _, pos := _, after := _, guard := none } _ rfl rfl (by rfl) (fun wE hE => by (go_simp; try with_reducible rfl)) ?_; simp only [Act.put, List.setIfInBounds_toArray, List.set_cons_zero, List.set_cons_succ]
  refine wpS_quiet (some 23) { dst := some 23, op := Op.fieldAddr 106 (Operand.tmp 22) 1, type := _, pos := _, after := _, guard := none } _ rfl rfl (by rfl) (fun wE hE => by (go_simp; try with_reducible rfl)) ?_; simp only [Act.put, List.setIfInBounds_toArray, List.set_cons_zero, List.set_cons_succ]
  refine wpS_val none { dst := none, op := Op.store 99 (Operand.tmp 23) (Operand.tmp 21), type := _, pos := _, after := _, guard := none } undef (World.setCell w1.drew ⟨n, 1, none⟩ (pv p)) rfl rfl (by rfl) (.inr ⟨rfl, by (go_simp; try rfl)⟩) (setC_X _ _ _ _ rfl) ?_ trivial
  simp only [Act.put, List.setIfInBounds_toArray, List.set_cons_zero, List.set_cons_succ]
  change Exit.then _ _ _ _ _
  have H2 := Lib.hid (H1.out.drew.setP n p)
  have X2 : ExtX (fun k => InR l its k) w (w1.drew.setCell ⟨n, 1, none⟩ (pv p)) := X1.trans (setC_X w1.drew n 1 _ hn)
  generalize w1.drew.setCell ⟨n, 1, none⟩ (pv p) = w2 at H2 X2 ⊢
  clear ce0 ce1 fe0 fe1 cn0 cn1 fn0 fn1
  obtain ⟨ce0, ce1, fe0, fe1⟩ := H2.out.at he
  have ce2 := (H2.out.2 x hx).cell (o := 2) rfl
  have fe2 := (H2.out.2 x hx).frozen 2
  have cl4 := H2.out.1.cell (o := 4) rfl
  have fl4 := H2.out.1.frozen 4
  have hle : l ≠ x.e := Ne.symm hel
  go_wp2_with fail
  go_end0
  have hne : ∀ y ∈ its', y.e ≠ x.e := fun y hy => (hs y hy).2.1
  refine ⟨rfl, ((((H2.out.sub (its' := its') fun y hy => (hs y hy).1).other hel hne 0 _).other hel hne 1 _).other hel hne 2 _).setLen (fun y hy => (hs y hy).2.2) _, ?_, ?_⟩
  · have h3 := (((H2.out.2 x hx).setCell 0 (.pointer none)).setCell 1 (.pointer none)).setCell 2 (.pointer none)
    exact h3.setCell_ne (p := ⟨l, 4, none⟩) hle _
  · exact (((X2.trans (setC_X _ x.e 0 _ he)).trans (setC_X _ x.e 1 _ he)).trans (setC_X _ x.e 2 _ he)).trans (setC_X _ l 4 _ (.inl rfl))
set_option maxRecDepth 20000 in
set_option maxHeartbeats 1000000 in
theorem ins_any (l f : Nat) (x : It) (len : Int) (its : List It) (N P : Nat → Nat) (w : World) (h : DC w l len its N P) (hx : Blk w x.e 106 [.pointer none, .pointer none, .pointer none, .iface 104 (pv x.t)]) (hf : InR l its f) (hNl : N l = f)
    (hel : x.e ≠ l) (hfe : f ≠ x.e) (hl1 : 0 ≤ len) (hl2 : len ≤ 10000) (hs : ∀ y ∈ its, y.e ≠ x.e ∧ y.e ≠ l) :
    Calls Try.prog 100 #[pv l, pv x.e, pv l] w fun r w' => r = .returned (pv x.e) ∧ DC w' l (len + 1) (x :: its) (upd (upd N x.e f) l x.e) (upd (upd P x.e l) f x.e) ∧ ExtX (fun k => InR l (x :: its) k) w w' := by
  have ce0 := hx.cell (o := 0) rfl
  have ce1 := hx.cell (o := 1) rfl
  have ce2 := hx.cell (o := 2) rfl
  have fe0 := hx.frozen 0
  have fe1 := hx.frozen 1
  have fe2 := hx.frozen 2
  obtain ⟨cl0, cl1, fl0, fl1⟩ := h.at (.inl rfl)
  have cl4 := h.1.cell (o := 4) rfl
  have fl4 := h.1.frozen 4
  obtain ⟨cf0, cf1, ff0, ff1⟩ := h.at hf
  rw [hNl] at cl0
  have H := Lib.hid h
  have HX := Lib.hid hx
  have HNL := Lib.hid hNl
  have hle : l ≠ x.e := Ne.symm hel
  clear h hx hNl
  go_enter Try.func100, Try.ntmps100
  go_wp2_with fail
  go_ret
  have hne : ∀ y ∈ its, y.e ≠ x.e := fun y hy => (hs y hy).1
  have he : InR l (x :: its) x.e := .inr ⟨x, by simp, rfl⟩
  have hf' : InR l (x :: its) f := hf.imp (fun h => h) (fun ⟨y, hy, e⟩ => ⟨y, by simp [hy], e⟩)
  refine ⟨rfl, ?_, ?_⟩
  · have h1 : DC _ l len its N P := (H.out.other hel hne 1 (pv l)).other hel hne 0 (pv f)
    have h2 := (HX.out.setCell 1 (pv l)).setCell 0 (pv f)
    -- the ring, the new one beside it
    have h3 := ((h1.setN l x.e).setP f x.e)
    have h4 := ((h2.setCell_ne (p := ⟨l, 0, none⟩) hle (pv x.e)).setCell_ne (p := ⟨f, 1, none⟩) hfe (pv x.e)).setCell 2 (pv l)
    have h5 := (h3.other hel hne 2 (pv l)).setLen (fun y hy => (hs y hy).2) (len + 1)
    have h6 := h4.setCell_ne (p := ⟨l, 4, none⟩) hle (.int .i64 (len + 1))
    refine ⟨?_, fun y hy => ?_⟩
    · have := h5.1
      have hP : upd (upd P x.e l) f x.e l = upd P f x.e l := by
        by_cases hfl : l = f
        · rw [← hfl, upd_same, upd_same]
        · rw [upd_ne hfl, upd_ne hfl, upd_ne hle]
      rw [upd_same] at this ⊢
      rw [hP]
      exact this
    · rcases List.mem_cons.1 hy with rfl | hy
      · rw [upd_ne hel, upd_same, upd_ne (Ne.symm hfe), upd_same]
        exact h6
      · have h7 := h5.2 y hy
        have hye := hne y hy
        rw [upd_ne (hs y hy).2] at h7 ⊢
        rw [upd_ne hye]
        by_cases hyf : y.e = f
        · rw [← hyf, upd_same] at h7 ⊢; exact h7
        · rw [upd_ne hyf] at h7 ⊢; rw [upd_ne hye]; exact h7
  · exact ((((setC_X w x.e 1 _ he).trans (setC_X _ x.e 0 _ he)).trans (setC_X _ l 0 _ (.inl rfl))).trans (setC_X _ f 1 _ hf')).trans (setC_X _ x.e 2 _ he) |>.trans (setC_X _ l 4 _ (.inl rfl))
end Go.Proofs.Ytphhkphibdiahaa
