/-
  impl.PeriodicCheck, what the reference says of it, and lists of IDs compared.
-/
import Derived.Test.YthnhgfpkmbgkdaaCq
namespace Go.Proofs.Ythnhgfpkmbgkdaa
open Go.RowKit
set_option linter.unusedSimpArgs false
set_option linter.unusedVariables false

/-- whom the check raises an alarm for -/
def badQ (f s : HsD) (rev : Int) (p : CkD) : Bool := p.has && (decide (rev < p.rev) || decide (s.comp < p.comp) || (p.comp == f.comp && p.hash != f.hash))
def periodicD (f s : HsD) (rev own : Int) (ps : List CkD) : List Int := if selfQ f s then [own] else ((ps.find? (badQ f s rev)).map (·.id)).toList
theorem stepA_cons {x : Int} {c : Bool} {id : Int} : stepA [x] c id = [x] := by unfold stepA; cases c <;> rfl
theorem stepP_cons {f s : HsD} {rev x : Int} {p : CkD} : stepP f s rev [x] p = [x] := by
  unfold stepP; split
  · rw [stepA_cons, stepA_cons, stepA_cons]
  · rfl
theorem stepP_nil {f s : HsD} {rev : Int} {p : CkD} : stepP f s rev [] p = if badQ f s rev p then [p.id] else [] := by
  unfold stepP badQ
  cases p.has with
  | false => rfl
  | true =>
    simp only [if_true, Bool.true_and]
    cases decide (rev < p.rev) with
    | true =>
      rw [show stepA [] true p.id = [p.id] from rfl, stepA_cons, stepA_cons]; simp
    | false =>
      rw [show stepA [] false p.id = [] from rfl]
      cases decide (s.comp < p.comp) with
      | true => rw [show stepA [] true p.id = [p.id] from rfl, stepA_cons]; simp
      | false =>
        rw [show stepA [] false p.id = [] from rfl]
        cases (p.comp == f.comp && p.hash != f.hash) <;> rfl
theorem foldP_cons {f s : HsD} {rev x : Int} : ∀ ps : List CkD, ps.foldl (stepP f s rev) [x] = [x]
  | [] => rfl
  | p :: ps => by rw [List.foldl_cons, stepP_cons]; exact foldP_cons ps
theorem foldP_nil {f s : HsD} {rev : Int} : ∀ ps : List CkD, ps.foldl (stepP f s rev) [] = ((ps.find? (badQ f s rev)).map (·.id)).toList
  | [] => rfl
  | p :: ps => by
    rw [List.foldl_cons, stepP_nil, List.find?_cons]
    cases badQ f s rev p with
    | true => simp only [if_true]; rw [foldP_cons]; rfl
    | false => simp only [Bool.false_eq_true, if_false]; exact foldP_nil ps
theorem alOf_eq (f s : HsD) (rev own : Int) (ps : List CkD) : alOf f s rev own ps = periodicD f s rev own ps := by
  unfold alOf periodicD
  cases selfQ f s with
  | true => rw [show stepA [] true own = [own] from rfl, foldP_cons]; rfl
  | false => rw [show stepA [] false own = [] from rfl, foldP_nil]; rfl

/-- some IDs are answered -/
def IdsAns (l : List Int) (w : World) (e : Ending) (w' : World) : Prop := ∃ v, e = .returned v ∧ (Rp.slice Rp.u64).K w' any l [v] ∧ Ext w w'
set_option maxRecDepth 20000 in
set_option maxHeartbeats 2000000 in
theorem zzPeriodic_any (f s : HsD) (rev2 own : Int) (ps : List CkD) (v : Value) (w : World) (hp : (Rp.slice Rp.pe).K w any ps [v]) (hl : ps.length ≤ 1000) :
    Calls Try.prog 28 #[hsV f, hsV s, .int .i64 rev2, .int .u64 own, v] w (IdsAns (periodicD f s rev2 own ps) w) := by
  have HP := Lib.hid ((Rp.slice Rp.pe).lt hp)
  obtain ⟨A, cap, hv, _⟩ := id hp
  simp only [List.cons.injEq, and_true] at hv
  subst hv
  clear hp
  go_enter Try.func28, Try.ntmps28
  go_wp2_with fail
  obtain ⟨W, hW⟩ : ∃ W, W = ((((w.alloc (.cells (hsCells f).toArray 55)).alloc (.cells (hsCells s).toArray 55)).alloc (.cells #[.slice A ps.length cap] 59)).alloc (.cells (hstCells (hst0 f s rev2 own (.func (.func 37) #[] #[.pointer (some ⟨w.heap.size + 1 + 1, 0, none⟩)]))).toArray 73)).alloc (.cells #[.pointer none, .iface 69 (.pointer (some ⟨w.heap.size + 1 + 1 + 1, 0, none⟩)), .int .i64 0] 81) := ⟨_, rfl⟩
  have E0 : Ext w W := by rw [hW]; exact (((((Ext.refl w).alloc _).alloc _).alloc _).alloc _).alloc _
  have K1 : Blk W (w.heap.size + 1 + 1) 59 [.slice A ps.length cap] := by rw [hW]; exact (blk_at _ _ _ _ (by simp)).ext (((Ext.refl _).alloc _).alloc _)
  have K2 : Blk W (w.heap.size + 1 + 1 + 1) 73 (hstCells (hst0 f s rev2 own (.func (.func 37) #[] #[.pointer (some ⟨w.heap.size + 1 + 1, 0, none⟩)]))) := by rw [hW]; exact (blk_at _ _ _ _ (by simp)).ext ((Ext.refl _).alloc _)
  have K3 : CkAt W (w.heap.size + 1 + 1 + 1 + 1) (w.heap.size + 1 + 1 + 1) 0 := by rw [hW]; exact blk_at _ _ _ _ (by simp)
  change Calls _ _ _ (((((w.alloc (.cells (hsCells f).toArray 55)).alloc (.cells (hsCells s).toArray 55)).alloc (.cells #[.slice A ps.length cap] 59)).alloc (.cells (hstCells (hst0 f s rev2 own (.func (.func 37) #[] #[.pointer (some ⟨w.heap.size + 1 + 1, 0, none⟩)]))).toArray 73)).alloc (.cells #[.pointer none, .iface 69 (.pointer (some ⟨w.heap.size + 1 + 1 + 1, 0, none⟩)), .int .i64 0] 81)) _
  rw [← hW]
  clear hW
  refine (periodic_any (w.heap.size + 1 + 1 + 1 + 1) (w.heap.size + 1 + 1 + 1) (w.heap.size + 1 + 1) f s rev2 own 0 ps _ W K3 K2 K1 (by omega) (by omega) ((Rp.slice Rp.pe).mono (fun k hk => by have := hk.2; omega) ((Rp.slice Rp.pe).ext' E0 HP.out)) hl).mono ?_
  rintro e w1 ⟨rfl, x', rl, h1, X1⟩
  rw [alOf_eq] at h1
  have c11 := h1.blk.cell (o := 11) rfl
  have HS := Lib.hid h1.al.slice
  clear K1 K2 K3
  obtain ⟨A2, n2, cap2, hal⟩ := own_shape h1.al
  rw [hal] at c11 HS
  clear hal h1
  go_wp2
  go_ret
  exact ⟨_, rfl, (Rp.slice Rp.u64).toAny HS.out, ((E0.toX _).trans X1).toExt (fun k hk => by have hk : k = w.heap.size + 1 + 1 + 1 := hk; omega)⟩
noncomputable def ops_17_1 : Array Oper := opsAt Try.f17 1
set_option maxRecDepth 20000 in
set_option maxHeartbeats 2000000 in
theorem implPeriodic_any (f s : HsD) (rev2 own : Int) (ps : List CkD) (v : Value) (w : World) (hp : (Rp.slice Rp.ck).K w any ps [v]) (hl : ps.length ≤ 1000) :
    Calls Try.prog 17 #[hsV f, hsV s, .int .i64 rev2, .int .u64 own, v] w (IdsAns (periodicD f s rev2 own ps) w) := by
  have HP := Lib.hid hp
  clear hp
  obtain ⟨W, hW⟩ : ∃ W, W = (w.alloc (.cells (hsCells f).toArray 25)).alloc (.cells (hsCells s).toArray 25) := ⟨_, rfl⟩
  have E0 : Ext w W := by rw [hW]; exact ((Ext.refl w).alloc _).alloc _
  have K1 : Blk W w.heap.size 25 (hsCells f) := by rw [hW]; exact (blk_at _ _ _ _ rfl).ext ((Ext.refl _).alloc _)
  have K2 : Blk W (w.heap.size + 1) 25 (hsCells s) := by rw [hW]; exact blk_at _ _ _ _ (by simp)
  go_enter Try.func17, Try.ntmps17
  go_wp2_with fail
  change Code.wp _ _ _ _ ((w.alloc (.cells (hsCells f).toArray 25)).alloc (.cells (hsCells s).toArray 25))
  rw [← hW]
  clear hW
  have c0 := K1.cell (o := 0) rfl
  have c1 := K1.cell (o := 1) rfl
  have c2 := K1.cell (o := 2) rfl
  have d0 := K2.cell (o := 0) rfl
  have d1 := K2.cell (o := 1) rfl
  have d2 := K2.cell (o := 2) rfl
  refine wp_region_sched (ops := ops_17_1) Ext [] (.quiet 0 (.quiet 2 (.quiet 4 (.quiet 5 (.quiet 6 (.loud 1 (.loud 3 (.loud 7 (.loud 8 (.quiet 9 (.done)) (.stop)) (.stop)) (.stop)) (.stop))))))) (by kernel_rfl) ext_refl ext_trans (by kernel_rfl) (fun _ _ d _ _ h => by cases d <;> exact h) ?_
  refine wpS_quiet (some 11) { dst := some 11, op := Op.load 25 (Operand.tmp 5), type := _, pos := _, after := _, guard := none } _ rfl rfl (by rfl) (fun wE hE => by (have zk0 := hE.cellS c0; have zk1 := hE.cellS c1; have zk2 := hE.cellS c2; have zk3 := hE.cellS d0; have zk4 := hE.cellS d1; have zk5 := hE.cellS d2; go_simp; try with_reducible rfl)) ?_; simp only [Act.put, List.setIfInBounds_toArray, List.set_cons_zero, List.set_cons_succ]
  refine wpS_quiet (some 13) { dst := some 13, op := Op.load 25 (Operand.tmp 6), type := _, pos := _, after := _, guard := none } _ rfl rfl (by rfl) (fun wE hE => by (have zk0 := hE.cellS c0; have zk1 := hE.cellS c1; have zk2 := hE.cellS c2; have zk3 := hE.cellS d0; have zk4 := hE.cellS d1; have zk5 := hE.cellS d2; go_simp; try with_reducible rfl)) ?_; simp only [Act.put, List.setIfInBounds_toArray, List.set_cons_zero, List.set_cons_succ]
  refine wpS_quiet (some 15) { dst := some 15, op := Op.move (Operand.tmp 2), type := _, pos := _, after := _, guard := none } _ rfl rfl (by rfl) (fun wE hE => by (go_simp; try with_reducible rfl)) ?_; simp only [Act.put, List.setIfInBounds_toArray, List.set_cons_zero, List.set_cons_succ]
  refine wpS_quiet (some 16) { dst := some 16, op := Op.move (Operand.tmp 3), type := _, pos := _, after := _, guard := none } _ rfl rfl (by rfl) (fun wE hE => by (go_simp; try with_reducible rfl)) ?_; simp only [Act.put, List.setIfInBounds_toArray, List.set_cons_zero, List.set_cons_succ]
  refine wpS_quiet (some 17) { dst := some 17, op := Op.move (Operand.tmp 4), type := _, pos := _, after := _, guard := none } _ rfl rfl (by rfl) (fun wE hE => by (go_simp; try with_reducible rfl)) ?_; simp only [Act.put, List.setIfInBounds_toArray, List.set_cons_zero, List.set_cons_succ]
  refine wpS_call (some 12) { dst := some 12, op := Op.call { callee := Callee.value (Operand.func 20), args := #[Operand.tmp 11], argTypes := #[25] }, type := _, pos := _, after := _, guard := none } 20 _ rfl rfl (by rfl) (by go_simp; try first | with_reducible rfl | exact ⟨rfl, rfl⟩) ?_
  refine (hashIn_any f _).mono ?_; rintro e w1 ⟨rfl, e1⟩; refine ⟨_, rfl, e1, ?_⟩; simp only [Act.put, List.setIfInBounds_toArray, List.set_cons_zero, List.set_cons_succ]
  refine wpS_call (some 14) { dst := some 14, op := Op.call { callee := Callee.value (Operand.func 20), args := #[Operand.tmp 13], argTypes := #[25] }, type := _, pos := _, after := _, guard := none } 20 _ rfl rfl (by rfl) (by go_simp; try first | with_reducible rfl | exact ⟨rfl, rfl⟩) ?_
  refine (hashIn_any s w1).mono ?_; rintro e w2 ⟨rfl, e2⟩; refine ⟨_, rfl, e2, ?_⟩; simp only [Act.put, List.setIfInBounds_toArray, List.set_cons_zero, List.set_cons_succ]
  refine wpS_call (some 18) { dst := some 18, op := Op.call { callee := Callee.value (Operand.func 24), args := #[Operand.tmp 17], argTypes := #[26] }, type := _, pos := _, after := _, guard := none } 24 _ rfl rfl (by rfl) (by go_simp; try first | with_reducible rfl | exact ⟨rfl, rfl⟩) ?_
  refine (peersIn_any ps v w2 ((Rp.slice Rp.ck).ext' (E0.trans (e1.undrew.trans e2)) HP.out) hl).mono ?_; rintro e w3 ⟨v', rfl, ho, e3⟩; refine ⟨_, rfl, e3, ?_⟩; simp only [Act.put, List.setIfInBounds_toArray, List.set_cons_zero, List.set_cons_succ]
  refine wpS_call (some 19) { dst := some 19, op := Op.call { callee := Callee.value (Operand.func 28), args := #[Operand.tmp 12, Operand.tmp 14, Operand.tmp 15, Operand.tmp 16, Operand.tmp 18], argTypes := #[55, 55, 2, 22, 59] }, type := _, pos := _, after := _, guard := none } 28 _ rfl rfl (by rfl) (by go_simp; try first | with_reducible rfl | exact ⟨rfl, rfl⟩) ?_
  refine (zzPeriodic_any f s rev2 own ps v' w3 ((Rp.slice Rp.pe).toAny ho.slice) hl).mono ?_; rintro e w4 ⟨v2, rfl, h4, e4⟩; refine ⟨_, rfl, e4, ?_⟩; simp only [Act.put, List.setIfInBounds_toArray, List.set_cons_zero, List.set_cons_succ]
  refine wpS_quiet (some 10) { dst := some 10, op := Op.assign (Operand.tmp 19), type := _, pos := _, after := _, guard := none } _ rfl rfl (by rfl) (fun wE hE => by (go_simp; try with_reducible rfl)) ?_; simp only [Act.put, List.setIfInBounds_toArray, List.set_cons_zero, List.set_cons_succ]
  change Exit.then _ _ _ _ _
  have HF : Hid (IdsAns (periodicD f s rev2 own ps) w (.returned v2) w4) := Lib.hid ⟨v2, rfl, h4, (E0.trans (e1.undrew.trans e2)).trans (e3.trans e4)⟩
  clear h4 e4 e3 e2 e1 ho c0 c1 c2 d0 d1 d2 K1 K2
  go_wp2
  go_ret
  exact HF.out

theorem one_slice {W : World} {b : Nat} {T : TypeId} {x : Int} (K : Blk W b T [.int .u64 x]) : (Rp.slice Rp.u64).K W any [x] [.slice (some ⟨b, 0, none⟩) 1 1] :=
  slice_of_blk (xs := [x]) K trivial (by simp [Rp.u64, Rp.flat]) (fun i y hy => by cases i with | zero => simp at hy; subst hy; exact ⟨rfl, trivial⟩ | succ n => simp at hy) (Nat.le_refl _) (by decide)
theorem find_first {f : CkD → Bool} : ∀ {ps : List CkD} {k : Nat} {p : CkD}, ps[k]? = some p → (ps.take k).any f = false → f p = true → ps.find? f = some p
  | [], k, p, h, _, _ => by simp at h
  | q :: ps, 0, p, h, _, hp => by
    simp only [List.getElem?_cons_zero, Option.some.injEq] at h
    subst h
    rw [List.find?_cons, hp]
  | q :: ps, k + 1, p, h, ha, hp => by
    simp only [List.take_succ_cons, List.any_cons, Bool.or_eq_false_iff] at ha
    rw [List.find?_cons, ha.1]
    exact find_first (by simpa using h) ha.2 hp
theorem find_none {f : CkD → Bool} {ps : List CkD} (h : ps.any f = false) : ps.find? f = none := by
  rw [List.find?_eq_none]
  intro p hp hf
  rw [List.any_eq_false] at h
  exact h p hp hf
end Go.Proofs.Ythnhgfpkmbgkdaa
