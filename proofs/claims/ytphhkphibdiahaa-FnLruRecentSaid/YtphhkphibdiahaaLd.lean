/-
  A cache (golanglru.Cache) in memory, what goes out of it, and how an item is taken out.
-/
import Derived.Test.YtphhkphibdiahaaLc
import Derived.Test.YtphhkphibdiahaaRegT
import Derived.Handy
import Derived.Laws.EntriesVeiled
import Derived.Deep.LoopGhost
namespace Go.Proofs.Ytphhkphibdiahaa
open Go.RowKit
set_option linter.unusedSimpArgs false
set_option linter.unusedVariables false

theorem Blk.inj {w : World} {b : Nat} {T T' : TypeId} {cs cs' : List Value} (h : Blk w b T cs) (h' : Blk w b T' cs') : T = T' := by
  unfold Blk at h h'
  rw [h] at h'
  simp only [Option.some.injEq, Obj.cells.injEq] at h'
  exact h'.2.1
theorem MapL.noBlk {κ : Type} {kv : κ → Value} {w : World} {b : Nat} {l : List (κ × Value)} (h : MapL kv w b l) {T : TypeId} {cs : List Value} (h' : Blk w b T cs) : False := by
  obtain ⟨es, clock, hb, _⟩ := h
  unfold Blk at h'
  rw [hb] at h'
  cases h'
theorem exec_del {P : Program} {o : Oper} {a : Act} {w w' : World} (s x : Operand) (t kt : TypeId) (ho : o.op = .call { callee := .builtin .delete, args := #[s, x], argTypes := #[t, kt] }) {vs vx : Value} (hs : a.eval s = vs) (hx : a.eval x = vx)
    (hr : (Builtin.delete_ #[t, kt] o.type #[vs, vx]).run P w = .ok (.tuple #[]) w') : (execOp a.eval o).run P w = .ok (.value (.tuple #[])) w' := by
  unfold execOp
  simp only [ho, resolve, invoke, builtin, Sem.run_bind, Sem.run_pure, Result.andThen_ok, List.map_toArray, List.map_cons, List.map_nil, hs, hx, hr]

/-! ### What goes out -/
abbrev prCells (p : Int × Int) : List Value := [.int .i64 p.1, .int .i64 p.2]
def Rp.pr : Rp (Int × Int) := Rp.flat prCells 2 (by decide) (fun _ => rfl) (fun _ => rfl) (fun _ => True)
theorem infoPr : (Try.prog.info? 48).map (fun i => (i.zero, i.size, i.bytes)) = some (some (.agg #[.int .i64 0, .int .i64 0]), 2, 16) := by kernel_rfl
/-- the variable at block gb holds v, a slice of its own that reads as ps -/
def GN (w : World) (ok : Nat → Prop) (gb : Nat) (v : Value) (ps : List (Int × Int)) : Prop :=
  ok gb ∧ Blk w gb 43 [v] ∧ OwnP Rp.pr w (fun b => ok b ∧ b ≠ gb) 0 48 v ps
theorem OwnP.blk {α : Type} {d : Rp α} {w : World} {ok : Nat → Prop} {base : Nat} {e : TypeId} {v : Value} {xs : List α} (h : OwnP d w ok base e v xs) {g : Nat} (hg : v.ownBlock = some g) : ∃ cs, Blk w g e cs := by
  obtain ⟨_, cells, h1, _⟩ := h
  rcases h1.2 with ⟨rfl, _⟩ | ⟨g', cap, cur, rfl, hb, hh, _⟩
  · cases hg
  · obtain rfl : g' = g := by simpa [Value.ownBlock] using hg
    exact ⟨cur.toList, by unfold Blk; simpa using hh⟩
namespace GN
variable {w w' : World} {ok : Nat → Prop} {gb : Nat} {v : Value} {ps : List (Int × Int)}
theorem keep {M : Nat → Prop} (h : GN w ok gb v ps) (x : ExtX M w w') (h1 : ¬ M gb) (h2 : ∀ b, some b = v.ownBlock → ¬ M b) : GN w' ok gb v ps := by
  refine ⟨h.1, h.2.1.extX x h1, ?_⟩
  have h3 := h.2.2
  obtain ⟨h0, cells, h4, h5⟩ := h3
  have ho := h.2.2.own
  refine ⟨h0, cells, ⟨h4.1, ?_⟩, fun i y hy => h5 i y hy⟩
  rcases h4.2 with hn | ⟨g, cap, cur, rfl, hb, hg, rest⟩
  · exact .inl hn
  · exact .inr ⟨g, cap, cur, rfl, hb, (x.2.2.2.2 g (Array.getElem?_eq_some_iff.1 hg).1 (h2 g rfl)).trans hg, rest⟩
/-- a block of another kind is no one of its own -/
theorem apart (h : GN w ok gb v ps) {b : Nat} {T : TypeId} {cs : List Value} (hb : Blk w b T cs) (h1 : T ≠ 43) (h2 : T ≠ 48) : b ≠ gb ∧ some b ≠ v.ownBlock := by
  refine ⟨fun e => h1 (hb.inj (e ▸ h.2.1)), fun e => ?_⟩
  obtain ⟨cs', h'⟩ := h.2.2.blk e.symm
  exact h2 (hb.inj h')
theorem apartM {κ : Type} {kv : κ → Value} {l : List (κ × Value)} (h : GN w ok gb v ps) {b : Nat} (hb : MapL kv w b l) : b ≠ gb ∧ some b ≠ v.ownBlock := by
  refine ⟨fun e => hb.noBlk (e ▸ h.2.1), fun e => ?_⟩
  obtain ⟨cs', h'⟩ := h.2.2.blk e.symm
  exact hb.noBlk h'
end GN
theorem taK (k : Int) (w : World) : (Instr.typeAssert (kI k) 46 3 false).run Try.prog w = .ok (.int .i64 k) w := by kernel_rfl
theorem taV (k : Int) (w : World) : (Instr.typeAssert (kI k) 20 3 false).run Try.prog w = .ok (.int .i64 k) w := by kernel_rfl
noncomputable def ops_15_0 : Array Oper := opsAt Try.f15 0
set_option maxRecDepth 20000 in
set_option maxHeartbeats 1000000 in
theorem gone_any (ok : Nat → Prop) (gb : Nat) (v : Value) (ps : List (Int × Int)) (k u : Int) (w : World) (h : GN w ok gb v ps) (hn : ps.length ≤ 100000) (hok : ∀ k, w.heap.size ≤ k → ok k) :
    Calls Try.prog 15 #[kI k, kI u, pv gb] w fun r w' => r = .returned (.tuple #[]) ∧ ∃ v', GN w' ok gb v' (ps ++ [(k, u)]) ∧ ExtX (fun b => b = gb ∨ some b = v.ownBlock) w w' := by
  have H := Lib.hid h
  have c0 := h.2.1.cell (o := 0) rfl
  have f0 := h.2.1.frozen 0
  have hgl := h.2.1.lt
  have hsh := own_shape h.2.2
  clear h
  obtain ⟨A, n, cap, rfl⟩ := hsh
  obtain ⟨i0, hi, hz0, hz1, hz2⟩ := info_parts3 infoPr
  have ta1 := taK k
  have ta2 := taV u
  go_enter Try.func15, Try.ntmps15
  go_wp2_with fail
  refine wp_region_schedT (ops := ops_15_0) Ext [7, 8] (.quiet 0 (.quiet 1 (.quiet 2 (.quiet 3 (.quiet 4 (.quiet 5 (.loud 6 (.last 7 (.last 8 (.done))) (.stop)))))))) (by kernel_rfl) ext_refl ext_trans (by kernel_rfl) (fun _ _ d _ _ h => by cases d <;> exact h) ?_
  refine wpS_quiet (some 5) { dst := some 5, op := Op.load 43 (Operand.tmp 2), type := _, pos := _, after := _, guard := none } _ rfl rfl (by rfl) (fun wE hE => by (have zk0 := hE.cellS c0; go_simp; try with_reducible rfl)) ?_; simp only [Act.put, List.setIfInBounds_toArray, List.set_cons_zero, List.set_cons_succ]
  refine wpS_quiet (some 6) { dst := some 6, op := Op.move (Operand.tmp 0), type := _, pos := _, after := _, guard := none } _ rfl rfl (by rfl) (fun wE hE => by (go_simp; try with_reducible rfl)) ?_; simp only [Act.put, List.setIfInBounds_toArray, List.set_cons_zero, List.set_cons_succ]
  refine wpS_quiet (some 7) { dst := some 7, op := Op.typeAssert (Operand.tmp 6) 46 3 false, type := _, pos := _, after := _, guard := none } _ rfl rfl (by rfl) (fun wE hE => by (go_simp; try with_reducible rfl)) ?_; simp only [Act.put, List.setIfInBounds_toArray, List.set_cons_zero, List.set_cons_succ]
  refine wpS_quiet (some 8) { dst := some 8, op := Op.move (Operand.tmp 1), type := _, pos := _, after := _, guard := none } _ rfl rfl (by rfl) (fun wE hE => by (go_simp; try with_reducible rfl)) ?_; simp only [Act.put, List.setIfInBounds_toArray, List.set_cons_zero, List.set_cons_succ]
  refine wpS_quiet (some 9) { dst := some 9, op := Op.typeAssert (Operand.tmp 8) 20 3 false, type := _, pos := _, after := _, guard := none } _ rfl rfl (by rfl) (fun wE hE => by (go_simp; try with_reducible rfl)) ?_; simp only [Act.put, List.setIfInBounds_toArray, List.set_cons_zero, List.set_cons_succ]
  refine wpS_quiet (some 10) { dst := some 10, op := Op.build 48 #[(0, Operand.tmp 7), (1, Operand.tmp 9)], type := _, pos := _, after := _, guard := none } _ rfl rfl (by rfl) (fun wE hE => by (go_simp; try with_reducible rfl)) ?_; simp only [Act.put, List.setIfInBounds_toArray, List.set_cons_zero, List.set_cons_succ]
  refine wpS_make (some 11) { dst := some 11, op := Op.buildSlice 43 1 #[(0, Operand.tmp 10)], type := _, pos := _, after := _, guard := none } rfl rfl (by rfl) 48 (prCells (k, u)) 1 (by go_simp; try rfl) (fun w' h => h) ?_ trivial
  intro b1 w1 hb1 e1 K1
  simp only [Act.put, List.setIfInBounds_toArray, List.set_cons_zero, List.set_cons_succ]
  obtain ⟨v2, w2, r2, own2, g2, f2⟩ := run_app (P := Try.prog) (d := Rp.pr) (w := w1) (xs := ps) 43 43 48 i0 _ 16 Try.underlying43 hi hz0 hz1 hz2 rfl ((H.out.2.2.drew).ext e1) (fun q hq => ⟨hok q (Nat.le_trans e1.size hq), by have := e1.size; have h9 : w.drew.heap.size = w.heap.size := rfl; omega⟩) ⟨b1, 0, none⟩ 1 (prCells (k, u)) [(k, u)] rfl (fun j u hu => by
    have : (⟨b1, 0, none⟩ : Addr).add j = ⟨b1, j, none⟩ := by unfold Addr.add; split <;> simp_all
    rw [this]; exact K1.cell hu) (one_elem (p := fun i y => Rp.pr.K _ _ y ((_ : List Value).drop (i * Rp.pr.sz) |>.take Rp.pr.sz)) ⟨rfl, trivial⟩) (by simp [maxLen]; omega) (by simp; omega) (Nat.zero_le _)
  refine wpS_lastE (some 12) { dst := some 12, op := Op.call { callee := Callee.builtin Builtin.append, args := #[Operand.tmp 5, Operand.tmp 11], argTypes := #[43, 43] }, type := _, pos := _, after := _, guard := none } rfl rfl (by rfl) ?_
  refine ⟨_, w2, exec_app (.tmp 5) (.tmp 11) 43 rfl rfl rfl r2, ?_⟩
  simp only [Act.put, List.setIfInBounds_toArray, List.set_cons_zero, List.set_cons_succ]
  have hno : some gb ≠ Value.ownBlock (.slice A n cap) := fun he => (H.out.2.2.1 gb he.symm).2 rfl
  have K2 : Blk w2 gb 43 [.slice A n cap] := (g2.block gb (Nat.lt_of_lt_of_le hgl e1.size) hno).trans ((H.out.2.1.drew).ext e1)
  have c2 := K2.cell (o := 0) rfl
  have f2' := K2.frozen 0
  obtain ⟨A2, n2, cap2, rfl⟩ := own_shape own2
  refine wpS_last none { dst := none, op := Op.store 43 (Operand.tmp 2) (Operand.tmp 12), type := _, pos := _, after := _, guard := none } undef (World.setCell w2 ⟨gb, 0, none⟩ (.slice A2 n2 cap2)) rfl rfl (by rfl) (.inr ⟨rfl, by (go_simp; try rfl)⟩) ?_
  simp only [Act.put]
  have hsz : w.heap.size ≤ w1.heap.size := e1.size
  have X2 : ExtX (fun b => b = gb ∨ some b = Value.ownBlock (.slice A n cap)) w w2 := ((e1.undrew.toX _).grown g2 (fun q h => .inr h.symm))
  have hne2 : ∀ g, Value.ownBlock (.slice A2 n2 cap2) = some g → g ≠ gb := fun g hg => by
    rcases f2 with hf | hf
    · exact fun he => hno (by rw [← hf, ← he]; exact hg.symm)
    · have := hf g hg; omega
  unfold wpS
  go_end0
  refine ⟨rfl, _, ⟨H.out.1, K2.setCell 0 _, ?_⟩, X2.trans (setC_X _ gb 0 _ (.inl rfl))⟩
  refine (own2.extX (M := fun b => b = gb) (setC_X _ gb 0 _ rfl) (fun q hq _ => hq.2)).turn (fun q hq _ => hq)
end Go.Proofs.Ytphhkphibdiahaa
