/-
  spec.Cache: an entry goes out.
-/
import Derived.Test.YtphhkphibdiahaaLq
import Derived.Handy
import Derived.Laws.EntriesVeiled
namespace Go.Proofs.Ytphhkphibdiahaa
open Go.RowKit
set_option linter.unusedSimpArgs false
set_option linter.unusedVariables false

theorem wpS_lastS {P : Program} {ops : Array Oper} {Q : Exit → Act → World → Prop} {R : World → World → Prop} {i : Nat} {r : Sched} {a : Act} {w : World} (d : Option Tmp) (o : Oper) (ho : ops[i]? = some o) (hd : o.dst = d) (hw : Region.wanted o (yielded ops a.tmps) = true) (W' : World)
    (he : (execOp a.eval o).run P w = .ok .skip W') (h : wpS P ops Q R r (a.put d undef) W') : wpS P ops Q R (.last i r) a w := wpS_last d o undef W' ho hd hw (.inr ⟨rfl, he⟩) h
/-- two slices of numbers that grow, apart from each other -/
def OT (W : World) (B : Nat) (vO vV : Value) (xs ys : List Int) : Prop :=
  OwnP Rp.iv W (fun q => B ≤ q ∧ some q ≠ vV.ownBlock) B 3 vO xs ∧ OwnP Rp.iv W (fun q => B ≤ q ∧ some q ≠ vO.ownBlock) B 3 vV ys
namespace OT
variable {W W' : World} {B : Nat} {vO vV : Value} {xs ys : List Int}
theorem extX {M : Nat → Prop} (h : OT W B vO vV xs ys) (x : ExtX M W W') (hM : ∀ q, B ≤ q → q < W.heap.size → ¬ M q) : OT W' B vO vV xs ys :=
  ⟨h.1.extX x fun q hq hl => hM q hq.1 hl, h.2.extX x fun q hq hl => hM q hq.1 hl⟩
theorem ext (h : OT W B vO vV xs ys) (x : Ext W W') : OT W' B vO vV xs ys := h.extX (x.toX fun _ => False) fun _ _ _ h => h
theorem swap (h : OT W B vO vV xs ys) : OT W B vV vO ys xs := ⟨h.2, h.1⟩
theorem nil (W : World) (B : Nat) : OT W B (.slice none 0 0) (.slice none 0 0) [] [] := ⟨OwnP.nil _ _ _ _ _, OwnP.nil _ _ _ _ _⟩
theorem ownO (h : OT W B vO vV xs ys) : ∀ q, some q = vO.ownBlock → B ≤ q ∧ q < W.heap.size := fun q hq => h.1.own q hq.symm
theorem ownV (h : OT W B vO vV xs ys) : ∀ q, some q = vV.ownBlock → B ≤ q ∧ q < W.heap.size := fun q hq => h.2.own q hq.symm
/-- a number more in the first one -/
theorem app (h : OT W B vO vV xs ys) {b : Nat} {k : Int} (hb : Blk W b 3 [.int .i64 k]) (hB : B ≤ W.heap.size) (hn : xs.length ≤ 2000) :
    ∃ A n cap W', (Builtin.append_ #[34, 34] 34 #[vO, .slice (some ⟨b, 0, none⟩) 1 1]).run Try.prog W = .ok (.slice A n cap) W' ∧ OT W' B (.slice A n cap) vV (xs ++ [k]) ys ∧ ExtX (fun q => some q = vO.ownBlock) W W' := by
  obtain ⟨i0, hi, hz0, hz1, hz2⟩ := info_parts3 infoI
  have hvl : ∀ q, some q = vV.ownBlock → q < W.heap.size := fun q hq => (h.ownV q hq).2
  obtain ⟨v2, w2, r2, own2, g2, f2⟩ := run_app (P := Try.prog) (d := Rp.iv) (w := W) (xs := xs) 34 34 3 i0 _ 8 Try.underlying34 hi hz0 hz1 hz2 rfl h.1 (fun q hq => ⟨by omega, fun he => by have := hvl q he; omega⟩) ⟨b, 0, none⟩ 1 [.int .i64 k] [k] rfl (fun j u hu => by
    have : (⟨b, 0, none⟩ : Addr).add j = ⟨b, j, none⟩ := by unfold Addr.add; split <;> simp_all
    rw [this]; exact hb.cell hu) (one_elem (p := fun i y => Rp.iv.K _ _ y ((_ : List Value).drop (i * Rp.iv.sz) |>.take Rp.iv.sz)) ⟨rfl, trivial⟩) (by simp [maxLen]; omega) (by simp; omega) hB
  obtain ⟨A2, n2, cap2, rfl⟩ := own_shape own2
  have XA : ExtX (fun q => some q = vO.ownBlock) W w2 := (ExtX.refl _ W).grown g2 (fun q h => h.symm)
  refine ⟨A2, n2, cap2, w2, r2, ⟨own2, ?_⟩, XA⟩
  exact ((h.2.turn (ok' := fun q => (B ≤ q ∧ some q ≠ vO.ownBlock) ∧ q < W.heap.size) fun q hq hl => ⟨hq, hl⟩).extX XA (fun q hq _ h => hq.1.2 h)).turn fun q hq hl => ⟨hq.1.1, fun he => by
    rcases f2 with h | h
    · exact hq.1.2 (by rw [← h]; exact he)
    · have := h q he.symm
      have := hq.2
      omega⟩
end OT
theorem OT.keep {M : Nat → Prop} {W W' : World} {B : Nat} {vO vV : Value} {xs ys : List Int} (h : OT W B vO vV xs ys) (x : ExtX M W W') (h1 : ∀ q, some q = vO.ownBlock → ¬ M q) (h2 : ∀ q, some q = vV.ownBlock → ¬ M q) : OT W' B vO vV xs ys := ⟨own_keep h.1 x h1, own_keep h.2 x h2⟩
theorem OT.apart {W : World} {B : Nat} {vO vV : Value} {xs ys : List Int} (h : OT W B vO vV xs ys) {b : Nat} {T : TypeId} {cs : List Value} (hb : Blk W b T cs) (hT : T ≠ 3) : some b ≠ vO.ownBlock ∧ some b ≠ vV.ownBlock := by
  constructor
  · intro e
    obtain ⟨cs', h'⟩ := h.1.blk e.symm
    exact hT (hb.inj h')
  · intro e
    obtain ⟨cs', h'⟩ := h.2.blk e.symm
    exact hT (hb.inj h')
theorem OwnP.lower {α : Type} {d : Rp α} {w : World} {ok ok' : Nat → Prop} {base base' : Nat} {e : TypeId} {v : Value} {xs : List α} (h : OwnP d w ok base e v xs) (hb : base' ≤ base) (hk : ∀ q, ok q → ok' q) : OwnP d w ok' base' e v xs := by
  obtain ⟨h0, cells, h1, h2⟩ := h
  refine ⟨fun g hg => hk g (h0 g hg), cells, ⟨h1.1, ?_⟩, fun i x hx => d.mono (fun q hq => ⟨hk q hq.1, hq.2⟩) (h2 i x hx)⟩
  rcases h1.2 with hn | ⟨g, cap, cur, rfl, hbb, rest⟩
  · exact .inl hn
  · exact .inr ⟨g, cap, cur, rfl, Nat.le_trans hb hbb, rest⟩
/-- an answer under way, beside the cache -/
def AS (W : World) (B a : Nat) (ok : Bool) (val : Int) (vO vV : Value) (out : PL) : Prop := Blk W a 36 (anCells ok val vO vV) ∧ OT W B vO vV (outK out) (outV out)
def OutAns (S B c a : Nat) (size val : Int) (ao : Bool) (L out : PL) (w w' : World) : Prop := ∃ v vO vV, SC w' S c size v L ∧ AS w' B a ao val vO vV out ∧ ExtX (fun q => q = c ∨ q = a ∨ B ≤ q) w w'
def OutMid (S B c a : Nat) (size val : Int) (v : Value) (ao : Bool) (L out : PL) (w w' : World) : Prop := ∃ vO vV, SC w' S c size v L ∧ AS w' B a ao val vO vV out ∧ ExtX (fun q => q = a ∨ B ≤ q) w w'
noncomputable def ops_27_0 : Array Oper := opsAt Try.f27 0
set_option maxRecDepth 20000 in
set_option maxHeartbeats 1000000 in
theorem out_any (S B c a : Nat) (size val : Int) (v vO vV : Value) (ao : Bool) (out X Y : PL) (p : Int × Int) (w : World) (h : SC w S c size v (X ++ p :: Y)) (hA : AS w B a ao val vO vV out) (hn : (X ++ p :: Y).length ≤ 2000) (ho : out.length ≤ 1000) (hS : S ≤ w.heap.size) (hB : B ≤ w.heap.size) :
    Calls Try.prog 27 #[pv c, pv a, .int .i64 X.length] w fun e w' => e = .returned (.tuple #[]) ∧ OutAns S B c a size val ao (X ++ Y) (out ++ [p]) w w' := by
  obtain ⟨hk, hot⟩ := hA
  have a2 := hk.cell (o := 2) rfl
  have a3 := hk.cell (o := 3) rfl
  have c1 := h.2.1.cell (o := 1) rfl
  have hea := hot.apart hk (by decide)
  have hec := hot.apart h.2.1 (by decide)
  rcases h.2.2.form with ⟨rfl, hnil⟩ | ⟨g, cap, rfl, _, hcp, _⟩
  · simp at hnil
  obtain ⟨cg, kg⟩ := h.2.2.blk (g := g) rfl
  have heg := hot.apart kg (by decide)
  obtain ⟨_, _, hv, _, _, _, hrow⟩ := h.2.2.slice
  simp only [List.cons.injEq, Value.slice.injEq, and_true, true_and] at hv
  obtain ⟨rfl, rfl⟩ := hv
  obtain ⟨_, hc⟩ := flat_at hrow rfl (show (X ++ p :: Y)[X.length]? = some p by simp)
  have p0 := hc 0 _ rfl
  have p1 := hc 1 _ rfl
  simp only [Nat.add_zero, Nat.zero_add] at p0 p1
  have hlt : (X.length : Int) < ((X ++ p :: Y).length : Int) := by simp; omega
  have HS := Lib.hid h
  have HK := Lib.hid hk
  have HOT := Lib.hid hot
  obtain ⟨n, hnn⟩ : ∃ n, n = (X ++ p :: Y).length := ⟨_, rfl⟩
  rw [← hnn] at hlt c1
  have HN := Lib.hid hnn
  have hka : (outK out).length ≤ 2000 := by simp only [outK, List.length_map]; omega
  have hva : (outV out).length ≤ 2000 := by simp only [outV, List.length_map]; omega
  obtain ⟨AO, nO, cO, rfl⟩ := own_shape hot.1
  obtain ⟨AV, nV, cV, rfl⟩ := own_shape hot.2
  have hoo : ∀ q, some q = Value.ownBlock (.slice AO nO cO) → B ≤ q ∧ q < w.heap.size := hot.ownO
  have hov : ∀ q, some q = Value.ownBlock (.slice AV nV cV) → B ≤ q ∧ q < w.heap.size := hot.ownV
  clear h hrow hc kg hnn hk hot
  go_enter Try.func27, Try.ntmps27
  go_upto_region 0 with fail
  go_cut [] (fun wx => Hid (OutMid S B c a size val (.slice (some ⟨g, 0, none⟩) n cap) ao (X ++ p :: Y) (out ++ [p]) w wx))
  case first =>
    have T : OT w.drew B _ _ _ _ := HOT.out
    have KA : Blk w.drew a _ _ := HK.out
    have SCW : SC w.drew S c size _ _ := HS.out
    have XX : ExtX (fun q => q = a ∨ B ≤ q) w w.drew := ExtX.refl _ w
    have hs : B ≤ w.drew.heap.size := hB
    have hw : w.heap.size ≤ w.drew.heap.size := Nat.le_refl _
    rw [← HN.out] at SCW
    refine wp_region_schedT (ops := ops_27_0) (ExtX (fun q => some q = Value.ownBlock (.slice AO nO cO) ∨ some q = Value.ownBlock (.slice AV nV cV))) [32, 35] (.quiet 0 (.pure 1 (.quiet 2 (.quiet 3 (.quiet 4 (.quiet 5 (.quiet 6 (.quiet 7 (.quiet 8 (.quiet 9 (.quiet 10 (.quiet 11 (.quiet 12 (.quiet 13 (.quiet 16 (.quiet 17 (.quiet 18 (.quiet 19 (.quiet 20 (.quiet 21 (.quiet 22 (.quiet 23 (.quiet 24 (.quiet 25 (.quiet 26 (.quiet 27 (.loud 14 (.loud 15 (.loud 28 (.loud 29 (.quiet 30 (.quiet 31 (.last 32 (.pure 33 (.pure 34 (.last 35 (.done))))))) (.stop)) (.stop)) (.loud 28 (.loud 15 (.loud 29 (.quiet 30 (.quiet 31 (.last 32 (.pure 33 (.pure 34 (.last 35 (.done))))))) (.stop)) (.stop)) (.stop))) (.loud 28 (.loud 14 (.loud 15 (.loud 29 (.quiet 30 (.quiet 31 (.last 32 (.pure 33 (.pure 34 (.last 35 (.done))))))) (.stop)) (.stop)) (.stop)) (.stop))))))))))))))))))))))))))))) (by kernel_rfl) (ExtX.refl (fun q => some q = Value.ownBlock (.slice AO nO cO) ∨ some q = Value.ownBlock (.slice AV nV cV))) (fun _ _ _ => ExtX.trans) (by kernel_rfl) (fun _ _ d _ _ h => by cases d <;> exact h) ?_
    refine wpS_quiet (some 6) { dst := some 6, op := Op.move (Operand.tmp 1), type := _, pos := _, after := _, guard := none } _ rfl rfl (by rfl) (fun wE hE => by (go_simp; try with_reducible rfl)) ?_; simp only [Act.put, List.setIfInBounds_toArray, List.set_cons_zero, List.set_cons_succ]
    refine wpS_pure (some 7) { dst := some 7, op := Op.move (Operand.tmp 1), type := _, pos := _, after := _, guard := none } _ rfl rfl (by rfl) (fun wE => by (go_simp; try with_reducible rfl)) ?_; simp only [Act.put, List.setIfInBounds_toArray, List.set_cons_zero, List.set_cons_succ]
    refine wpS_quiet (some 8) { dst := some 8, op := Op.move (Operand.tmp 1), type := _, pos := _, after := _, guard := none } _ rfl rfl (by rfl) (fun wE hE => by (go_simp; try with_reducible rfl)) ?_; simp only [Act.put, List.setIfInBounds_toArray, List.set_cons_zero, List.set_cons_succ]
    refine wpS_quiet (some 9) { dst := some 9, op := Op.nilCheck (Operand.tmp 8), type := _, pos := _, after := _, guard := none } _ rfl rfl (by rfl) (fun wE hE => by (go_simp; try with_reducible rfl)) ?_; simp only [Act.put, List.setIfInBounds_toArray, List.set_cons_zero, List.set_cons_succ]
    refine wpS_quiet (some 10) { dst := some 10, op := Op.fieldAddr 36 (Operand.tmp 9) 2, type := _, pos := _, after := _, guard := none } _ rfl rfl (by rfl) (fun wE hE => by (go_simp; try with_reducible rfl)) ?_; simp only [Act.put, List.setIfInBounds_toArray, List.set_cons_zero, List.set_cons_succ]
    refine wpS_quiet (some 11) { dst := some 11, op := Op.load 34 (Operand.tmp 10), type := _, pos := _, after := _, guard := none } _ rfl rfl (by rfl) (fun wE hE => by (have zk0 := hE.cellS (by first | exact fun h => h.elim hea.1 hea.2 | exact fun h => h.elim hec.1 hec.2 | exact fun h => h.elim heg.1 heg.2) a2; have zk1 := hE.cellS (by first | exact fun h => h.elim hea.1 hea.2 | exact fun h => h.elim hec.1 hec.2 | exact fun h => h.elim heg.1 heg.2) a3; have zk2 := hE.cellS (by first | exact fun h => h.elim hea.1 hea.2 | exact fun h => h.elim hec.1 hec.2 | exact fun h => h.elim heg.1 heg.2) c1; have zk3 := hE.cellS (by first | exact fun h => h.elim hea.1 hea.2 | exact fun h => h.elim hec.1 hec.2 | exact fun h => h.elim heg.1 heg.2) p0; have zk4 := hE.cellS (by first | exact fun h => h.elim hea.1 hea.2 | exact fun h => h.elim hec.1 hec.2 | exact fun h => h.elim heg.1 heg.2) p1; go_simp; try with_reducible rfl)) ?_; simp only [Act.put, List.setIfInBounds_toArray, List.set_cons_zero, List.set_cons_succ]
    refine wpS_quiet (some 12) { dst := some 12, op := Op.move (Operand.tmp 0), type := _, pos := _, after := _, guard := none } _ rfl rfl (by rfl) (fun wE hE => by (go_simp; try with_reducible rfl)) ?_; simp only [Act.put, List.setIfInBounds_toArray, List.set_cons_zero, List.set_cons_succ]
    refine wpS_quiet (some 13) { dst := some 13, op := Op.nilCheck (Operand.tmp 12), type := _, pos := _, after := _, guard := none } _ rfl rfl (by rfl) (fun wE hE => by (go_simp; try with_reducible rfl)) ?_; simp only [Act.put, List.setIfInBounds_toArray, List.set_cons_zero, List.set_cons_succ]
    refine wpS_quiet (some 14) { dst := some 14, op := Op.fieldAddr 30 (Operand.tmp 13) 1, type := _, pos := _, after := _, guard := none } _ rfl rfl (by rfl) (fun wE hE => by (go_simp; try with_reducible rfl)) ?_; simp only [Act.put, List.setIfInBounds_toArray, List.set_cons_zero, List.set_cons_succ]
    refine wpS_quiet (some 15) { dst := some 15, op := Op.load 28 (Operand.tmp 14), type := _, pos := _, after := _, guard := none } _ rfl rfl (by rfl) (fun wE hE => by (have zk0 := hE.cellS (by first | exact fun h => h.elim hea.1 hea.2 | exact fun h => h.elim hec.1 hec.2 | exact fun h => h.elim heg.1 heg.2) a2; have zk1 := hE.cellS (by first | exact fun h => h.elim hea.1 hea.2 | exact fun h => h.elim hec.1 hec.2 | exact fun h => h.elim heg.1 heg.2) a3; have zk2 := hE.cellS (by first | exact fun h => h.elim hea.1 hea.2 | exact fun h => h.elim hec.1 hec.2 | exact fun h => h.elim heg.1 heg.2) c1; have zk3 := hE.cellS (by first | exact fun h => h.elim hea.1 hea.2 | exact fun h => h.elim hec.1 hec.2 | exact fun h => h.elim heg.1 heg.2) p0; have zk4 := hE.cellS (by first | exact fun h => h.elim hea.1 hea.2 | exact fun h => h.elim hec.1 hec.2 | exact fun h => h.elim heg.1 heg.2) p1; go_simp; try with_reducible rfl)) ?_; simp only [Act.put, List.setIfInBounds_toArray, List.set_cons_zero, List.set_cons_succ]
    refine wpS_quiet (some 16) { dst := some 16, op := Op.move (Operand.tmp 2), type := _, pos := _, after := _, guard := none } _ rfl rfl (by rfl) (fun wE hE => by (go_simp; try with_reducible rfl)) ?_; simp only [Act.put, List.setIfInBounds_toArray, List.set_cons_zero, List.set_cons_succ]
    refine wpS_quiet (some 17) { dst := some 17, op := Op.indexAddr 28 (Operand.tmp 15) (Operand.tmp 16), type := _, pos := _, after := _, guard := none } _ rfl rfl (by rfl) (fun wE hE => by (go_simp; try with_reducible rfl)) ?_; simp only [Act.put, List.setIfInBounds_toArray, List.set_cons_zero, List.set_cons_succ]
    refine wpS_quiet (some 18) { dst := some 18, op := Op.fieldAddr 59 (Operand.tmp 17) 0, type := _, pos := _, after := _, guard := none } _ rfl rfl (by rfl) (fun wE hE => by (go_simp; try with_reducible rfl)) ?_; simp only [Act.put, List.setIfInBounds_toArray, List.set_cons_zero, List.set_cons_succ]
    refine wpS_quiet (some 19) { dst := some 19, op := Op.load 3 (Operand.tmp 18), type := _, pos := _, after := _, guard := none } _ rfl rfl (by rfl) (fun wE hE => by (have zk0 := hE.cellS (by first | exact fun h => h.elim hea.1 hea.2 | exact fun h => h.elim hec.1 hec.2 | exact fun h => h.elim heg.1 heg.2) a2; have zk1 := hE.cellS (by first | exact fun h => h.elim hea.1 hea.2 | exact fun h => h.elim hec.1 hec.2 | exact fun h => h.elim heg.1 heg.2) a3; have zk2 := hE.cellS (by first | exact fun h => h.elim hea.1 hea.2 | exact fun h => h.elim hec.1 hec.2 | exact fun h => h.elim heg.1 heg.2) c1; have zk3 := hE.cellS (by first | exact fun h => h.elim hea.1 hea.2 | exact fun h => h.elim hec.1 hec.2 | exact fun h => h.elim heg.1 heg.2) p0; have zk4 := hE.cellS (by first | exact fun h => h.elim hea.1 hea.2 | exact fun h => h.elim hec.1 hec.2 | exact fun h => h.elim heg.1 heg.2) p1; go_simp; try with_reducible rfl)) ?_; simp only [Act.put, List.setIfInBounds_toArray, List.set_cons_zero, List.set_cons_succ]
    refine wpS_quiet (some 22) { dst := some 22, op := Op.move (Operand.tmp 1), type := _, pos := _, after := _, guard := none } _ rfl rfl (by rfl) (fun wE hE => by (go_simp; try with_reducible rfl)) ?_; simp only [Act.put, List.setIfInBounds_toArray, List.set_cons_zero, List.set_cons_succ]
    refine wpS_quiet (some 23) { dst := some 23, op := Op.nilCheck (Operand.tmp 22), type := _, pos := _, after := _, guard := none } _ rfl rfl (by rfl) (fun wE hE => by (go_simp; try with_reducible rfl)) ?_; simp only [Act.put, List.setIfInBounds_toArray, List.set_cons_zero, List.set_cons_succ]
    refine wpS_quiet (some 24) { dst := some 24, op := Op.fieldAddr 36 (Operand.tmp 23) 3, type := _, pos := _, after := _, guard := none } _ rfl rfl (by rfl) (fun wE hE => by (go_simp; try with_reducible rfl)) ?_; simp only [Act.put, List.setIfInBounds_toArray, List.set_cons_zero, List.set_cons_succ]
    refine wpS_quiet (some 25) { dst := some 25, op := Op.load 34 (Operand.tmp 24), type := _, pos := _, after := _, guard := none } _ rfl rfl (by rfl) (fun wE hE => by (have zk0 := hE.cellS (by first | exact fun h => h.elim hea.1 hea.2 | exact fun h => h.elim hec.1 hec.2 | exact fun h => h.elim heg.1 heg.2) a2; have zk1 := hE.cellS (by first | exact fun h => h.elim hea.1 hea.2 | exact fun h => h.elim hec.1 hec.2 | exact fun h => h.elim heg.1 heg.2) a3; have zk2 := hE.cellS (by first | exact fun h => h.elim hea.1 hea.2 | exact fun h => h.elim hec.1 hec.2 | exact fun h => h.elim heg.1 heg.2) c1; have zk3 := hE.cellS (by first | exact fun h => h.elim hea.1 hea.2 | exact fun h => h.elim hec.1 hec.2 | exact fun h => h.elim heg.1 heg.2) p0; have zk4 := hE.cellS (by first | exact fun h => h.elim hea.1 hea.2 | exact fun h => h.elim hec.1 hec.2 | exact fun h => h.elim heg.1 heg.2) p1; go_simp; try with_reducible rfl)) ?_; simp only [Act.put, List.setIfInBounds_toArray, List.set_cons_zero, List.set_cons_succ]
    refine wpS_quiet (some 26) { dst := some 26, op := Op.move (Operand.tmp 0), type := _, pos := _, after := _, guard := none } _ rfl rfl (by rfl) (fun wE hE => by (go_simp; try with_reducible rfl)) ?_; simp only [Act.put, List.setIfInBounds_toArray, List.set_cons_zero, List.set_cons_succ]
    refine wpS_quiet (some 27) { dst := some 27, op := Op.nilCheck (Operand.tmp 26), type := _, pos := _, after := _, guard := none } _ rfl rfl (by rfl) (fun wE hE => by (go_simp; try with_reducible rfl)) ?_; simp only [Act.put, List.setIfInBounds_toArray, List.set_cons_zero, List.set_cons_succ]
    refine wpS_quiet (some 28) { dst := some 28, op := Op.fieldAddr 30 (Operand.tmp 27) 1, type := _, pos := _, after := _, guard := none } _ rfl rfl (by rfl) (fun wE hE => by (go_simp; try with_reducible rfl)) ?_; simp only [Act.put, List.setIfInBounds_toArray, List.set_cons_zero, List.set_cons_succ]
    refine wpS_quiet (some 29) { dst := some 29, op := Op.load 28 (Operand.tmp 28), type := _, pos := _, after := _, guard := none } _ rfl rfl (by rfl) (fun wE hE => by (have zk0 := hE.cellS (by first | exact fun h => h.elim hea.1 hea.2 | exact fun h => h.elim hec.1 hec.2 | exact fun h => h.elim heg.1 heg.2) a2; have zk1 := hE.cellS (by first | exact fun h => h.elim hea.1 hea.2 | exact fun h => h.elim hec.1 hec.2 | exact fun h => h.elim heg.1 heg.2) a3; have zk2 := hE.cellS (by first | exact fun h => h.elim hea.1 hea.2 | exact fun h => h.elim hec.1 hec.2 | exact fun h => h.elim heg.1 heg.2) c1; have zk3 := hE.cellS (by first | exact fun h => h.elim hea.1 hea.2 | exact fun h => h.elim hec.1 hec.2 | exact fun h => h.elim heg.1 heg.2) p0; have zk4 := hE.cellS (by first | exact fun h => h.elim hea.1 hea.2 | exact fun h => h.elim hec.1 hec.2 | exact fun h => h.elim heg.1 heg.2) p1; go_simp; try with_reducible rfl)) ?_; simp only [Act.put, List.setIfInBounds_toArray, List.set_cons_zero, List.set_cons_succ]
    refine wpS_quiet (some 30) { dst := some 30, op := Op.move (Operand.tmp 2), type := _, pos := _, after := _, guard := none } _ rfl rfl (by rfl) (fun wE hE => by (go_simp; try with_reducible rfl)) ?_; simp only [Act.put, List.setIfInBounds_toArray, List.set_cons_zero, List.set_cons_succ]
    refine wpS_quiet (some 31) { dst := some 31, op := Op.indexAddr 28 (Operand.tmp 29) (Operand.tmp 30), type := _, pos := _, after := _, guard := none } _ rfl rfl (by rfl) (fun wE hE => by (go_simp; try with_reducible rfl)) ?_; simp only [Act.put, List.setIfInBounds_toArray, List.set_cons_zero, List.set_cons_succ]
    refine wpS_quiet (some 32) { dst := some 32, op := Op.fieldAddr 59 (Operand.tmp 31) 1, type := _, pos := _, after := _, guard := none } _ rfl rfl (by rfl) (fun wE hE => by (go_simp; try with_reducible rfl)) ?_; simp only [Act.put, List.setIfInBounds_toArray, List.set_cons_zero, List.set_cons_succ]
    refine wpS_quiet (some 33) { dst := some 33, op := Op.load 3 (Operand.tmp 32), type := _, pos := _, after := _, guard := none } _ rfl rfl (by rfl) (fun wE hE => by (have zk0 := hE.cellS (by first | exact fun h => h.elim hea.1 hea.2 | exact fun h => h.elim hec.1 hec.2 | exact fun h => h.elim heg.1 heg.2) a2; have zk1 := hE.cellS (by first | exact fun h => h.elim hea.1 hea.2 | exact fun h => h.elim hec.1 hec.2 | exact fun h => h.elim heg.1 heg.2) a3; have zk2 := hE.cellS (by first | exact fun h => h.elim hea.1 hea.2 | exact fun h => h.elim hec.1 hec.2 | exact fun h => h.elim heg.1 heg.2) c1; have zk3 := hE.cellS (by first | exact fun h => h.elim hea.1 hea.2 | exact fun h => h.elim hec.1 hec.2 | exact fun h => h.elim heg.1 heg.2) p0; have zk4 := hE.cellS (by first | exact fun h => h.elim hea.1 hea.2 | exact fun h => h.elim hec.1 hec.2 | exact fun h => h.elim heg.1 heg.2) p1; go_simp; try with_reducible rfl)) ?_; simp only [Act.put, List.setIfInBounds_toArray, List.set_cons_zero, List.set_cons_succ]
    clear a2 a3 c1 p0 p1 hlt
    refine wpS_make (some 20) { dst := some 20, op := Op.buildSlice 34 1 #[(0, Operand.tmp 19)], type := _, pos := _, after := _, guard := none } rfl rfl (by rfl) 3 [.int .i64 p.1] 1 (by go_simp; try rfl) (fun w' h => h.toX _) ?_ ?_
    rotate_right
    · skip
      refine wpS_make (some 34) { dst := some 34, op := Op.buildSlice 34 1 #[(0, Operand.tmp 33)], type := _, pos := _, after := _, guard := none } rfl rfl (by rfl) 3 [.int .i64 p.2] 1 (by go_simp; try rfl) (fun w' h => h.toX _) ?_ trivial
      intro b2 w2 hb2 e2 K2
      (have gb2 : w.heap.size ≤ b2 := by rw [hb2]; exact hw)
      replace T := T.ext e2
      replace KA := KA.ext e2
      replace SCW := SCW.ext e2
      (try replace K1 := K1.ext e2)
      replace XX := XX.trans (e2.toX _)
      replace hs := Nat.le_trans hs e2.size
      replace hw := Nat.le_trans hw e2.size
      clear hb2 e2
      simp only [Act.put, List.setIfInBounds_toArray, List.set_cons_zero, List.set_cons_succ]
      refine wpS_make (some 20) { dst := some 20, op := Op.buildSlice 34 1 #[(0, Operand.tmp 19)], type := _, pos := _, after := _, guard := none } rfl rfl (by rfl) 3 [.int .i64 p.1] 1 (by go_simp; try rfl) (fun w' h => h.toX _) ?_ trivial
      intro b1 w1 hb1 e1 K1
      (have gb1 : w.heap.size ≤ b1 := by rw [hb1]; exact hw)
      replace T := T.ext e1
      replace KA := KA.ext e1
      replace SCW := SCW.ext e1
      (try replace K2 := K2.ext e1)
      replace XX := XX.trans (e1.toX _)
      replace hs := Nat.le_trans hs e1.size
      replace hw := Nat.le_trans hw e1.size
      clear hb1 e1
      simp only [Act.put, List.setIfInBounds_toArray, List.set_cons_zero, List.set_cons_succ]
      refine wpS_upd (some 21) { dst := some 21, op := Op.call { callee := Callee.builtin Builtin.append, args := #[Operand.tmp 11, Operand.tmp 20], argTypes := #[34, 34] }, type := _, pos := _, after := _, guard := none } rfl rfl (by rfl)  ?_ trivial
      obtain ⟨AO2, nO2, cO2, w3, ro, tO, xo⟩ := T.app K1 hs hka
      refine ⟨_, w3, exec_app (.tmp 11) (.tmp 20) 34 rfl rfl rfl ro, xo.mono (fun _ _ h => .inl h), ?_⟩
      replace T := tO
      replace KA := KA.extX xo hea.1
      (replace SCW := SCW.keep xo hec.1 (fun q hq h => heg.1 (by have e := hq; simp only [Value.ownBlock, Option.some.injEq] at e; rw [← e]; exact h)))
      (try replace K2 := K2.extX xo (fun h => by have := (hoo _ h).2; omega))
      replace XX := XX.trans (xo.mono (fun q _ h => .inr (hoo q h).1))
      replace hs := Nat.le_trans hs xo.size
      replace hw := Nat.le_trans hw xo.size
      clear xo tO
      simp only [Act.put, List.setIfInBounds_toArray, List.set_cons_zero, List.set_cons_succ]
      refine wpS_upd (some 35) { dst := some 35, op := Op.call { callee := Callee.builtin Builtin.append, args := #[Operand.tmp 25, Operand.tmp 34], argTypes := #[34, 34] }, type := _, pos := _, after := _, guard := none } rfl rfl (by rfl)  ?_ trivial
      obtain ⟨AV2, nV2, cV2, w4, rv, tv, xv⟩ := T.swap.app K2 hs hva
      refine ⟨_, w4, exec_app (.tmp 25) (.tmp 34) 34 rfl rfl rfl rv, xv.mono (fun _ _ h => .inr h), ?_⟩
      replace T := tv.swap
      replace KA := KA.extX xv hea.2
      (replace SCW := SCW.keep xv hec.2 (fun q hq h => heg.2 (by have e := hq; simp only [Value.ownBlock, Option.some.injEq] at e; rw [← e]; exact h)))
      replace XX := XX.trans (xv.mono (fun q _ h => .inr (hov q h).1))
      replace hs := Nat.le_trans hs xv.size
      replace hw := Nat.le_trans hw xv.size
      clear xv tv
      simp only [Act.put, List.setIfInBounds_toArray, List.set_cons_zero, List.set_cons_succ]
      refine wpS_quiet (some 36) { dst := some 36, op := Op.nilCheck (Operand.tmp 6), type := _, pos := _, after := _, guard := none } _ rfl rfl (by rfl) (fun wE hE => by (go_simp; try with_reducible rfl)) ?_; simp only [Act.put, List.setIfInBounds_toArray, List.set_cons_zero, List.set_cons_succ]
      refine wpS_quiet (some 37) { dst := some 37, op := Op.fieldAddr 36 (Operand.tmp 36) 2, type := _, pos := _, after := _, guard := none } _ rfl rfl (by rfl) (fun wE hE => by (go_simp; try with_reducible rfl)) ?_; simp only [Act.put, List.setIfInBounds_toArray, List.set_cons_zero, List.set_cons_succ]
      refine wpS_lastS none { dst := none, op := Op.store 34 (Operand.tmp 37) (Operand.tmp 21), type := _, pos := _, after := _, guard := none } rfl rfl (by rfl) (World.setCell w4 ⟨a, 2, none⟩ (.slice AO2 nO2 cO2)) (by (have c2 := KA.cell (o := 2) rfl; have f2 := KA.frozen 2; go_simp; try rfl)) ?_
      (have na := SCW.apart KA (by decide) (by decide))
      (have ta := T.apart KA (by decide))
      replace SCW := SCW.keep (setC_E w4 a 2 (.slice AO2 nO2 cO2)) (fun e => na.1 e.symm) (fun q hq e => na.2 (e ▸ hq))
      replace T := T.keep (setC_E w4 a 2 (.slice AO2 nO2 cO2)) (fun q hq e => ta.1 (e ▸ hq)) (fun q hq e => ta.2 (e ▸ hq))
      replace KA := KA.setCell 2 (.slice AO2 nO2 cO2)
      replace XX := XX.trans (setC_X w4 a 2 (.slice AO2 nO2 cO2) (.inl rfl))
      generalize World.setCell w4 ⟨a, 2, none⟩ (.slice AO2 nO2 cO2) = w5 at SCW T KA XX ⊢
      simp only [Act.put, List.setIfInBounds_toArray, List.set_cons_zero, List.set_cons_succ]
      refine wpS_pure (some 38) { dst := some 38, op := Op.nilCheck (Operand.tmp 7), type := _, pos := _, after := _, guard := none } _ rfl rfl (by rfl) (fun wE => by (go_simp; try with_reducible rfl)) ?_; simp only [Act.put, List.setIfInBounds_toArray, List.set_cons_zero, List.set_cons_succ]
      refine wpS_pure (some 39) { dst := some 39, op := Op.fieldAddr 36 (Operand.tmp 38) 3, type := _, pos := _, after := _, guard := none } _ rfl rfl (by rfl) (fun wE => by (go_simp; try with_reducible rfl)) ?_; simp only [Act.put, List.setIfInBounds_toArray, List.set_cons_zero, List.set_cons_succ]
      refine wpS_lastS none { dst := none, op := Op.store 34 (Operand.tmp 39) (Operand.tmp 35), type := _, pos := _, after := _, guard := none } rfl rfl (by rfl) (World.setCell w5 ⟨a, 3, none⟩ (.slice AV2 nV2 cV2)) (by (have c2 := KA.cell (o := 3) rfl; have f2 := KA.frozen 3; go_simp; try rfl)) ?_
      (have na := SCW.apart KA (by decide) (by decide))
      (have ta := T.apart KA (by decide))
      replace SCW := SCW.keep (setC_E w5 a 3 (.slice AV2 nV2 cV2)) (fun e => na.1 e.symm) (fun q hq e => na.2 (e ▸ hq))
      replace T := T.keep (setC_E w5 a 3 (.slice AV2 nV2 cV2)) (fun q hq e => ta.1 (e ▸ hq)) (fun q hq e => ta.2 (e ▸ hq))
      replace KA := KA.setCell 3 (.slice AV2 nV2 cV2)
      replace XX := XX.trans (setC_X w5 a 3 (.slice AV2 nV2 cV2) (.inl rfl))
      generalize World.setCell w5 ⟨a, 3, none⟩ (.slice AV2 nV2 cV2) = w6 at SCW T KA XX ⊢
      simp only [Act.put, List.setIfInBounds_toArray, List.set_cons_zero, List.set_cons_succ]
      change Exit.then _ _ _ _ _
      go_wp2_with fail
      go_meet
      exact Lib.hid ⟨_, _, SCW, ⟨KA, by simpa [outK, outV] using T⟩, XX⟩
    intro b1 w1 hb1 e1 K1
    (have gb1 : w.heap.size ≤ b1 := by rw [hb1]; exact hw)
    replace T := T.ext e1
    replace KA := KA.ext e1
    replace SCW := SCW.ext e1
    (try replace K2 := K2.ext e1)
    replace XX := XX.trans (e1.toX _)
    replace hs := Nat.le_trans hs e1.size
    replace hw := Nat.le_trans hw e1.size
    clear hb1 e1
    simp only [Act.put, List.setIfInBounds_toArray, List.set_cons_zero, List.set_cons_succ]
    refine wpS_upd (some 21) { dst := some 21, op := Op.call { callee := Callee.builtin Builtin.append, args := #[Operand.tmp 11, Operand.tmp 20], argTypes := #[34, 34] }, type := _, pos := _, after := _, guard := none } rfl rfl (by rfl)  ?_ ?_
    rotate_right
    · skip
      refine wpS_make (some 34) { dst := some 34, op := Op.buildSlice 34 1 #[(0, Operand.tmp 33)], type := _, pos := _, after := _, guard := none } rfl rfl (by rfl) 3 [.int .i64 p.2] 1 (by go_simp; try rfl) (fun w' h => h.toX _) ?_ trivial
      intro b2 w2 hb2 e2 K2
      (have gb2 : w.heap.size ≤ b2 := by rw [hb2]; exact hw)
      replace T := T.ext e2
      replace KA := KA.ext e2
      replace SCW := SCW.ext e2
      (try replace K1 := K1.ext e2)
      replace XX := XX.trans (e2.toX _)
      replace hs := Nat.le_trans hs e2.size
      replace hw := Nat.le_trans hw e2.size
      clear hb2 e2
      simp only [Act.put, List.setIfInBounds_toArray, List.set_cons_zero, List.set_cons_succ]
      refine wpS_upd (some 21) { dst := some 21, op := Op.call { callee := Callee.builtin Builtin.append, args := #[Operand.tmp 11, Operand.tmp 20], argTypes := #[34, 34] }, type := _, pos := _, after := _, guard := none } rfl rfl (by rfl)  ?_ trivial
      obtain ⟨AO2, nO2, cO2, w3, ro, tO, xo⟩ := T.app K1 hs hka
      refine ⟨_, w3, exec_app (.tmp 11) (.tmp 20) 34 rfl rfl rfl ro, xo.mono (fun _ _ h => .inl h), ?_⟩
      replace T := tO
      replace KA := KA.extX xo hea.1
      (replace SCW := SCW.keep xo hec.1 (fun q hq h => heg.1 (by have e := hq; simp only [Value.ownBlock, Option.some.injEq] at e; rw [← e]; exact h)))
      (try replace K2 := K2.extX xo (fun h => by have := (hoo _ h).2; omega))
      replace XX := XX.trans (xo.mono (fun q _ h => .inr (hoo q h).1))
      replace hs := Nat.le_trans hs xo.size
      replace hw := Nat.le_trans hw xo.size
      clear xo tO
      simp only [Act.put, List.setIfInBounds_toArray, List.set_cons_zero, List.set_cons_succ]
      refine wpS_upd (some 35) { dst := some 35, op := Op.call { callee := Callee.builtin Builtin.append, args := #[Operand.tmp 25, Operand.tmp 34], argTypes := #[34, 34] }, type := _, pos := _, after := _, guard := none } rfl rfl (by rfl)  ?_ trivial
      obtain ⟨AV2, nV2, cV2, w4, rv, tv, xv⟩ := T.swap.app K2 hs hva
      refine ⟨_, w4, exec_app (.tmp 25) (.tmp 34) 34 rfl rfl rfl rv, xv.mono (fun _ _ h => .inr h), ?_⟩
      replace T := tv.swap
      replace KA := KA.extX xv hea.2
      (replace SCW := SCW.keep xv hec.2 (fun q hq h => heg.2 (by have e := hq; simp only [Value.ownBlock, Option.some.injEq] at e; rw [← e]; exact h)))
      replace XX := XX.trans (xv.mono (fun q _ h => .inr (hov q h).1))
      replace hs := Nat.le_trans hs xv.size
      replace hw := Nat.le_trans hw xv.size
      clear xv tv
      simp only [Act.put, List.setIfInBounds_toArray, List.set_cons_zero, List.set_cons_succ]
      refine wpS_quiet (some 36) { dst := some 36, op := Op.nilCheck (Operand.tmp 6), type := _, pos := _, after := _, guard := none } _ rfl rfl (by rfl) (fun wE hE => by (go_simp; try with_reducible rfl)) ?_; simp only [Act.put, List.setIfInBounds_toArray, List.set_cons_zero, List.set_cons_succ]
      refine wpS_quiet (some 37) { dst := some 37, op := Op.fieldAddr 36 (Operand.tmp 36) 2, type := _, pos := _, after := _, guard := none } _ rfl rfl (by rfl) (fun wE hE => by (go_simp; try with_reducible rfl)) ?_; simp only [Act.put, List.setIfInBounds_toArray, List.set_cons_zero, List.set_cons_succ]
      refine wpS_lastS none { dst := none, op := Op.store 34 (Operand.tmp 37) (Operand.tmp 21), type := _, pos := _, after := _, guard := none } rfl rfl (by rfl) (World.setCell w4 ⟨a, 2, none⟩ (.slice AO2 nO2 cO2)) (by (have c2 := KA.cell (o := 2) rfl; have f2 := KA.frozen 2; go_simp; try rfl)) ?_
      (have na := SCW.apart KA (by decide) (by decide))
      (have ta := T.apart KA (by decide))
      replace SCW := SCW.keep (setC_E w4 a 2 (.slice AO2 nO2 cO2)) (fun e => na.1 e.symm) (fun q hq e => na.2 (e ▸ hq))
      replace T := T.keep (setC_E w4 a 2 (.slice AO2 nO2 cO2)) (fun q hq e => ta.1 (e ▸ hq)) (fun q hq e => ta.2 (e ▸ hq))
      replace KA := KA.setCell 2 (.slice AO2 nO2 cO2)
      replace XX := XX.trans (setC_X w4 a 2 (.slice AO2 nO2 cO2) (.inl rfl))
      generalize World.setCell w4 ⟨a, 2, none⟩ (.slice AO2 nO2 cO2) = w5 at SCW T KA XX ⊢
      simp only [Act.put, List.setIfInBounds_toArray, List.set_cons_zero, List.set_cons_succ]
      refine wpS_pure (some 38) { dst := some 38, op := Op.nilCheck (Operand.tmp 7), type := _, pos := _, after := _, guard := none } _ rfl rfl (by rfl) (fun wE => by (go_simp; try with_reducible rfl)) ?_; simp only [Act.put, List.setIfInBounds_toArray, List.set_cons_zero, List.set_cons_succ]
      refine wpS_pure (some 39) { dst := some 39, op := Op.fieldAddr 36 (Operand.tmp 38) 3, type := _, pos := _, after := _, guard := none } _ rfl rfl (by rfl) (fun wE => by (go_simp; try with_reducible rfl)) ?_; simp only [Act.put, List.setIfInBounds_toArray, List.set_cons_zero, List.set_cons_succ]
      refine wpS_lastS none { dst := none, op := Op.store 34 (Operand.tmp 39) (Operand.tmp 35), type := _, pos := _, after := _, guard := none } rfl rfl (by rfl) (World.setCell w5 ⟨a, 3, none⟩ (.slice AV2 nV2 cV2)) (by (have c2 := KA.cell (o := 3) rfl; have f2 := KA.frozen 3; go_simp; try rfl)) ?_
      (have na := SCW.apart KA (by decide) (by decide))
      (have ta := T.apart KA (by decide))
      replace SCW := SCW.keep (setC_E w5 a 3 (.slice AV2 nV2 cV2)) (fun e => na.1 e.symm) (fun q hq e => na.2 (e ▸ hq))
      replace T := T.keep (setC_E w5 a 3 (.slice AV2 nV2 cV2)) (fun q hq e => ta.1 (e ▸ hq)) (fun q hq e => ta.2 (e ▸ hq))
      replace KA := KA.setCell 3 (.slice AV2 nV2 cV2)
      replace XX := XX.trans (setC_X w5 a 3 (.slice AV2 nV2 cV2) (.inl rfl))
      generalize World.setCell w5 ⟨a, 3, none⟩ (.slice AV2 nV2 cV2) = w6 at SCW T KA XX ⊢
      simp only [Act.put, List.setIfInBounds_toArray, List.set_cons_zero, List.set_cons_succ]
      change Exit.then _ _ _ _ _
      go_wp2_with fail
      go_meet
      exact Lib.hid ⟨_, _, SCW, ⟨KA, by simpa [outK, outV] using T⟩, XX⟩
    obtain ⟨AO2, nO2, cO2, w3, ro, tO, xo⟩ := T.app K1 hs hka
    refine ⟨_, w3, exec_app (.tmp 11) (.tmp 20) 34 rfl rfl rfl ro, xo.mono (fun _ _ h => .inl h), ?_⟩
    replace T := tO
    replace KA := KA.extX xo hea.1
    (replace SCW := SCW.keep xo hec.1 (fun q hq h => heg.1 (by have e := hq; simp only [Value.ownBlock, Option.some.injEq] at e; rw [← e]; exact h)))
    (try replace K2 := K2.extX xo (fun h => by have := (hoo _ h).2; omega))
    replace XX := XX.trans (xo.mono (fun q _ h => .inr (hoo q h).1))
    replace hs := Nat.le_trans hs xo.size
    replace hw := Nat.le_trans hw xo.size
    clear xo tO
    simp only [Act.put, List.setIfInBounds_toArray, List.set_cons_zero, List.set_cons_succ]
    refine wpS_make (some 34) { dst := some 34, op := Op.buildSlice 34 1 #[(0, Operand.tmp 33)], type := _, pos := _, after := _, guard := none } rfl rfl (by rfl) 3 [.int .i64 p.2] 1 (by go_simp; try rfl) (fun w' h => h.toX _) ?_ trivial
    intro b2 w2 hb2 e2 K2
    (have gb2 : w.heap.size ≤ b2 := by rw [hb2]; exact hw)
    replace T := T.ext e2
    replace KA := KA.ext e2
    replace SCW := SCW.ext e2
    (try replace K1 := K1.ext e2)
    replace XX := XX.trans (e2.toX _)
    replace hs := Nat.le_trans hs e2.size
    replace hw := Nat.le_trans hw e2.size
    clear hb2 e2
    simp only [Act.put, List.setIfInBounds_toArray, List.set_cons_zero, List.set_cons_succ]
    refine wpS_upd (some 35) { dst := some 35, op := Op.call { callee := Callee.builtin Builtin.append, args := #[Operand.tmp 25, Operand.tmp 34], argTypes := #[34, 34] }, type := _, pos := _, after := _, guard := none } rfl rfl (by rfl)  ?_ trivial
    obtain ⟨AV2, nV2, cV2, w4, rv, tv, xv⟩ := T.swap.app K2 hs hva
    refine ⟨_, w4, exec_app (.tmp 25) (.tmp 34) 34 rfl rfl rfl rv, xv.mono (fun _ _ h => .inr h), ?_⟩
    replace T := tv.swap
    replace KA := KA.extX xv hea.2
    (replace SCW := SCW.keep xv hec.2 (fun q hq h => heg.2 (by have e := hq; simp only [Value.ownBlock, Option.some.injEq] at e; rw [← e]; exact h)))
    replace XX := XX.trans (xv.mono (fun q _ h => .inr (hov q h).1))
    replace hs := Nat.le_trans hs xv.size
    replace hw := Nat.le_trans hw xv.size
    clear xv tv
    simp only [Act.put, List.setIfInBounds_toArray, List.set_cons_zero, List.set_cons_succ]
    refine wpS_quiet (some 36) { dst := some 36, op := Op.nilCheck (Operand.tmp 6), type := _, pos := _, after := _, guard := none } _ rfl rfl (by rfl) (fun wE hE => by (go_simp; try with_reducible rfl)) ?_; simp only [Act.put, List.setIfInBounds_toArray, List.set_cons_zero, List.set_cons_succ]
    refine wpS_quiet (some 37) { dst := some 37, op := Op.fieldAddr 36 (Operand.tmp 36) 2, type := _, pos := _, after := _, guard := none } _ rfl rfl (by rfl) (fun wE hE => by (go_simp; try with_reducible rfl)) ?_; simp only [Act.put, List.setIfInBounds_toArray, List.set_cons_zero, List.set_cons_succ]
    refine wpS_lastS none { dst := none, op := Op.store 34 (Operand.tmp 37) (Operand.tmp 21), type := _, pos := _, after := _, guard := none } rfl rfl (by rfl) (World.setCell w4 ⟨a, 2, none⟩ (.slice AO2 nO2 cO2)) (by (have c2 := KA.cell (o := 2) rfl; have f2 := KA.frozen 2; go_simp; try rfl)) ?_
    (have na := SCW.apart KA (by decide) (by decide))
    (have ta := T.apart KA (by decide))
    replace SCW := SCW.keep (setC_E w4 a 2 (.slice AO2 nO2 cO2)) (fun e => na.1 e.symm) (fun q hq e => na.2 (e ▸ hq))
    replace T := T.keep (setC_E w4 a 2 (.slice AO2 nO2 cO2)) (fun q hq e => ta.1 (e ▸ hq)) (fun q hq e => ta.2 (e ▸ hq))
    replace KA := KA.setCell 2 (.slice AO2 nO2 cO2)
    replace XX := XX.trans (setC_X w4 a 2 (.slice AO2 nO2 cO2) (.inl rfl))
    generalize World.setCell w4 ⟨a, 2, none⟩ (.slice AO2 nO2 cO2) = w5 at SCW T KA XX ⊢
    simp only [Act.put, List.setIfInBounds_toArray, List.set_cons_zero, List.set_cons_succ]
    refine wpS_pure (some 38) { dst := some 38, op := Op.nilCheck (Operand.tmp 7), type := _, pos := _, after := _, guard := none } _ rfl rfl (by rfl) (fun wE => by (go_simp; try with_reducible rfl)) ?_; simp only [Act.put, List.setIfInBounds_toArray, List.set_cons_zero, List.set_cons_succ]
    refine wpS_pure (some 39) { dst := some 39, op := Op.fieldAddr 36 (Operand.tmp 38) 3, type := _, pos := _, after := _, guard := none } _ rfl rfl (by rfl) (fun wE => by (go_simp; try with_reducible rfl)) ?_; simp only [Act.put, List.setIfInBounds_toArray, List.set_cons_zero, List.set_cons_succ]
    refine wpS_lastS none { dst := none, op := Op.store 34 (Operand.tmp 39) (Operand.tmp 35), type := _, pos := _, after := _, guard := none } rfl rfl (by rfl) (World.setCell w5 ⟨a, 3, none⟩ (.slice AV2 nV2 cV2)) (by (have c2 := KA.cell (o := 3) rfl; have f2 := KA.frozen 3; go_simp; try rfl)) ?_
    (have na := SCW.apart KA (by decide) (by decide))
    (have ta := T.apart KA (by decide))
    replace SCW := SCW.keep (setC_E w5 a 3 (.slice AV2 nV2 cV2)) (fun e => na.1 e.symm) (fun q hq e => na.2 (e ▸ hq))
    replace T := T.keep (setC_E w5 a 3 (.slice AV2 nV2 cV2)) (fun q hq e => ta.1 (e ▸ hq)) (fun q hq e => ta.2 (e ▸ hq))
    replace KA := KA.setCell 3 (.slice AV2 nV2 cV2)
    replace XX := XX.trans (setC_X w5 a 3 (.slice AV2 nV2 cV2) (.inl rfl))
    generalize World.setCell w5 ⟨a, 3, none⟩ (.slice AV2 nV2 cV2) = w6 at SCW T KA XX ⊢
    simp only [Act.put, List.setIfInBounds_toArray, List.set_cons_zero, List.set_cons_succ]
    change Exit.then _ _ _ _ _
    go_wp2_with fail
    go_meet
    exact Lib.hid ⟨_, _, SCW, ⟨KA, by simpa [outK, outV] using T⟩, XX⟩
  case rest =>
    obtain ⟨vO2, vV2, sc, as2, eb⟩ := hcut.out
    have SCm := Lib.hid sc
    have ASm := Lib.hid as2
    have EBm := Lib.hid eb
    have c1 := sc.2.1.cell (o := 1) rfl
    have HC := Lib.hid (cloneEn_any _ _ _ wc sc.2.2 hn (by simp))
    clear sc as2 eb a2 a3 p0 p1 hlt
    go_wp2_with fail
    refine HC.out.mono ?_
    rintro e w2 ⟨v2, rfl, o2, e2⟩
    have hXl : X.length ≤ 2000 := by simp at hn; omega
    have hd := delEn_any _ _ v2 X Y p w2 o2 hn
    rw [show (((X.length + 1 : Nat)) : Int) = (X.length : Int) + 1 from by omega] at hd
    have HD := Lib.hid hd
    clear hd
    have HO2 := Lib.hid o2
    have E2 := Lib.hid e2
    obtain ⟨A2, n2, cap2, rfl⟩ := own_shape o2
    clear o2 e2
    go_wp2_with fail
    refine HD.out.mono ?_
    rintro e w3 ⟨v3, rfl, o3, hv3, x3⟩
    have HO3 := Lib.hid o3
    have X3 := Lib.hid x3
    have hcs : ¬ (some c = Value.ownBlock (.slice A2 n2 cap2)) := fun he => by
      have h1 := (HO2.out.own c he.symm).1
      have h2 := SCm.out.2.1.lt
      omega
    have hsz : w.heap.size ≤ wc.heap.size := EBm.out.size
    have kc := (SCm.out.2.1.ext E2.out).extX x3 hcs
    have k1 := kc.cell (o := 1) rfl
    have f1 := kc.frozen 1
    have KC := Lib.hid kc
    obtain ⟨A3, n3, cap3, rfl⟩ := own_shape o3
    clear o3 x3 kc c1
    go_wp2_with fail
    go_end0
    have XS := setC_E w3 c 1 (.slice A3 n3 cap3)
    have hSC := SCm.out.1
    have hb2 : ∀ q, some q = Value.ownBlock (.slice A2 n2 cap2) → wc.heap.size ≤ q := fun q hq => (HO2.out.own q hq.symm).1
    have hb3 : ∀ q, some q = Value.ownBlock (.slice A3 n3 cap3) → wc.heap.size ≤ q := fun q hq => hb2 q (by rw [← hv3]; exact hq)
    have hcl := SCm.out.2.1.lt
    have XA : ExtX (fun q => some q = Value.ownBlock (.slice A2 n2 cap2) ∨ q = c) wc (w3.setCell ⟨c, 1, none⟩ (.slice A3 n3 cap3)) := ((E2.out.toX _).trans (X3.out.mono fun _ _ h => .inl h)).trans (XS.mono fun _ _ h => .inr h)
    have hac := SCm.out.apart ASm.out.1 (by decide) (by decide)
    have htc := ASm.out.2.apart SCm.out.2.1 (by decide)
    have hal := ASm.out.1.lt
    refine ⟨rfl, _, _, _, ⟨hSC, KC.out.setCell 1 (.slice A3 n3 cap3), ?_⟩, ⟨ASm.out.1.extX XA (fun h => h.elim (fun h => by have := hb2 a h; omega) hac.1), ASm.out.2.keep XA ?_ ?_⟩, ?_⟩
    · refine OwnP.lower (own_keep HO3.out XS (fun q hq e => by have := hb3 q hq; rw [show q = c from e] at this; omega)) (Nat.zero_le _) (fun q hq => by omega)
    · exact fun q hq h => h.elim (fun h => by have := (ASm.out.2.ownO q hq).2; have := hb2 q h; omega) (fun h => htc.1 (h ▸ hq))
    · exact fun q hq h => h.elim (fun h => by have := (ASm.out.2.ownV q hq).2; have := hb2 q h; omega) (fun h => htc.2 (h ▸ hq))
    · exact (EBm.out.mono fun q _ h => h.elim (fun h => .inr (.inl h)) (fun h => .inr (.inr h))).trans (XA.mono fun q _ h => h.elim (fun h => .inr (.inr (by have := hb2 q h; omega))) (fun h => .inl h))
end Go.Proofs.Ytphhkphibdiahaa
