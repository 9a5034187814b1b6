/-
  FnLruAnswers: what the law asks beside the two caches: the bounds, the comparison of two answers, the check that the cache is alive; the operations that come in.
-/
import Derived.Test.YtphhkphibdiahaaLn
import Derived.Test.YtphhkphibdiahaaLs
import Derived.Test.YtphhkphibdiahaaShelf
import Derived.Handy
import Derived.Laws.EntriesVeiled
import Derived.Deep.LoopGhost
namespace Go.Proofs.Ytphhkphibdiahaa
open Go.RowKit
set_option linter.unusedSimpArgs false
set_option linter.unusedVariables false

theorem own : ownKnob Try.prog.godebug = none := by kernel_rfl
theorem laidOut : laidOutB Try.prog = true := by kernel_rfl
theorem Opens.of {α : Type} {P : Program} {t : TypeId} {d d' : Rp α} (h : Opens P t d) (hd : ∀ w a cs, d.K w any a cs → d'.K w any a cs) : Opens P t d' :=
  fun enc w base sp held fuel cs x hx => by obtain ⟨a, ha⟩ := h enc w base sp held fuel cs x hx; exact ⟨a, hd w a cs ha⟩
theorem op_opens : Opens Try.prog 32 Rp.op :=
  Opens.of (Opens.iso (Opens.struct Try.underlying32 (by kernel_rfl) (OpensF.cons rfl (by kernel_rfl) (Opens.int Try.underlying3) (OpensF.cons rfl (by kernel_rfl) (Opens.int Try.underlying3) (OpensF.one rfl (by kernel_rfl) (Opens.int Try.underlying3)))))
    (fun p : OpD => (p.kind, p.key, p.val)) (fun x => ⟨x.1, x.2.1, x.2.2⟩) (fun _ => rfl))
    (fun w a cs h => by
      obtain ⟨c1, c2, rfl, h1, c3, c4, rfl, h2, h3⟩ := h
      obtain ⟨rfl, _⟩ := h1
      obtain ⟨rfl, _⟩ := h2
      obtain ⟨rfl, _⟩ := h3
      exact ⟨rfl, trivial⟩)
theorem ops_opens : Opens Try.prog 22 (Rp.slice Rp.op) := Opens.slice Try.underlying22 (by kernel_rfl) (by decide) op_opens

/-! ### Numbers that are read -/
theorem cells_of {w : World} {ok : Nat → Prop} {xs : List Int} {b o n cap : Nat} (h : (Rp.slice Rp.iv).K w ok xs [.slice (some ⟨b, o, none⟩) n cap]) : n = xs.length ∧ ∀ j, j < xs.length → w.cell? ⟨b, o + j, none⟩ = some (.int .i64 (xs.getD j 0)) := by
  obtain ⟨A, c, hv, h1, h2, h3, hrow⟩ := h
  simp only [List.cons.injEq, Value.slice.injEq, and_true] at hv
  obtain ⟨rfl, rfl, rfl⟩ := hv
  refine ⟨rfl, fun j hj => ?_⟩
  obtain ⟨cs, hl, hK, hc⟩ := hrow.at rfl (List.getElem?_eq_getElem hj)
  obtain ⟨rfl, _⟩ := hK
  have := hc 0 (Nat.lt_succ_self 0)
  rw [show o + j = o + (j * Rp.iv.sz + 0) by show o + j = o + (j * 1 + 0); omega]
  rw [show (xs.getD j 0) = xs[j] by simp [hj]]
  exact this
theorem slice_shape {α : Type} {d : Rp α} {w : World} {ok : Nat → Prop} {xs : List α} {v : Value} (h : (Rp.slice d).K w ok xs [v]) : ∃ A cap, v = .slice A xs.length cap ∧ xs.length ≤ cap ∧ cap ≤ maxLen ∧ (xs ≠ [] → ∃ b o, A = some ⟨b, o, none⟩) := by
  obtain ⟨A, cap, hv, h1, h2, h3, hrow⟩ := h
  simp only [List.cons.injEq, and_true] at hv
  refine ⟨A, cap, hv, h1, h2, fun hn => ?_⟩
  obtain ⟨b, o, rfl, _⟩ := hrow.addr hn
  exact ⟨b, o, rfl⟩
theorem equal_read (xs ys : List Int) (v u : Value) {ok ok' : Nat → Prop} (w : World) (h : (Rp.slice Rp.iv).K w ok xs [v]) (h' : (Rp.slice Rp.iv).K w ok' ys [u]) :
    Calls Try.prog 13 #[v, u] w fun e w' => e = .returned (.bool (xs == ys)) ∧ Ext w w' := by
  obtain ⟨A, cap, rfl, h1, h2, hA⟩ := slice_shape h
  obtain ⟨B, cap', rfl, h1', h2', hB⟩ := slice_shape h'
  by_cases hl : xs.length = ys.length
  · cases xs with
    | nil =>
      obtain rfl : ys = [] := List.eq_nil_of_length_eq_zero hl.symm
      refine (Any.slices_Equal_int_empty Try.lays111 A B cap 0 cap' w (by omega)).mono ?_
      rintro e w' ⟨rfl, rfl⟩
      exact ⟨rfl, Ext.refl _⟩
    | cons x xs =>
      obtain ⟨b, o, rfl⟩ := hA (by simp)
      obtain ⟨b', o', rfl⟩ := hB (by intro e; subst e; simp at hl)
      refine (Any.slices_Equal_int Try.lays111 b o (x :: xs).length cap b' o' ys.length cap' (x :: xs) ys w (Nat.le_refl _) (Nat.le_refl _) (Nat.le_trans h1 h2) (Nat.le_trans h1' h2') (cells_of h).2 (cells_of h').2).mono ?_
      rintro e w' ⟨rfl, q, rfl⟩
      rw [List.take_length, List.take_length]
      exact ⟨rfl, (Ext.refl w).drewN q⟩
  · refine (Any.slices_Equal_int_lens Try.lays111 A B xs.length cap ys.length cap' w hl).mono ?_
    rintro e w' ⟨rfl, rfl⟩
    have : (xs == ys) = false := by rw [beq_eq_false_iff_ne]; rintro rfl; exact hl rfl
    exact ⟨by rw [this], Ext.refl _⟩
/-- one of the answers of a slice -/
theorem an_at {w : World} {ok : Nat → Prop} {xs : List AnD} {A : Option Addr} {n c k : Nat} {a : AnD} (h : (Rp.slice Rp.an).K w ok xs [.slice A n c]) (hk : xs[k]? = some a) :
    ∃ b o v1 v2, A = some ⟨b, o, none⟩ ∧ w.cell? ⟨b, o + k * 4, none⟩ = some (.bool a.ok) ∧ w.cell? ⟨b, o + k * 4 + 1, none⟩ = some (.int .i64 a.val) ∧ w.cell? ⟨b, o + k * 4 + 2, none⟩ = some v1 ∧ w.cell? ⟨b, o + k * 4 + 3, none⟩ = some v2 ∧ (Rp.slice Rp.iv).K w ok (outK a.out) [v1] ∧ (Rp.slice Rp.iv).K w ok (outV a.out) [v2] := by
  obtain ⟨A', c', hv, _, _, _, hrow⟩ := h
  simp only [List.cons.injEq, Value.slice.injEq, and_true] at hv
  obtain ⟨rfl, rfl, rfl⟩ := hv
  obtain ⟨b, o, rfl, _⟩ := hrow.addr (by intro e; subst e; simp at hk)
  obtain ⟨cs, hl, hK, hc⟩ := hrow.at rfl hk
  obtain ⟨v1, v2, rfl, h1, h2⟩ := Rp.an_get hK
  have hsz : Rp.an.sz = 4 := rfl
  rw [hsz] at hc
  exact ⟨b, o, v1, v2, rfl, hc 0 (by decide), hc 1 (by decide), hc 2 (by decide), hc 3 (by decide), h1, h2⟩

/-! ### The same answer -/
abbrev anV (ok : Bool) (val : Int) (v1 v2 : Value) : Value := .agg #[.bool ok, .int .i64 val, v1, v2]
set_option maxRecDepth 20000 in
set_option maxHeartbeats 1000000 in
theorem same_any (a : AnD) (v1 v2 u1 u2 : Value) {o1 o2 o3 o4 : Nat → Prop} (w : World) (h1 : (Rp.slice Rp.iv).K w o1 (outK a.out) [v1]) (h2 : (Rp.slice Rp.iv).K w o2 (outV a.out) [v2]) (g1 : (Rp.slice Rp.iv).K w o3 (outK a.out) [u1]) (g2 : (Rp.slice Rp.iv).K w o4 (outV a.out) [u2]) :
    Calls Try.prog 8 #[anV a.ok a.val v1 v2, anV a.ok a.val u1 u2] w fun e w' => e = .returned (.bool true) ∧ Ext w w' := by
  obtain ⟨n1, hn1⟩ : ∃ n1, n1 = (outK a.out).length := ⟨_, rfl⟩
  obtain ⟨n2, hn2⟩ : ∃ n2, n2 = (outV a.out).length := ⟨_, rfl⟩
  obtain ⟨A1, c1, rfl, _⟩ := slice_shape h1
  obtain ⟨A2, c2, rfl, _⟩ := slice_shape h2
  obtain ⟨A3, c3, rfl, _⟩ := slice_shape g1
  obtain ⟨A4, c4, rfl, _⟩ := slice_shape g2
  rw [← hn1] at h1 g1 ⊢
  rw [← hn2] at h2 g2 ⊢
  have H1 := Lib.hid h1
  have H2 := Lib.hid h2
  have G1 := Lib.hid g1
  have G2 := Lib.hid g2
  clear h1 h2 g1 g2 hn1 hn2
  go_enter Try.func8, Try.ntmps8
  go_upto_region 1 with fail
  have EB := ((Ext.refl w).alloc (.cells (anCells a.ok a.val (.slice A1 n1 c1) (.slice A2 n2 c2)).toArray 36)).alloc (.cells (anCells a.ok a.val (.slice A3 n1 c3) (.slice A4 n2 c4)).toArray 36)
  have KA := (Blk.new w 36 (anCells a.ok a.val (.slice A1 n1 c1) (.slice A2 n2 c2))).ext ((Ext.refl _).alloc (.cells (anCells a.ok a.val (.slice A3 n1 c3) (.slice A4 n2 c4)).toArray 36))
  have KB := blk_at (w.alloc (.cells (anCells a.ok a.val (.slice A1 n1 c1) (.slice A2 n2 c2)).toArray 36)) 36 (anCells a.ok a.val (.slice A3 n1 c3) (.slice A4 n2 c4)) (w.heap.size + 1) (by simp)
  change Code.wp _ _ _ _ ((w.alloc (.cells (anCells a.ok a.val (.slice A1 n1 c1) (.slice A2 n2 c2)).toArray 36)).alloc (.cells (anCells a.ok a.val (.slice A3 n1 c3) (.slice A4 n2 c4)).toArray 36))
  generalize (w.alloc (.cells (anCells a.ok a.val (.slice A1 n1 c1) (.slice A2 n2 c2)).toArray 36)).alloc (.cells (anCells a.ok a.val (.slice A3 n1 c3) (.slice A4 n2 c4)).toArray 36) = W at EB KA KB ⊢
  obtain ⟨b0, hb0⟩ : ∃ b0, b0 = w.heap.size := ⟨_, rfl⟩
  obtain ⟨b1, hb1⟩ : ∃ b1, b1 = w.heap.size + 1 := ⟨_, rfl⟩
  rw [← hb1] at KB ⊢
  rw [← hb0] at KA ⊢
  have x0 := KA.cell (o := 0) rfl
  have x1 := KA.cell (o := 1) rfl
  have x2 := KA.cell (o := 2) rfl
  have x3 := KA.cell (o := 3) rfl
  have y0 := KB.cell (o := 0) rfl
  have y1 := KB.cell (o := 1) rfl
  have y2 := KB.cell (o := 2) rfl
  have y3 := KB.cell (o := 3) rfl
  have bb : (a.ok == a.ok) = true := by simp
  have HQ := Lib.hid (equal_read (outK a.out) (outK a.out) _ _ W ((Rp.slice Rp.iv).ext' EB H1.out) ((Rp.slice Rp.iv).ext' EB G1.out))
  have HEB := Lib.hid EB
  have HKA := Lib.hid KA
  have HKB := Lib.hid KB
  clear EB KA KB hb0 hb1
  go_wp2_with fail
  refine HQ.out.mono ?_
  rintro e w1 ⟨rfl, e1⟩
  rw [show (outK a.out == outK a.out) = true by simp]
  have HQ2 := Lib.hid (equal_read (outV a.out) (outV a.out) _ _ w1 ((Rp.slice Rp.iv).ext' (HEB.out.trans e1) H2.out) ((Rp.slice Rp.iv).ext' (HEB.out.trans e1) G2.out))
  have ka := HKA.out.ext e1
  have kb := HKB.out.ext e1
  have x3 := ka.cell (o := 3) rfl
  have y3 := kb.cell (o := 3) rfl
  have HE1 := Lib.hid e1
  clear e1 ka kb x0 x1 x2 y0 y1 y2
  go_wp2_with fail
  refine HQ2.out.mono ?_
  rintro e w2 ⟨rfl, e2⟩
  rw [show (outV a.out == outV a.out) = true by simp]
  have HE2 := Lib.hid e2
  clear e2
  go_wp2_with fail
  go_ret
  exact ⟨rfl, (HEB.out.trans HE1.out).trans HE2.out⟩

/-! ### The bounds -/
def Good (size : Int) (most : Int) (ops : List OpD) : Prop := 0 ≤ size ∧ size ≤ 1000 ∧ ops.length ≤ 400 ∧ ∀ o ∈ ops, 1 ≤ o.kind ∧ o.kind ≤ most ∧ -1099511627776 ≤ o.key ∧ o.key ≤ 1099511627776
def GoodAns (size most : Int) (ops : List OpD) (w : World) (e : Ending) (w' : World) : Prop := ∃ b, e = .returned (.bool b) ∧ (b = true → Good size most ops) ∧ Ext w w'
set_option maxRecDepth 20000 in
set_option maxHeartbeats 1000000 in
theorem good_any (size most : Int) (ops : List OpD) (v : Value) (w : World) (h : (Rp.slice Rp.op).K w any ops [v]) :
    Calls Try.prog 5 #[.int .i64 size, v, .int .i64 most] w (GoodAns size most ops w) := by
  obtain ⟨A, cap, hv, p1, p2, p3, hrow⟩ := h
  simp only [List.cons.injEq, and_true] at hv
  subst hv
  have HR := Lib.hid hrow
  clear hrow
  go_enter Try.func5, Try.ntmps5
  by_cases g1 : size < 0
  · have d1 : decide (size < 0) = true := decide_eq_true g1
    go_wp2_with fail
    go_ret
    exact ⟨_, rfl, (fun h => by cases h), Ext.refl _⟩
  have d1 : decide (size < 0) = false := decide_eq_false g1
  by_cases g2 : 1000 < size
  · have d2 : decide (1000 < size) = true := decide_eq_true g2
    go_wp2_with fail
    go_ret
    exact ⟨_, rfl, (fun h => by cases h), Ext.refl _⟩
  have d2 : decide (1000 < size) = false := decide_eq_false g2
  by_cases g3 : 400 < (ops.length : Int)
  · have d3 : decide (400 < (ops.length : Int)) = true := decide_eq_true g3
    go_wp2_with fail
    go_ret
    exact ⟨_, rfl, (fun h => by cases h), Ext.refl _⟩
  have d3 : decide (400 < (ops.length : Int)) = false := decide_eq_false g3
  have HG := Lib.hid (show 0 ≤ size ∧ size ≤ 1000 ∧ ops.length ≤ 400 by omega)
  clear g1 g2
  go_wp2_with fail
  go_loopw [22] (fun i wr => ∃ k : Nat, i = .int .i64 k ∧ k ≤ ops.length ∧ Ext w wr ∧ Hid (∀ o ∈ ops.take k, 1 ≤ o.kind ∧ o.kind ≤ most ∧ -1099511627776 ≤ o.key ∧ o.key ≤ 1099511627776)) (fun i _ => ops.length - (intOf i).toNat)
  case atStart => exact ⟨0, rfl, Nat.zero_le _, Ext.refl _, Lib.hid (by simp)⟩
  case round =>
    obtain ⟨k, rfl, hk, hE, hI⟩ := hrel
    by_cases hlt : k < ops.length
    · obtain ⟨o, ho⟩ : ∃ o, ops[k]? = some o := ⟨_, List.getElem?_eq_getElem hlt⟩
      obtain ⟨ba, off, rfl, _⟩ := HR.out.addr (List.ne_nil_of_length_pos (by omega))
      obtain ⟨_, hc⟩ := flat_at (HR.out.ext' hE) rfl ho
      have c0 := hc 0 _ rfl
      have c1 := hc 1 _ rfl
      have c2 := hc 2 _ rfl
      simp only [Nat.add_zero, ← Nat.add_assoc] at c0 c1 c2
      have HO := Lib.hid ho
      have HE := Lib.hid hE
      clear ho hc hE
      go_upto_region 6 with fail
      have EB : Ext wr (wr.alloc (.cells (opCells o).toArray 32)) := (Ext.refl _).alloc _
      have KO := Blk.new wr 32 (opCells o)
      change Code.wp _ _ _ _ (wr.alloc (.cells (opCells o).toArray 32))
      generalize wr.alloc (.cells (opCells o).toArray 32) = W at EB KO ⊢
      have o0 := KO.cell (o := 0) rfl
      have o1 := KO.cell (o := 1) rfl
      have HEB := Lib.hid EB
      clear KO EB c0 c1 c2
      by_cases g1 : o.kind < 1
      · have d1 : decide (o.kind < 1) = true := decide_eq_true g1
        go_wp2_with fail
        go_ret
        exact ⟨_, rfl, (fun h => by cases h), HE.out.trans HEB.out⟩
      have d1 : decide (o.kind < 1) = false := decide_eq_false g1
      by_cases g2 : most < o.kind
      · have d2 : decide (most < o.kind) = true := decide_eq_true g2
        go_wp2_with fail
        go_ret
        exact ⟨_, rfl, (fun h => by cases h), HE.out.trans HEB.out⟩
      have d2 : decide (most < o.kind) = false := decide_eq_false g2
      by_cases g4 : o.key < -1099511627776
      · have d4 : decide (o.key < -1099511627776) = true := decide_eq_true g4
        go_wp2_with fail
        go_ret
        exact ⟨_, rfl, (fun h => by cases h), HE.out.trans HEB.out⟩
      have d4 : decide (o.key < -1099511627776) = false := decide_eq_false g4
      by_cases g5 : 1099511627776 < o.key
      · have d5 : decide (1099511627776 < o.key) = true := decide_eq_true g5
        go_wp2_with fail
        go_ret
        exact ⟨_, rfl, (fun h => by cases h), HE.out.trans HEB.out⟩
      have d5 : decide (1099511627776 < o.key) = false := decide_eq_false g5
      have HB := Lib.hid (show 1 ≤ o.kind ∧ o.kind ≤ most ∧ -1099511627776 ≤ o.key ∧ o.key ≤ 1099511627776 by omega)
      clear g1 g2 g4 g5
      go_wp2_with fail
      go_roundw
      case rel => exact ⟨k + 1, by simp, by omega, HE.out.trans HEB.out, Lib.hid fun p hp => by
        rw [take_snoc' HO.out, List.mem_append] at hp
        rcases hp with hp | hp
        · exact hI.out p hp
        · simp at hp; subst hp; exact HB.out⟩
      case measure => simp [intOf]; omega
    · have hke : k = ops.length := by omega
      subst hke
      go_wp2_with fail
      go_ret
      exact ⟨_, rfl, fun _ => ⟨HG.out.1, HG.out.2.1, HG.out.2.2, by have := hI.out; rwa [List.take_length] at this⟩, hE⟩

/-! ### The cache is alive -/
theorem ans_live : ansP 1 [⟨1, 1, 5⟩, ⟨2, 1, 0⟩] [] = [⟨false, 0, []⟩, ⟨true, 5, []⟩] := by kernel_rfl
set_option maxRecDepth 20000 in
set_option maxHeartbeats 1000000 in
theorem live_any (w : World) : Calls Try.prog 6 #[] w fun e w' => e = .returned (.bool true) ∧ Ext w w' := by
  go_enter Try.func6, Try.ntmps6
  go_wp2_with fail
  have E0 : Ext w (w.alloc (.cells (opCells ⟨1, 1, 5⟩ ++ opCells ⟨2, 1, 0⟩).toArray 32)) := (Ext.refl _).alloc _
  have K0 := Blk.new w 32 (opCells ⟨1, 1, 5⟩ ++ opCells ⟨2, 1, 0⟩)
  have hK : (Rp.slice Rp.op).K (w.alloc (.cells (opCells ⟨1, 1, 5⟩ ++ opCells ⟨2, 1, 0⟩).toArray 32)) any [⟨1, 1, 5⟩, ⟨2, 1, 0⟩] [.slice (some ⟨w.heap.size, 0, none⟩) 2 2] :=
    slice_of_blk (d := Rp.op) (ok := any) (cap := 2) (xs := [⟨1, 1, 5⟩, ⟨2, 1, 0⟩]) K0 trivial (by decide) (fun i x hx => by
      match i, hx with
      | 0, hx => simp at hx; subst hx; exact ⟨rfl, trivial⟩
      | 1, hx => simp at hx; subst hx; exact ⟨rfl, trivial⟩
      | i + 2, hx => simp at hx) (by decide) (by decide)
  refine (implLru_any 1 [⟨1, 1, 5⟩, ⟨2, 1, 0⟩] _ _ hK (by decide) (by decide) (by decide) (Lib.hid (by decide))).mono ?_
  rintro e w1 ⟨v', rfl, ow, e1⟩
  rw [ans_live] at ow
  obtain ⟨A, cap, rfl, _⟩ := ow.shape
  obtain ⟨b, o, v1, v2, rfl, a0, a1, _⟩ := an_at ow.slice (show ([⟨false, 0, []⟩, ⟨true, 5, []⟩] : List AnD)[1]? = some ⟨true, 5, []⟩ from rfl)
  have HE := Lib.hid (E0.trans e1)
  simp only [Nat.one_mul, Nat.add_assoc] at a0 a1
  clear ow e1 E0 K0 hK
  go_wp2_with fail
  go_ret
  exact ⟨rfl, HE.out⟩
end Go.Proofs.Ytphhkphibdiahaa
