/-
  golanglru.Cache: Clear.
-/
import Derived.Test.YtphhkphibdiahaaLg
import Derived.Handy
import Derived.Laws.EntriesVeiled
import Derived.Laws.Cover3
import Derived.Laws.IdiomRangeMap
import Derived.Deep.LoopGhost
import Derived.Carry
namespace Go.Proofs.Ytphhkphibdiahaa
open Go.RowKit
set_option linter.unusedSimpArgs false
set_option linter.unusedVariables false

abbrev prs (its : List It) : List (Int × Int) := its.map fun x => (x.k, x.v)
/-- the items at keys that are still to come -/
def atKeys (its : List It) (left : List Int) : List It := its.filter fun x => decide (x.k ∈ left)
theorem nodup_of_map {α β : Type} {f : α → β} {l : List α} (h : (l.map f).Nodup) : l.Nodup := by
  induction l with
  | nil => exact List.nodup_nil
  | cons a l ih =>
    rw [List.map_cons] at h
    obtain ⟨h1, h2⟩ := List.nodup_cons.1 h
    exact List.nodup_cons.2 ⟨fun hm => h1 (List.mem_map.2 ⟨a, hm, rfl⟩), ih h2⟩
theorem inj_of_map {α β : Type} {f : α → β} {l : List α} (h : (l.map f).Nodup) {a b : α} (ha : a ∈ l) (hb : b ∈ l) (e : f a = f b) : a = b := by
  induction l with
  | nil => cases ha
  | cons c l ih =>
    rw [List.map_cons] at h
    obtain ⟨h1, h2⟩ := List.nodup_cons.1 h
    rcases List.mem_cons.1 ha with ha | ha <;> rcases List.mem_cons.1 hb with hb | hb
    · rw [ha, hb]
    · exact absurd (List.mem_map.2 ⟨b, hb, by rw [← e, ha]⟩) h1
    · exact absurd (List.mem_map.2 ⟨a, ha, by rw [e, hb]⟩) h1
    · exact ih h2 ha hb
theorem atKeys_step {its : List It} {left : List Int} {x : It} (hn : (its.map (·.k)).Nodup) (hx : x ∈ its) (hk : x.k ∈ left) : (atKeys its left).Perm (x :: atKeys its (left.filter (fun q => decide (q ≠ x.k)))) := by
  have h1 : its.Nodup := nodup_of_map hn
  refine (List.perm_ext_iff_of_nodup (h1.filter _) (List.nodup_cons.2 ⟨?_, h1.filter _⟩)).2 fun y => ?_
  · simp [atKeys]
  · simp only [atKeys, List.mem_filter, List.mem_cons, decide_eq_true_eq, ne_eq, decide_not, Bool.not_eq_eq_eq_not, Bool.not_true, decide_eq_false_iff_not]
    constructor
    · rintro ⟨hy, hl⟩
      by_cases he : y.k = x.k
      · exact .inl (inj_of_map hn hy hx he)
      · exact .inr ⟨hy, hl, he⟩
    · rintro (rfl | ⟨hy, hl, _⟩)
      · exact ⟨hx, hk⟩
      · exact ⟨hy, hl⟩
theorem atKeys_all {its : List It} {left : List Int} (h : ∀ x ∈ its, x.k ∈ left) : atKeys its left = its := List.filter_eq_self.2 fun x hx => by simpa using h x hx
theorem atKeys_nil (its : List It) : atKeys its [] = [] := by simp [atKeys]
theorem filter_less {left : List Int} {k : Int} (hk : k ∈ left) : (left.filter (fun x => decide (x ≠ k))).length < left.length := by
  rw [List.length_filter_lt_length_iff_exists]
  exact ⟨k, hk, by simp⟩
theorem IterL.noBlk {κ : Type} {kv : κ → Value} {w : World} {b r : Nat} {l : List (κ × Value)} {left : List κ} (h : IterL kv w b r l left) {T : TypeId} {cs : List Value} (h' : Blk w r T cs) : False := by
  obtain ⟨es, clock, since, seen, c0, _, _, _, hr, _⟩ := h
  unfold Blk at h'
  rw [hr] at h'
  cases h'
/-- a range over the cache's map under way -/
def ClrInv (ok : Nat → Prop) (g l m gb : Nat) (size : Int) (its : List It) (mp : List (Int × Value)) (ps : List (Int × Int)) (r : Nat) (left : List Int) (w wr : World) : Prop :=
  ∃ v dI, LC wr ok g l m gb size its mp ∧ IterL kI wr m r mp left ∧ GN wr ok gb v (ps ++ prs dI) ∧ (dI ++ atKeys its left).Perm its ∧ ExtX ok w wr ∧ (∀ b, Mine g l m its b → b ≠ r) ∧ r ≠ gb ∧ some r ≠ v.ownBlock
def ClrAns (ok : Nat → Prop) (g gb : Nat) (size : Int) (its : List It) (ps : List (Int × Int)) (w w' : World) : Prop :=
  ∃ dI : List It, dI.Perm its ∧ RAns ok g gb size [] (ps ++ prs dI) w w'
noncomputable def ops_43_5 : Array Oper := opsAt Try.f43 5
set_option maxRecDepth 20000 in
set_option maxHeartbeats 2000000 in
theorem clear_any (ok : Nat → Prop) (g gb : Nat) (size : Int) (its : List It) (ps : List (Int × Int)) (w : World) (h : LR w ok g gb size its ps) (hlen : its.length ≤ 1001) (hn : ps.length ≤ 1000) (hok : ∀ k, w.heap.size ≤ k → ok k) :
    Calls Try.prog 43 #[pv g] w fun r w' => r = .returned (.tuple #[]) ∧ ClrAns ok g gb size its ps w w' := by
  obtain ⟨v, hg, ⟨l, m, mp, hc⟩ | ⟨hi, ho, hb⟩⟩ := h
  · have c3 := hc.G.cell (o := 3) rfl
    have c1 := hc.G.cell (o := 1) rfl
    have qf := neF gb w
    obtain ⟨w1, hrg, I1, e1, s1⟩ := IterL.start (P := Try.prog) keyI hc.M Try.underlying71
    have hC1 : LC w1 ok g l m gb size its mp := hc.keep (e1.toX fun _ => False) (fun _ _ h => h)
    have hG1 := GN.keep hg (e1.toX fun _ => False) (fun h => h) (fun _ _ h => h)
    have hlt : ∀ b, Mine g l m its b → b < w.heap.size := fun b hb => by
      rcases hb with rfl | rfl | hr | ⟨x, hx, rfl⟩
      · exact hc.G.lt
      · exact hc.M.lt
      · exact hc.L.lt hr
      · exact (hc.E x hx).lt
    have hgb := hg.2.1.lt
    have hST : ClrInv ok g l m gb size its mp ps w.heap.size (mp.map (·.1)) w w1 := ⟨v, [], hC1, I1, by simpa using hG1, by
      rw [List.nil_append, atKeys_all fun x hx => (hc.keyIn _).2 (List.mem_map.2 ⟨x, hx, rfl⟩)], e1.toX _, fun b hb => Nat.ne_of_lt (hlt b hb), by omega, fun he => by have := (hg.2.2.own _ he.symm).2; omega⟩
    have HST := Lib.hid hST
    have HM := Lib.hid hc.nk
    have HC := Lib.hid hc
    clear hST hc hg hC1 hG1 hlt hgb I1 e1 s1
    go_enter Try.func43, Try.ntmps43
    go_wp2_with fail
    clear hrg qf c1 c3
    go_loopg [] (mp.map (·.1)).length (fun gg wr => ∃ left, left.length ≤ gg ∧ Hid (ClrInv ok g l m gb size its mp ps w.heap.size left w wr))
    case atStart => exact ⟨_, Nat.le_refl _, HST⟩
    case round =>
      obtain ⟨left, hgg, hI⟩ := hrel
      obtain ⟨v, dI, ho⟩ := hI.out
      have HO := Lib.hid ho
      clear ho hI
      rcases HO.out.2.1.next (P := Try.prog) keyI 0 with ⟨h0, hnx⟩ | ⟨k9, v9, w9, hk9, hkv, hnx, HI9, X9, s9, hen⟩
      · have hw := HO.out.1.G.cell (o := 2) rfl
        have hw3 := HO.out.1.G.cell (o := 3) rfl
        have hf2 := HO.out.1.G.frozen 2
        have hf3 := HO.out.1.G.frozen 3
        replace h0 := Lib.hid h0
        go_wp2_with fail
        go_end0
        obtain ⟨h1, h2, h3, h4, h5, h6, h7, h8⟩ := HO.out
        rw [h0.out, atKeys_nil, List.append_nil] at h4
        have XA : ExtX (fun b => b = g) wr ((wr.setCell ⟨g, 2, none⟩ (.pointer none)).setCell ⟨g, 3, none⟩ (.map none)) := (setC_E _ g 2 _).trans (setC_E _ g 3 _)
        have ng := h3.apart h1.G (by decide) (by decide)
        exact ⟨rfl, dI, h4, ⟨v, h3.keep XA (fun e => ng.1 e.symm) (fun b hb e => ng.2 (e ▸ hb)), .inr ⟨rfl, h1.og, (h1.G.setCell 2 (.pointer none)).setCell 3 (.map none)⟩⟩, h5.trans (XA.mono fun b _ hb => hb ▸ h1.og)⟩
      · obtain ⟨x, hx, hxk, hxv⟩ : ∃ x ∈ its, x.k = k9 ∧ v9 = pv x.e := (HO.out.1.mo k9 v9).1 hkv
        subst hxk hxv
        have hless := filter_less hk9
        have hmn := fun b hb => HO.out.2.2.2.2.2.1 b hb
        have C9 : Hid (LC w9 ok g l m gb size its mp) := Lib.hid (HO.out.1.keep X9 (fun b hb => hmn b hb))
        have G9 : Hid (GN w9 ok gb v (ps ++ prs dI)) := Lib.hid (HO.out.2.2.1.keep X9 (fun e => HO.out.2.2.2.2.2.2.1 e.symm) (fun b hb e => HO.out.2.2.2.2.2.2.2 (e ▸ hb)))
        have I9 := Lib.hid HI9
        have HX9 := Lib.hid X9
        have HX := Lib.hid hx
        have HK9 := Lib.hid hk9
        obtain ⟨n, p, ke⟩ := C9.out.L.elem hx
        have e3 := ke.cell (o := 3) rfl
        have ta := taE x.t
        have d1 := C9.out.G.cell (o := 1) rfl
        have t0 := (C9.out.E x hx).cell (o := 0) rfl
        have t1 := (C9.out.E x hx).cell (o := 1) rfl
        have nG := G9.out.apart C9.out.G (by decide) (by decide)
        have nT := G9.out.apart (C9.out.E x hx) (by decide) (by decide)
        have hdl : (ps ++ prs dI).length ≤ 100000 := by
          have := HO.out.2.2.2.1.length_eq
          simp at this ⊢
          omega
        have hsz : w.heap.size ≤ w9.heap.size := Nat.le_trans HO.out.2.2.2.2.1.size X9.size
        clear hkv hk9 X9 s9 HI9 ke hx hmn
        go_wp2_with fail
        refine wp_region_sched (ops := ops_43_5) (ExtX (fun b => b = gb ∨ some b = v.ownBlock)) [] (.quiet 0 (.quiet 1 (.quiet 2 (.quiet 3 (.quiet 4 (.quiet 5 (.quiet 6 (.quiet 7 (.quiet 8 (.quiet 9 (.quiet 10 (.quiet 11 (.loud 12 (.done) (.stop)))))))))))))) (by kernel_rfl) (ExtX.refl (fun b => b = gb ∨ some b = v.ownBlock)) (fun _ _ _ => ExtX.trans) (by kernel_rfl) (fun _ _ d _ _ h => by cases d <;> exact h) ?_
        refine wpS_quiet (some 24) { dst := some 24, op := Op.move (Operand.tmp 0), type := _, pos := _, after := _, guard := none } _ rfl rfl (by rfl) (fun wE hE => by (go_simp; try with_reducible rfl)) ?_; simp only [Act.put, List.setIfInBounds_toArray, List.set_cons_zero, List.set_cons_succ]
        refine wpS_quiet (some 25) { dst := some 25, op := Op.nilCheck (Operand.tmp 24), type := _, pos := _, after := _, guard := none } _ rfl rfl (by rfl) (fun wE hE => by (go_simp; try with_reducible rfl)) ?_; simp only [Act.put, List.setIfInBounds_toArray, List.set_cons_zero, List.set_cons_succ]
        refine wpS_quiet (some 26) { dst := some 26, op := Op.fieldAddr 73 (Operand.tmp 25) 1, type := _, pos := _, after := _, guard := none } _ rfl rfl (by rfl) (fun wE hE => by (go_simp; try with_reducible rfl)) ?_; simp only [Act.put, List.setIfInBounds_toArray, List.set_cons_zero, List.set_cons_succ]
        refine wpS_quiet (some 27) { dst := some 27, op := Op.load 49 (Operand.tmp 26), type := _, pos := _, after := _, guard := none } _ rfl rfl (by rfl) (fun wE hE => by (have zk0 := hE.cellS (by first | exact fun h => h.elim nG.1 nG.2 | exact fun h => h.elim nT.1 nT.2) d1; have zk1 := hE.cellS (by first | exact fun h => h.elim nG.1 nG.2 | exact fun h => h.elim nT.1 nT.2) t0; have zk2 := hE.cellS (by first | exact fun h => h.elim nG.1 nG.2 | exact fun h => h.elim nT.1 nT.2) t1; go_simp; try with_reducible rfl)) ?_; simp only [Act.put, List.setIfInBounds_toArray, List.set_cons_zero, List.set_cons_succ]
        refine wpS_quiet (some 28) { dst := some 28, op := Op.move (Operand.tmp 4), type := _, pos := _, after := _, guard := none } _ rfl rfl (by rfl) (fun wE hE => by (go_simp; try with_reducible rfl)) ?_; simp only [Act.put, List.setIfInBounds_toArray, List.set_cons_zero, List.set_cons_succ]
        refine wpS_quiet (some 29) { dst := some 29, op := Op.nilCheck (Operand.tmp 28), type := _, pos := _, after := _, guard := none } _ rfl rfl (by rfl) (fun wE hE => by (go_simp; try with_reducible rfl)) ?_; simp only [Act.put, List.setIfInBounds_toArray, List.set_cons_zero, List.set_cons_succ]
        refine wpS_quiet (some 30) { dst := some 30, op := Op.fieldAddr 103 (Operand.tmp 29) 0, type := _, pos := _, after := _, guard := none } _ rfl rfl (by rfl) (fun wE hE => by (go_simp; try with_reducible rfl)) ?_; simp only [Act.put, List.setIfInBounds_toArray, List.set_cons_zero, List.set_cons_succ]
        refine wpS_quiet (some 31) { dst := some 31, op := Op.load 46 (Operand.tmp 30), type := _, pos := _, after := _, guard := none } _ rfl rfl (by rfl) (fun wE hE => by (have zk0 := hE.cellS (by first | exact fun h => h.elim nG.1 nG.2 | exact fun h => h.elim nT.1 nT.2) d1; have zk1 := hE.cellS (by first | exact fun h => h.elim nG.1 nG.2 | exact fun h => h.elim nT.1 nT.2) t0; have zk2 := hE.cellS (by first | exact fun h => h.elim nG.1 nG.2 | exact fun h => h.elim nT.1 nT.2) t1; go_simp; try with_reducible rfl)) ?_; simp only [Act.put, List.setIfInBounds_toArray, List.set_cons_zero, List.set_cons_succ]
        refine wpS_quiet (some 32) { dst := some 32, op := Op.move (Operand.tmp 4), type := _, pos := _, after := _, guard := none } _ rfl rfl (by rfl) (fun wE hE => by (go_simp; try with_reducible rfl)) ?_; simp only [Act.put, List.setIfInBounds_toArray, List.set_cons_zero, List.set_cons_succ]
        refine wpS_quiet (some 33) { dst := some 33, op := Op.nilCheck (Operand.tmp 32), type := _, pos := _, after := _, guard := none } _ rfl rfl (by rfl) (fun wE hE => by (go_simp; try with_reducible rfl)) ?_; simp only [Act.put, List.setIfInBounds_toArray, List.set_cons_zero, List.set_cons_succ]
        refine wpS_quiet (some 34) { dst := some 34, op := Op.fieldAddr 103 (Operand.tmp 33) 1, type := _, pos := _, after := _, guard := none } _ rfl rfl (by rfl) (fun wE hE => by (go_simp; try with_reducible rfl)) ?_; simp only [Act.put, List.setIfInBounds_toArray, List.set_cons_zero, List.set_cons_succ]
        refine wpS_quiet (some 35) { dst := some 35, op := Op.load 20 (Operand.tmp 34), type := _, pos := _, after := _, guard := none } _ rfl rfl (by rfl) (fun wE hE => by (have zk0 := hE.cellS (by first | exact fun h => h.elim nG.1 nG.2 | exact fun h => h.elim nT.1 nT.2) d1; have zk1 := hE.cellS (by first | exact fun h => h.elim nG.1 nG.2 | exact fun h => h.elim nT.1 nT.2) t0; have zk2 := hE.cellS (by first | exact fun h => h.elim nG.1 nG.2 | exact fun h => h.elim nT.1 nT.2) t1; go_simp; try with_reducible rfl)) ?_; simp only [Act.put, List.setIfInBounds_toArray, List.set_cons_zero, List.set_cons_succ]
        refine wpS_call (some 36) { dst := some 36, op := Op.call { callee := Callee.value (Operand.tmp 27), args := #[Operand.tmp 31, Operand.tmp 35], argTypes := #[46, 20] }, type := _, pos := _, after := _, guard := none } _ _ rfl rfl (by rfl) (by go_simp; try first | with_reducible rfl | exact ⟨rfl, rfl⟩) ?_
        refine (gone_any ok gb v _ x.k x.v w9.drew G9.out hdl (fun q hq => hok q (Nat.le_trans hsz hq))).mono ?_; rintro e w3 ⟨rfl, v3, n3, x3⟩; refine ⟨_, rfl, x3, ?_⟩; simp only [Act.put, List.setIfInBounds_toArray, List.set_cons_zero, List.set_cons_succ]
        unfold wpS
        have N3 := Lib.hid n3
        have X3 := Lib.hid x3
        clear n3 x3 d1 t0 t1 e3 ta nG nT hen hnx
        go_wp2_with fail
        go_roundg (left.length - 1)
        case measure => omega
        case rel =>
          obtain ⟨h1, h2, h3, h4, h5, h6, h7, h8⟩ := HO.out
          have hmg := C9.out.notGone G9.out
          have hrg : ¬ (w.heap.size = gb ∨ some w.heap.size = v.ownBlock) := fun h => h.elim h7 h8
          refine ⟨_, by omega, Lib.hid ⟨v3, dI ++ [x], LC.keep (w := w9.drew) { C9.out with } X3.out hmg, IterL.extX (w := w9.drew) I9.out X3.out (hmg m (.inr (.inl rfl))) hrg, ?_, ?_, ?_, h6, h7, ?_⟩⟩
          · have := N3.out; simpa [prs] using this
          · rw [List.append_assoc, List.singleton_append]
            exact (List.Perm.append_left dI (atKeys_step HM.out HX.out HK9.out)).symm.trans h4
          · refine (h5.trans (HX9.out.mono fun b _ hb => ?_)).trans ((ExtX.undrew X3.out).mono fun b _ hb => ?_)
            · exact hb ▸ hok _ (Nat.le_refl _)
            · rcases hb with e | e
              · exact e ▸ G9.out.1
              · exact (G9.out.2.2.1 b e.symm).1
          · intro he
            obtain ⟨cs, hb⟩ := N3.out.2.2.blk he.symm
            exact IterL.noBlk (IterL.extX (w := w9.drew) I9.out X3.out (hmg m (.inr (.inl rfl))) hrg) hb
  · subst hi
    have c3 := hb.cell (o := 3) rfl
    have c2 := hb.cell (o := 2) rfl
    have c1 := hb.cell (o := 1) rfl
    have f2 := hb.frozen 2
    have f3 := hb.frozen 3
    have HB := Lib.hid hb
    have HG := Lib.hid hg
    have qf := neF gb w
    have hrg := run_range_nilMap (P := Try.prog) w 71 _ _ Try.underlying71
    have hnx : ∀ ty, (Instr.next (.pointer (some ⟨w.heap.size, 0, none⟩)) false ty).run Try.prog (w.alloc (.mapIter none 0 #[] 0)) = _ := fun ty => run_next_nilMap w ty 0 0 #[]
    clear hb hg
    go_enter Try.func43, Try.ntmps43
    go_wp2_with fail
    refine wp_loop_rounds 1 ?_
    rw [rounds_succ]
    have K1 := HB.out.ext ((Ext.refl w).alloc (.mapIter none 0 #[] 0))
    have c2 := K1.cell (o := 2) rfl
    have c3 := K1.cell (o := 3) rfl
    have f2 := K1.frozen 2
    have f3 := K1.frozen 3
    clear K1
    go_wp2_with fail
    go_end0
    have XA : ExtX (fun b => b = g) w (((w.alloc (.mapIter none 0 #[] 0)).setCell ⟨g, 2, none⟩ (.pointer none)).setCell ⟨g, 3, none⟩ (.map none)) := (((((Ext.refl w).alloc _).toX _).trans (setC_E _ g 2 _)).trans (setC_E _ g 3 _))
    have ng := HG.out.apart HB.out (by decide) (by decide)
    refine ⟨rfl, [], List.Perm.refl _, ⟨v, ?_, .inr ⟨rfl, ho, ?_⟩⟩, XA.mono fun b _ hb => hb ▸ ho⟩
    · have := HG.out.keep XA (fun e => ng.1 e.symm) (fun b hb e => ng.2 (e ▸ hb))
      simpa using this
    · exact (((HB.out.ext ((Ext.refl w).alloc _)).setCell 2 (.pointer none)).setCell 3 (.map none))
end Go.Proofs.Ytphhkphibdiahaa
