/-
  golanglru.Cache: Add, New.
-/
import Derived.Test.YtphhkphibdiahaaLf
import Derived.Handy
import Derived.Laws.EntriesVeiled
import Derived.Laws.Cover3
import Derived.Maps.OwnOps
import Derived.Deep.Cut
namespace Go.Proofs.Ytphhkphibdiahaa
open Go.RowKit
set_option linter.unusedSimpArgs false
set_option linter.unusedVariables false

set_option maxRecDepth 20000 in
set_option maxHeartbeats 1000000 in
theorem addHit_any (ok : Nat → Prop) (g gb : Nat) (size : Int) (X Y : List It) (x : It) (ps : List (Int × Int)) (u : Int) (w : World) (h : LR w ok g gb size (X ++ x :: Y) ps) :
    Calls Try.prog 36 #[pv g, kI x.k, kI u] w fun r w' => r = .returned (.tuple #[]) ∧ RAns ok g gb size (⟨x.e, x.t, x.k, u⟩ :: (X ++ Y)) ps w w' := by
  obtain ⟨v, hg, ⟨l, m, mp, hc⟩ | ⟨hi, ho, hb⟩⟩ := h
  · have c3 := hc.G.cell (o := 3) rfl
    have c2 := hc.G.cell (o := 2) rfl
    have q1 := emS m w
    have q2 := hc.lookHit (x := x) (by simp)
    have HM := Lib.hid (moveF_any l X Y x w hc.L)
    have HC := Lib.hid hc
    have HG := Lib.hid hg
    clear hc hg
    go_enter Try.func36, Try.ntmps36
    go_wp2_with fail
    refine HM.out.mono ?_
    rintro r w2 ⟨rfl, l2, x2⟩
    have C2 := Lib.hid (HC.out.perm l2 x2)
    have G2 := Lib.hid (HC.out.moved HG.out x2)
    obtain ⟨n, p, ke⟩ := C2.out.L.elem (x := x) (by simp)
    have e3 := ke.cell (o := 3) rfl
    have kt := C2.out.E x (by simp)
    have KT := Lib.hid kt
    have t1 := kt.cell (o := 1) rfl
    have f1 := kt.frozen 1
    have ta := taE x.t
    have X2 := Lib.hid x2
    clear l2 x2 ke kt c3 c2 q1 q2
    go_wp2_with fail
    refine bodyPost_ret (results_none rfl _ _ _) rfl ?_
    have X3 : ExtX (fun b => b = x.t) w2 (w2.setCell ⟨x.t, 1, none⟩ (kI u)) := setC_X _ x.t 1 _ rfl
    have ng := G2.out.apart KT.out (by decide) (by decide)
    refine ⟨rfl, ⟨v, G2.out.keep X3 (fun e => ng.1 e.symm) (fun b hb e => ng.2 (e ▸ hb)), .inl ⟨l, m, mp, ?_⟩⟩, (X2.out.mono fun b _ hb => HC.out.okR hb).trans (X3.mono fun b _ hb => hb ▸ (C2.out.oi x (by simp)).2)⟩
    have c := C2.out
    have hntl := (List.nodup_cons.1 c.nt).1
    exact
      { G := c.G.extX X3 (fun e => by have := (e ▸ c.G : Blk w2 x.t _ _).inj KT.out; exact absurd this (by decide))
        L := (c.L.extX X3 (fun e => c.notR KT.out (by decide) (by decide) (.inl e.symm)) (fun y hy e => c.notR KT.out (by decide) (by decide) (.inr ⟨y, hy, e⟩))).congr rfl
        E := fun y hy => by
          rcases List.mem_cons.1 hy with rfl | hy
          · exact KT.out.setCell 1 (kI u)
          · refine (c.E y (by simp [hy])).setCell_ne (p := ⟨x.t, 1, none⟩) (fun e => hntl ?_) _
            exact List.mem_map.2 ⟨y, hy, Eq.symm e⟩
        M := c.M.extX X3 (fun e => c.M.noBlk (e ▸ KT.out))
        mo := fun k u' => (c.mo k u').trans ⟨fun ⟨y, hy, e⟩ => by
            rcases List.mem_cons.1 hy with rfl | hy
            · exact ⟨⟨y.e, y.t, y.k, u⟩, by simp, e⟩
            · exact ⟨y, by simp [hy], e⟩, fun ⟨y, hy, e⟩ => by
            rcases List.mem_cons.1 hy with rfl | hy
            · exact ⟨x, by simp, e⟩
            · exact ⟨y, by simp [hy], e⟩⟩
        nk := c.nk
        nt := c.nt
        og := c.og
        ol := c.ol
        om := c.om
        oi := fun y hy => by
          rcases List.mem_cons.1 hy with rfl | hy
          · exact c.oi x (by simp)
          · exact c.oi y (by simp [hy]) }
  · simp at hi
/-- an item that is new -/
theorem LC.put {w w1 w2 : World} {ok : Nat → Prop} {g l m gb : Nat} {size : Int} {its : List It} {mp : List (Int × Value)} {x : It} (h : LC w ok g l m gb size its mp) (hk : x.k ∉ its.map (·.k)) (hl : LSt w1 l (x :: its)) (ht : Blk w1 x.t 103 (enCells x.k x.v)) (hnt : ∀ y ∈ its, y.t ≠ x.t)
    (x1 : ExtX (fun b => InR l its b) w w1) (hm : MapL kI w2 m (aput mp x.k (pv x.e))) (x2 : ExtX (fun b => b = m) w1 w2) (oe : ok x.e) (ot : ok x.t) (hem : x.e ≠ m) (htm : x.t ≠ m) : LC w2 ok g l m gb size (x :: its) (aput mp x.k (pv x.e)) := by
  have hap : aput mp x.k (pv x.e) = mp ++ [(x.k, pv x.e)] := by
    unfold aput
    rw [if_neg (fun hm => hk ((h.keyIn _).1 hm))]
  have hM1 : MapL kI w1 m mp := h.M.extX x1 h.notRm
  have kx : ∀ {b : Nat} {T : TypeId} {cs : List Value}, Blk w1 b T cs → Blk w2 b T cs := fun hb => hb.extX x2 (fun e => hM1.noBlk (e ▸ hb))
  exact
    { G := kx (h.G.extX x1 (h.notR h.G (by decide) (by decide)))
      L := hl.extX x2 (fun e => h.notRm (e ▸ .inl rfl)) (fun y hy e => by
        rcases List.mem_cons.1 hy with rfl | hy
        · exact hem e
        · exact h.notRm (e ▸ .inr ⟨y, hy, rfl⟩))
      E := fun y hy => by
        rcases List.mem_cons.1 hy with rfl | hy
        · exact kx ht
        · exact kx ((h.E y hy).extX x1 (h.notR (h.E y hy) (by decide) (by decide)))
      M := hm
      mo := fun k u => by
        rw [hap, List.mem_append, h.mo]
        constructor
        · rintro (⟨y, hy, e⟩ | h1)
          · exact ⟨y, List.mem_cons_of_mem _ hy, e⟩
          · have h1 := List.mem_singleton.1 h1
            simp only [Prod.mk.injEq] at h1
            exact ⟨x, List.mem_cons_self .., h1.1.symm, h1.2⟩
        · rintro ⟨y, hy, rfl, rfl⟩
          rcases List.mem_cons.1 hy with rfl | hy
          · exact .inr (List.mem_singleton.2 rfl)
          · exact .inl ⟨y, hy, rfl, rfl⟩
      nk := List.nodup_cons.2 ⟨hk, h.nk⟩
      nt := List.nodup_cons.2 ⟨fun hm => by obtain ⟨y, hy, e⟩ := List.mem_map.1 hm; exact hnt y hy e, h.nt⟩
      og := h.og
      ol := h.ol
      om := h.om
      oi := fun y hy => by
        rcases List.mem_cons.1 hy with rfl | hy
        · exact ⟨oe, ot⟩
        · exact h.oi y hy }
/-- what stays, and what goes out, where something new came -/
def evI (size : Int) (its : List It) : List It × List (Int × Int) := if size ≠ 0 ∧ size < its.length then (its.dropLast, (its.getLast?.map fun x => (x.k, x.v)).toList) else (its, [])
def AddAns (ok : Nat → Prop) (g gb : Nat) (size : Int) (its : List It) (ps : List (Int × Int)) (k u : Int) (w w' : World) : Prop :=
  ∃ e t, RAns ok g gb size (evI size (⟨e, t, k, u⟩ :: its)).1 (ps ++ (evI size (⟨e, t, k, u⟩ :: its)).2) w w'
theorem AddAns.mk1 {ok : Nat → Prop} {g gb : Nat} {size : Int} {its : List It} {ps : List (Int × Int)} {k u : Int} {w w' : World} {e t : Nat} (hs : ¬ (size ≠ 0 ∧ size < (its.length + 1 : Nat))) (h : RAns ok g gb size (⟨e, t, k, u⟩ :: its) ps w w') : AddAns ok g gb size its ps k u w w' :=
  ⟨e, t, by unfold evI; rw [if_neg (by simpa using hs)]; simpa using h⟩
theorem AddAns.mk2 {ok : Nat → Prop} {g gb : Nat} {size : Int} {its : List It} {ps : List (Int × Int)} {k u : Int} {w w' : World} {e t : Nat} (hs : size ≠ 0 ∧ size < (its.length + 1 : Nat)) (h : RAns ok g gb size (⟨e, t, k, u⟩ :: its).dropLast (ps ++ ((⟨e, t, k, u⟩ :: its : List It).getLast?.map fun x => (x.k, x.v)).toList) w w') : AddAns ok g gb size its ps k u w w' :=
  ⟨e, t, by unfold evI; rw [if_pos (by simpa using hs)]; exact h⟩
noncomputable def ops_36_9 : Array Oper := opsAt Try.f36 9
set_option maxRecDepth 20000 in
set_option maxHeartbeats 2000000 in
theorem addMiss_any (ok : Nat → Prop) (g gb : Nat) (size : Int) (its : List It) (ps : List (Int × Int)) (k u : Int) (w : World) (h : LR w ok g gb size its ps) (hk : k ∉ its.map (·.k)) (hlen : its.length ≤ 1000) (hn : ps.length ≤ 100000) (hs0 : 0 ≤ size) (hs1 : size ≤ 1000) (hok : ∀ k, w.heap.size ≤ k → ok k) :
    Calls Try.prog 36 #[pv g, kI k, kI u] w fun r w' => r = .returned (.tuple #[]) ∧ AddAns ok g gb size its ps k u w w' := by
  obtain ⟨v, hg, ⟨l, m, mp, hc⟩ | ⟨hi, ho, hb⟩⟩ := h
  · have c3 := hc.G.cell (o := 3) rfl
    have c2 := hc.G.cell (o := 2) rfl
    have q1 := emS m w
    have q2 := hc.lookMiss hk
    have HC := Lib.hid hc
    have HG := Lib.hid hg
    have X0 : ExtX ok w w := ExtX.refl _ _
    have hok0 := hok
    clear hc hg
    go_enter Try.func36, Try.ntmps36
    -- w: LC ('HC'), GN ('HG'), 'X0' : ExtX ok w w, 'hok0'
    have HP := Lib.hid (pushF_any l w.heap.size its (w.alloc (.cells #[kI k, kI u] 103)) (HC.out.L.ext ((Ext.refl _).alloc _)) hlen)
    go_wp2_with fail
    refine HP.out.mono ?_
    rintro r w1 ⟨e, rfl, he, l1, x1⟩
    have EA : Ext w (w.alloc (.cells #[kI k, kI u] 103)) := (Ext.refl _).alloc _
    have XA : ExtX (fun b => InR l its b) w w1 := (EA.toX _).trans x1
    have hrlt : ∀ b, InR l its b → b < w.heap.size := fun b hb => HC.out.L.lt hb
    have hte : Hid (Blk w1 w.heap.size 103 (enCells k u)) := Lib.hid ((Blk.new w 103 (enCells k u)).extX x1 (fun hr => Nat.lt_irrefl _ (hrlt _ hr)))
    have hes : e = w.heap.size + 1 := by rw [he]; simp
    have L1 := Lib.hid (l1 k u)
    have HXA := Lib.hid XA
    have G1 : Hid (Blk w1 g _ _) := Lib.hid (HC.out.G.extX XA (HC.out.notR HC.out.G (by decide) (by decide)))
    have M1 : MapL kI w1 m mp := HC.out.M.extX XA HC.out.notRm
    have N1 := Lib.hid (HC.out.moved HG.out XA)
    obtain ⟨w2, hput, m2, x2, s2⟩ := M1.put (P := Try.prog) keyI Try.underlying71 k (pv e)
    have hml := HC.out.M.lt
    have htl : ∀ y ∈ its, y.t < w.heap.size := fun y hy => (HC.out.E y hy).lt
    have C2 : Hid (LC w2 ok g l m gb size (⟨e, w.heap.size, k, u⟩ :: its) (aput mp k (pv e))) := Lib.hid (LC.put (x := ⟨e, w.heap.size, k, u⟩) HC.out hk L1.out hte.out (fun y hy => Nat.ne_of_lt (htl y hy)) XA m2 x2 (hok0 e (by omega)) (hok0 _ (Nat.le_refl _)) (by show e ≠ m; omega) (by show w.heap.size ≠ m; omega))
    have nm := N1.out.apartM M1
    have N2 : Hid (GN w2 ok gb v ps) := Lib.hid (N1.out.keep x2 (fun e => nm.1 e.symm) (fun b hb e => nm.2 (e ▸ hb)))
    have X2 : Hid (ExtX ok w w2) := Lib.hid ((X0.trans (XA.mono fun b _ hb => HC.out.okR hb)).trans (x2.mono fun b _ hb => hb ▸ HC.out.om))
    have d3 := G1.out.cell (o := 3) rfl
    clear x1 XA l1 m2 he hes hrlt hml htl nm x2 s2 M1 EA hk
    go_wp2_with fail
    clear d3 hput
    have d0 := C2.out.G.cell (o := 0) rfl
    have d2 := C2.out.G.cell (o := 2) rfl
    by_cases hz : size = 0
    · have hz' : size = 0 := hz
      rw [hz'] at d0
      replace hz := Lib.hid hz
      clear hz'
      refine wp_region_sched (ops := ops_36_9) Ext [] (.quiet 0 (.quiet 1 (.quiet 2 (.quiet 3 (.quiet 4 (.quiet 5 (.quiet 6 (.quiet 7 (.quiet 8 (.quiet 9 (.quiet 11 (.quiet 12 (.quiet 13 (.quiet 14 (.loud 10 (.quiet 15 (.quiet 16 (.done))) (.stop)))))))))))))))) (by kernel_rfl) ext_refl ext_trans (by kernel_rfl) (fun _ _ d _ _ h => by cases d <;> exact h) ?_
      refine wpS_quiet (some 62) { dst := some 62, op := Op.move (Operand.tmp 0), type := _, pos := _, after := _, guard := none } _ rfl rfl (by rfl) (fun wE hE => by (go_simp; try with_reducible rfl)) ?_; simp only [Act.put, List.setIfInBounds_toArray, List.set_cons_zero, List.set_cons_succ]
      refine wpS_quiet (some 63) { dst := some 63, op := Op.nilCheck (Operand.tmp 62), type := _, pos := _, after := _, guard := none } _ rfl rfl (by rfl) (fun wE hE => by (go_simp; try with_reducible rfl)) ?_; simp only [Act.put, List.setIfInBounds_toArray, List.set_cons_zero, List.set_cons_succ]
      refine wpS_quiet (some 64) { dst := some 64, op := Op.fieldAddr 73 (Operand.tmp 63) 0, type := _, pos := _, after := _, guard := none } _ rfl rfl (by rfl) (fun wE hE => by (go_simp; try with_reducible rfl)) ?_; simp only [Act.put, List.setIfInBounds_toArray, List.set_cons_zero, List.set_cons_succ]
      refine wpS_quiet (some 65) { dst := some 65, op := Op.load 3 (Operand.tmp 64), type := _, pos := _, after := _, guard := none } _ rfl rfl (by rfl) (fun wE hE => by (have zk0 := hE.cellS d0; have zk1 := hE.cellS d2; go_simp; try with_reducible rfl)) ?_; simp only [Act.put, List.setIfInBounds_toArray, List.set_cons_zero, List.set_cons_succ]
      refine wpS_quiet (some 66) { dst := some 66, op := Op.binOp BinOp.neq 3 (Operand.tmp 65) (Operand.const (Value.int IntKind.i64 0)) 3, type := _, pos := _, after := _, guard := none } _ rfl rfl (by rfl) (fun wE hE => by (go_simp; try with_reducible rfl)) ?_; simp only [Act.put, List.setIfInBounds_toArray, List.set_cons_zero, List.set_cons_succ]
      refine wpS_quiet (some 67) { dst := some 67, op := Op.move (Operand.tmp 66), type := _, pos := _, after := _, guard := none } _ rfl rfl (by rfl) (fun wE hE => by (go_simp; try with_reducible rfl)) ?_; simp only [Act.put, List.setIfInBounds_toArray, List.set_cons_zero, List.set_cons_succ]
      (first | refine wpS_quiet (some 68) { dst := some 68, op := Op.move (Operand.tmp 0), type := _, pos := _, after := _, guard := some (5, true) } _ rfl rfl (by rfl) (fun wE hE => by (go_simp; try with_reducible rfl)) ?_ | refine wpS_pass (some 68) _ rfl rfl (by rfl) ?_); simp only [Act.put, List.setIfInBounds_toArray, List.set_cons_zero, List.set_cons_succ]
      (first | refine wpS_quiet (some 69) { dst := some 69, op := Op.nilCheck (Operand.tmp 68), type := _, pos := _, after := _, guard := some (5, true) } _ rfl rfl (by rfl) (fun wE hE => by (go_simp; try with_reducible rfl)) ?_ | refine wpS_pass (some 69) _ rfl rfl (by rfl) ?_); simp only [Act.put, List.setIfInBounds_toArray, List.set_cons_zero, List.set_cons_succ]
      (first | refine wpS_quiet (some 70) { dst := some 70, op := Op.fieldAddr 73 (Operand.tmp 69) 2, type := _, pos := _, after := _, guard := some (5, true) } _ rfl rfl (by rfl) (fun wE hE => by (go_simp; try with_reducible rfl)) ?_ | refine wpS_pass (some 70) _ rfl rfl (by rfl) ?_); simp only [Act.put, List.setIfInBounds_toArray, List.set_cons_zero, List.set_cons_succ]
      (first | refine wpS_quiet (some 71) { dst := some 71, op := Op.load 70 (Operand.tmp 70), type := _, pos := _, after := _, guard := some (5, true) } _ rfl rfl (by rfl) (fun wE hE => by (have zk0 := hE.cellS d0; have zk1 := hE.cellS d2; go_simp; try with_reducible rfl)) ?_ | refine wpS_pass (some 71) _ rfl rfl (by rfl) ?_); simp only [Act.put, List.setIfInBounds_toArray, List.set_cons_zero, List.set_cons_succ]
      (first | refine wpS_quiet (some 73) { dst := some 73, op := Op.move (Operand.tmp 0), type := _, pos := _, after := _, guard := some (5, true) } _ rfl rfl (by rfl) (fun wE hE => by (go_simp; try with_reducible rfl)) ?_ | refine wpS_pass (some 73) _ rfl rfl (by rfl) ?_); simp only [Act.put, List.setIfInBounds_toArray, List.set_cons_zero, List.set_cons_succ]
      (first | refine wpS_quiet (some 74) { dst := some 74, op := Op.nilCheck (Operand.tmp 73), type := _, pos := _, after := _, guard := some (5, true) } _ rfl rfl (by rfl) (fun wE hE => by (go_simp; try with_reducible rfl)) ?_ | refine wpS_pass (some 74) _ rfl rfl (by rfl) ?_); simp only [Act.put, List.setIfInBounds_toArray, List.set_cons_zero, List.set_cons_succ]
      (first | refine wpS_quiet (some 75) { dst := some 75, op := Op.fieldAddr 73 (Operand.tmp 74) 0, type := _, pos := _, after := _, guard := some (5, true) } _ rfl rfl (by rfl) (fun wE hE => by (go_simp; try with_reducible rfl)) ?_ | refine wpS_pass (some 75) _ rfl rfl (by rfl) ?_); simp only [Act.put, List.setIfInBounds_toArray, List.set_cons_zero, List.set_cons_succ]
      (first | refine wpS_quiet (some 76) { dst := some 76, op := Op.load 3 (Operand.tmp 75), type := _, pos := _, after := _, guard := some (5, true) } _ rfl rfl (by rfl) (fun wE hE => by (have zk0 := hE.cellS d0; have zk1 := hE.cellS d2; go_simp; try with_reducible rfl)) ?_ | refine wpS_pass (some 76) _ rfl rfl (by rfl) ?_); simp only [Act.put, List.setIfInBounds_toArray, List.set_cons_zero, List.set_cons_succ]
      refine wpS_loud_pass (ext_refl _) (some 72) _ rfl rfl (by rfl) ?_; simp only [Act.put, List.setIfInBounds_toArray, List.set_cons_zero, List.set_cons_succ]
      (first | refine wpS_quiet (some 77) { dst := some 77, op := Op.binOp BinOp.gtr 3 (Operand.tmp 72) (Operand.tmp 76) 3, type := _, pos := _, after := _, guard := some (5, true) } _ rfl rfl (by rfl) (fun wE hE => by (go_simp; try with_reducible rfl)) ?_ | refine wpS_pass (some 77) _ rfl rfl (by rfl) ?_); simp only [Act.put, List.setIfInBounds_toArray, List.set_cons_zero, List.set_cons_succ]
      refine wpS_quiet (some 78) { dst := some 78, op := Op.pick (Operand.tmp 67) (Operand.tmp 77) (Operand.const (Value.bool false)), type := _, pos := _, after := _, guard := none } _ rfl rfl (by rfl) (fun wE hE => by (go_simp; try with_reducible rfl)) ?_; simp only [Act.put, List.setIfInBounds_toArray, List.set_cons_zero, List.set_cons_succ]
      change Exit.then _ _ _ _ _
      go_wp2_with fail
      go_end0
      exact ⟨rfl, AddAns.mk1 (fun h => h.1 hz.out) ⟨⟨v, N2.out, .inl ⟨l, m, _, { C2.out with }⟩⟩, X2.out⟩⟩
    · have bz1 : (size == 0) = false := by simpa using hz
      have bz2 : (size != 0) = true := by simpa using hz
      by_cases hbig : size < (its.length + 1 : Nat)
      · skip
        have hdec : decide (size < ((its.length + 1 : Nat) : Int)) = true := decide_eq_true hbig
        refine wp_region_sched (ops := ops_36_9) Ext [] (.quiet 0 (.quiet 1 (.quiet 2 (.quiet 3 (.quiet 4 (.quiet 5 (.quiet 6 (.quiet 7 (.quiet 8 (.quiet 9 (.quiet 11 (.quiet 12 (.quiet 13 (.quiet 14 (.loud 10 (.quiet 15 (.quiet 16 (.done))) (.stop)))))))))))))))) (by kernel_rfl) ext_refl ext_trans (by kernel_rfl) (fun _ _ d _ _ h => by cases d <;> exact h) ?_
        refine wpS_quiet (some 62) { dst := some 62, op := Op.move (Operand.tmp 0), type := _, pos := _, after := _, guard := none } _ rfl rfl (by rfl) (fun wE hE => by (go_simp; try with_reducible rfl)) ?_; simp only [Act.put, List.setIfInBounds_toArray, List.set_cons_zero, List.set_cons_succ]
        refine wpS_quiet (some 63) { dst := some 63, op := Op.nilCheck (Operand.tmp 62), type := _, pos := _, after := _, guard := none } _ rfl rfl (by rfl) (fun wE hE => by (go_simp; try with_reducible rfl)) ?_; simp only [Act.put, List.setIfInBounds_toArray, List.set_cons_zero, List.set_cons_succ]
        refine wpS_quiet (some 64) { dst := some 64, op := Op.fieldAddr 73 (Operand.tmp 63) 0, type := _, pos := _, after := _, guard := none } _ rfl rfl (by rfl) (fun wE hE => by (go_simp; try with_reducible rfl)) ?_; simp only [Act.put, List.setIfInBounds_toArray, List.set_cons_zero, List.set_cons_succ]
        refine wpS_quiet (some 65) { dst := some 65, op := Op.load 3 (Operand.tmp 64), type := _, pos := _, after := _, guard := none } _ rfl rfl (by rfl) (fun wE hE => by (have zk0 := hE.cellS d0; have zk1 := hE.cellS d2; go_simp; try with_reducible rfl)) ?_; simp only [Act.put, List.setIfInBounds_toArray, List.set_cons_zero, List.set_cons_succ]
        refine wpS_quiet (some 66) { dst := some 66, op := Op.binOp BinOp.neq 3 (Operand.tmp 65) (Operand.const (Value.int IntKind.i64 0)) 3, type := _, pos := _, after := _, guard := none } _ rfl rfl (by rfl) (fun wE hE => by (go_simp; try with_reducible rfl)) ?_; simp only [Act.put, List.setIfInBounds_toArray, List.set_cons_zero, List.set_cons_succ]
        refine wpS_quiet (some 67) { dst := some 67, op := Op.move (Operand.tmp 66), type := _, pos := _, after := _, guard := none } _ rfl rfl (by rfl) (fun wE hE => by (go_simp; try with_reducible rfl)) ?_; simp only [Act.put, List.setIfInBounds_toArray, List.set_cons_zero, List.set_cons_succ]
        (first | refine wpS_quiet (some 68) { dst := some 68, op := Op.move (Operand.tmp 0), type := _, pos := _, after := _, guard := some (5, true) } _ rfl rfl (by rfl) (fun wE hE => by (go_simp; try with_reducible rfl)) ?_ | refine wpS_pass (some 68) _ rfl rfl (by rfl) ?_); simp only [Act.put, List.setIfInBounds_toArray, List.set_cons_zero, List.set_cons_succ]
        (first | refine wpS_quiet (some 69) { dst := some 69, op := Op.nilCheck (Operand.tmp 68), type := _, pos := _, after := _, guard := some (5, true) } _ rfl rfl (by rfl) (fun wE hE => by (go_simp; try with_reducible rfl)) ?_ | refine wpS_pass (some 69) _ rfl rfl (by rfl) ?_); simp only [Act.put, List.setIfInBounds_toArray, List.set_cons_zero, List.set_cons_succ]
        (first | refine wpS_quiet (some 70) { dst := some 70, op := Op.fieldAddr 73 (Operand.tmp 69) 2, type := _, pos := _, after := _, guard := some (5, true) } _ rfl rfl (by rfl) (fun wE hE => by (go_simp; try with_reducible rfl)) ?_ | refine wpS_pass (some 70) _ rfl rfl (by rfl) ?_); simp only [Act.put, List.setIfInBounds_toArray, List.set_cons_zero, List.set_cons_succ]
        (first | refine wpS_quiet (some 71) { dst := some 71, op := Op.load 70 (Operand.tmp 70), type := _, pos := _, after := _, guard := some (5, true) } _ rfl rfl (by rfl) (fun wE hE => by (have zk0 := hE.cellS d0; have zk1 := hE.cellS d2; go_simp; try with_reducible rfl)) ?_ | refine wpS_pass (some 71) _ rfl rfl (by rfl) ?_); simp only [Act.put, List.setIfInBounds_toArray, List.set_cons_zero, List.set_cons_succ]
        (first | refine wpS_quiet (some 73) { dst := some 73, op := Op.move (Operand.tmp 0), type := _, pos := _, after := _, guard := some (5, true) } _ rfl rfl (by rfl) (fun wE hE => by (go_simp; try with_reducible rfl)) ?_ | refine wpS_pass (some 73) _ rfl rfl (by rfl) ?_); simp only [Act.put, List.setIfInBounds_toArray, List.set_cons_zero, List.set_cons_succ]
        (first | refine wpS_quiet (some 74) { dst := some 74, op := Op.nilCheck (Operand.tmp 73), type := _, pos := _, after := _, guard := some (5, true) } _ rfl rfl (by rfl) (fun wE hE => by (go_simp; try with_reducible rfl)) ?_ | refine wpS_pass (some 74) _ rfl rfl (by rfl) ?_); simp only [Act.put, List.setIfInBounds_toArray, List.set_cons_zero, List.set_cons_succ]
        (first | refine wpS_quiet (some 75) { dst := some 75, op := Op.fieldAddr 73 (Operand.tmp 74) 0, type := _, pos := _, after := _, guard := some (5, true) } _ rfl rfl (by rfl) (fun wE hE => by (go_simp; try with_reducible rfl)) ?_ | refine wpS_pass (some 75) _ rfl rfl (by rfl) ?_); simp only [Act.put, List.setIfInBounds_toArray, List.set_cons_zero, List.set_cons_succ]
        (first | refine wpS_quiet (some 76) { dst := some 76, op := Op.load 3 (Operand.tmp 75), type := _, pos := _, after := _, guard := some (5, true) } _ rfl rfl (by rfl) (fun wE hE => by (have zk0 := hE.cellS d0; have zk1 := hE.cellS d2; go_simp; try with_reducible rfl)) ?_ | refine wpS_pass (some 76) _ rfl rfl (by rfl) ?_); simp only [Act.put, List.setIfInBounds_toArray, List.set_cons_zero, List.set_cons_succ]
        refine wpS_call (some 72) { dst := some 72, op := Op.call { callee := Callee.value (Operand.func 63), args := #[Operand.tmp 71], argTypes := #[70] }, type := _, pos := _, after := _, guard := some (5, true) } 63 _ rfl rfl (by rfl) (by go_simp; try first | with_reducible rfl | exact ⟨rfl, rfl⟩) ?_
        refine (lenList_any l _ w2.drew (show LSt w2.drew l _ from C2.out.L)).mono ?_; rintro r w3 ⟨rfl, rfl⟩; refine ⟨_, rfl, Ext.refl _, ?_⟩; simp only [Act.put, List.setIfInBounds_toArray, List.set_cons_zero, List.set_cons_succ]
        (first | refine wpS_quiet (some 77) { dst := some 77, op := Op.binOp BinOp.gtr 3 (Operand.tmp 72) (Operand.tmp 76) 3, type := _, pos := _, after := _, guard := some (5, true) } _ rfl rfl (by rfl) (fun wE hE => by (go_simp; try with_reducible rfl)) ?_ | refine wpS_pass (some 77) _ rfl rfl (by rfl) ?_); simp only [Act.put, List.setIfInBounds_toArray, List.set_cons_zero, List.set_cons_succ]
        refine wpS_quiet (some 78) { dst := some 78, op := Op.pick (Operand.tmp 67) (Operand.tmp 77) (Operand.const (Value.bool false)), type := _, pos := _, after := _, guard := none } _ rfl rfl (by rfl) (fun wE hE => by (go_simp; try with_reducible rfl)) ?_; simp only [Act.put, List.setIfInBounds_toArray, List.set_cons_zero, List.set_cons_succ]
        change Exit.then _ _ _ _ _
        have hpos : ((⟨e, w.heap.size, k, u⟩ :: its : List It).length : Int) = its.length + 1 := by simp
        have HRO := Lib.hid (remOld_any ok g gb size (⟨e, w.heap.size, k, u⟩ :: its) ps w2.drew ⟨v, N2.out, .inl ⟨l, m, _, { C2.out with }⟩⟩ (by simp; omega) hn (fun q hq => hok q (Nat.le_trans X2.out.size hq)))
        go_wp2_with fail
        refine HRO.out.mono ?_
        rintro r w4 ⟨rfl, h4⟩
        have H4 := Lib.hid h4
        clear h4
        go_wp2_with fail
        go_end0
        exact ⟨rfl, AddAns.mk2 ⟨hz, hbig⟩ ⟨H4.out.1, (X2.out).trans H4.out.2.undrew⟩⟩
      · have hdec : decide (size < ((its.length + 1 : Nat) : Int)) = false := decide_eq_false hbig
        refine wp_region_sched (ops := ops_36_9) Ext [] (.quiet 0 (.quiet 1 (.quiet 2 (.quiet 3 (.quiet 4 (.quiet 5 (.quiet 6 (.quiet 7 (.quiet 8 (.quiet 9 (.quiet 11 (.quiet 12 (.quiet 13 (.quiet 14 (.loud 10 (.quiet 15 (.quiet 16 (.done))) (.stop)))))))))))))))) (by kernel_rfl) ext_refl ext_trans (by kernel_rfl) (fun _ _ d _ _ h => by cases d <;> exact h) ?_
        refine wpS_quiet (some 62) { dst := some 62, op := Op.move (Operand.tmp 0), type := _, pos := _, after := _, guard := none } _ rfl rfl (by rfl) (fun wE hE => by (go_simp; try with_reducible rfl)) ?_; simp only [Act.put, List.setIfInBounds_toArray, List.set_cons_zero, List.set_cons_succ]
        refine wpS_quiet (some 63) { dst := some 63, op := Op.nilCheck (Operand.tmp 62), type := _, pos := _, after := _, guard := none } _ rfl rfl (by rfl) (fun wE hE => by (go_simp; try with_reducible rfl)) ?_; simp only [Act.put, List.setIfInBounds_toArray, List.set_cons_zero, List.set_cons_succ]
        refine wpS_quiet (some 64) { dst := some 64, op := Op.fieldAddr 73 (Operand.tmp 63) 0, type := _, pos := _, after := _, guard := none } _ rfl rfl (by rfl) (fun wE hE => by (go_simp; try with_reducible rfl)) ?_; simp only [Act.put, List.setIfInBounds_toArray, List.set_cons_zero, List.set_cons_succ]
        refine wpS_quiet (some 65) { dst := some 65, op := Op.load 3 (Operand.tmp 64), type := _, pos := _, after := _, guard := none } _ rfl rfl (by rfl) (fun wE hE => by (have zk0 := hE.cellS d0; have zk1 := hE.cellS d2; go_simp; try with_reducible rfl)) ?_; simp only [Act.put, List.setIfInBounds_toArray, List.set_cons_zero, List.set_cons_succ]
        refine wpS_quiet (some 66) { dst := some 66, op := Op.binOp BinOp.neq 3 (Operand.tmp 65) (Operand.const (Value.int IntKind.i64 0)) 3, type := _, pos := _, after := _, guard := none } _ rfl rfl (by rfl) (fun wE hE => by (go_simp; try with_reducible rfl)) ?_; simp only [Act.put, List.setIfInBounds_toArray, List.set_cons_zero, List.set_cons_succ]
        refine wpS_quiet (some 67) { dst := some 67, op := Op.move (Operand.tmp 66), type := _, pos := _, after := _, guard := none } _ rfl rfl (by rfl) (fun wE hE => by (go_simp; try with_reducible rfl)) ?_; simp only [Act.put, List.setIfInBounds_toArray, List.set_cons_zero, List.set_cons_succ]
        (first | refine wpS_quiet (some 68) { dst := some 68, op := Op.move (Operand.tmp 0), type := _, pos := _, after := _, guard := some (5, true) } _ rfl rfl (by rfl) (fun wE hE => by (go_simp; try with_reducible rfl)) ?_ | refine wpS_pass (some 68) _ rfl rfl (by rfl) ?_); simp only [Act.put, List.setIfInBounds_toArray, List.set_cons_zero, List.set_cons_succ]
        (first | refine wpS_quiet (some 69) { dst := some 69, op := Op.nilCheck (Operand.tmp 68), type := _, pos := _, after := _, guard := some (5, true) } _ rfl rfl (by rfl) (fun wE hE => by (go_simp; try with_reducible rfl)) ?_ | refine wpS_pass (some 69) _ rfl rfl (by rfl) ?_); simp only [Act.put, List.setIfInBounds_toArray, List.set_cons_zero, List.set_cons_succ]
        (first | refine wpS_quiet (some 70) { dst := some 70, op := Op.fieldAddr 73 (Operand.tmp 69) 2, type := _, pos := _, after := _, guard := some (5, true) } _ rfl rfl (by rfl) (fun wE hE => by (go_simp; try with_reducible rfl)) ?_ | refine wpS_pass (some 70) _ rfl rfl (by rfl) ?_); simp only [Act.put, List.setIfInBounds_toArray, List.set_cons_zero, List.set_cons_succ]
        (first | refine wpS_quiet (some 71) { dst := some 71, op := Op.load 70 (Operand.tmp 70), type := _, pos := _, after := _, guard := some (5, true) } _ rfl rfl (by rfl) (fun wE hE => by (have zk0 := hE.cellS d0; have zk1 := hE.cellS d2; go_simp; try with_reducible rfl)) ?_ | refine wpS_pass (some 71) _ rfl rfl (by rfl) ?_); simp only [Act.put, List.setIfInBounds_toArray, List.set_cons_zero, List.set_cons_succ]
        (first | refine wpS_quiet (some 73) { dst := some 73, op := Op.move (Operand.tmp 0), type := _, pos := _, after := _, guard := some (5, true) } _ rfl rfl (by rfl) (fun wE hE => by (go_simp; try with_reducible rfl)) ?_ | refine wpS_pass (some 73) _ rfl rfl (by rfl) ?_); simp only [Act.put, List.setIfInBounds_toArray, List.set_cons_zero, List.set_cons_succ]
        (first | refine wpS_quiet (some 74) { dst := some 74, op := Op.nilCheck (Operand.tmp 73), type := _, pos := _, after := _, guard := some (5, true) } _ rfl rfl (by rfl) (fun wE hE => by (go_simp; try with_reducible rfl)) ?_ | refine wpS_pass (some 74) _ rfl rfl (by rfl) ?_); simp only [Act.put, List.setIfInBounds_toArray, List.set_cons_zero, List.set_cons_succ]
        (first | refine wpS_quiet (some 75) { dst := some 75, op := Op.fieldAddr 73 (Operand.tmp 74) 0, type := _, pos := _, after := _, guard := some (5, true) } _ rfl rfl (by rfl) (fun wE hE => by (go_simp; try with_reducible rfl)) ?_ | refine wpS_pass (some 75) _ rfl rfl (by rfl) ?_); simp only [Act.put, List.setIfInBounds_toArray, List.set_cons_zero, List.set_cons_succ]
        (first | refine wpS_quiet (some 76) { dst := some 76, op := Op.load 3 (Operand.tmp 75), type := _, pos := _, after := _, guard := some (5, true) } _ rfl rfl (by rfl) (fun wE hE => by (have zk0 := hE.cellS d0; have zk1 := hE.cellS d2; go_simp; try with_reducible rfl)) ?_ | refine wpS_pass (some 76) _ rfl rfl (by rfl) ?_); simp only [Act.put, List.setIfInBounds_toArray, List.set_cons_zero, List.set_cons_succ]
        refine wpS_call (some 72) { dst := some 72, op := Op.call { callee := Callee.value (Operand.func 63), args := #[Operand.tmp 71], argTypes := #[70] }, type := _, pos := _, after := _, guard := some (5, true) } 63 _ rfl rfl (by rfl) (by go_simp; try first | with_reducible rfl | exact ⟨rfl, rfl⟩) ?_
        refine (lenList_any l _ w2.drew (show LSt w2.drew l _ from C2.out.L)).mono ?_; rintro r w3 ⟨rfl, rfl⟩; refine ⟨_, rfl, Ext.refl _, ?_⟩; simp only [Act.put, List.setIfInBounds_toArray, List.set_cons_zero, List.set_cons_succ]
        (first | refine wpS_quiet (some 77) { dst := some 77, op := Op.binOp BinOp.gtr 3 (Operand.tmp 72) (Operand.tmp 76) 3, type := _, pos := _, after := _, guard := some (5, true) } _ rfl rfl (by rfl) (fun wE hE => by (go_simp; try with_reducible rfl)) ?_ | refine wpS_pass (some 77) _ rfl rfl (by rfl) ?_); simp only [Act.put, List.setIfInBounds_toArray, List.set_cons_zero, List.set_cons_succ]
        refine wpS_quiet (some 78) { dst := some 78, op := Op.pick (Operand.tmp 67) (Operand.tmp 77) (Operand.const (Value.bool false)), type := _, pos := _, after := _, guard := none } _ rfl rfl (by rfl) (fun wE hE => by (go_simp; try with_reducible rfl)) ?_; simp only [Act.put, List.setIfInBounds_toArray, List.set_cons_zero, List.set_cons_succ]
        change Exit.then _ _ _ _ _
        have hpos : ((⟨e, w.heap.size, k, u⟩ :: its : List It).length : Int) = its.length + 1 := by simp
        go_wp2_with fail
        go_end0
        exact ⟨rfl, AddAns.mk1 (fun h => absurd h.2 (by omega)) ⟨⟨v, N2.out, .inl ⟨l, m, _, { C2.out with }⟩⟩, X2.out⟩⟩
  · subst hi
    have c3 := hb.cell (o := 3) rfl
    have c2 := hb.cell (o := 2) rfl
    have f3 := hb.frozen 3
    have f2 := hb.frozen 2
    have q1 := emN w
    have hmm := @run_makeMap Try.prog
    have HB := Lib.hid hb
    have HGN := Lib.hid hg
    have hgl := hb.lt
    clear hb hg
    have hsc : (w.setCell ⟨g, 3, none⟩ (.map (some w.heap.size))).heap.size = w.heap.size := by simp [World.setCell]
    have KM : Hid (Blk ((w.setCell ⟨g, 3, none⟩ (.map (some w.heap.size))).alloc (.map #[] 0)) g _ _) := Lib.hid ((HB.out.setCell 3 (.map (some w.heap.size))).ext ((Ext.refl _).alloc _))
    have XM : ExtX (fun b => b = g) w ((w.setCell ⟨g, 3, none⟩ (.map (some w.heap.size))).alloc (.map #[] 0)) := (setC_X (M := fun b => b = g) w g 3 _ rfl).trans (((Ext.refl _).alloc _).toX _)
    have MM : Hid (MapL kI ((w.setCell ⟨g, 3, none⟩ (.map (some w.heap.size))).alloc (.map #[] 0)) w.heap.size []) := Lib.hid (by have := MapL.new (kv := kI) (w.setCell ⟨g, 3, none⟩ (.map (some w.heap.size))); rw [hsc] at this; exact this)
    clear hsc
    go_enter Try.func36, Try.ntmps36
    go_wp2_with fail
    clear hmm
    refine (newList_any _).mono ?_
    rintro r w2 ⟨l, rfl, hl, l2, e2⟩
    have X2a : ExtX (fun b => b = g) w w2 := XM.trans (e2.toX _)
    have K2 : Blk w2 g _ _ := KM.out.ext e2
    have d2 := K2.cell (o := 2) rfl
    have d3 := K2.cell (o := 3) rfl
    have g2 := K2.frozen 2
    have hsz : l = w.heap.size + 1 := by rw [hl]; simp [World.setCell]
    have XS : ExtX (fun b => b = g) w2 (w2.setCell ⟨g, 2, none⟩ (pv l)) := setC_X _ g 2 _ rfl
    have hsz2 : w.heap.size ≤ w2.heap.size := X2a.size
    have ng := HGN.out.apart HB.out (by decide) (by decide)
    have HG : Hid (GN (w2.setCell ⟨g, 2, none⟩ (pv l)) ok gb v ps) := Lib.hid (HGN.out.keep (X2a.trans XS) (fun e => ng.1 e.symm) (fun b hb e => ng.2 (e ▸ hb)))
    have HC : Hid (LC (w2.setCell ⟨g, 2, none⟩ (pv l)) ok g l w.heap.size gb size [] []) := Lib.hid
      { G := K2.setCell 2 (pv l)
        L := l2.extX XS (by show l ≠ g; omega) (fun y hy => by simp at hy)
        E := fun y hy => by simp at hy
        M := (MM.out.ext e2).extX XS (by show w.heap.size ≠ g; omega)
        mo := fun k u => by simp
        nk := by simp
        nt := by simp
        og := ho
        ol := hok l (by omega)
        om := hok _ (Nat.le_refl _)
        oi := fun y hy => by simp at hy }
    have q2 := HC.out.lookMiss hk
    have c3 := HC.out.G.cell (o := 3) rfl
    have c2 := HC.out.G.cell (o := 2) rfl
    have X0 : ExtX ok w (w2.setCell ⟨g, 2, none⟩ (pv l)) := (X2a.trans XS).mono fun b _ hb => hb ▸ ho
    have hok0 : ∀ k, (w2.setCell ⟨g, 2, none⟩ (pv l)).heap.size ≤ k → ok k := fun q hq => hok q (by have := X0.size; omega)
    clear XM X2a XS K2 l2 e2 HGN HB KM MM f2 f3 hl hsz ng hgl hsz2 c2
    go_upto_region 3 with fail
    generalize w2.setCell ⟨g, 2, none⟩ (pv l) = W0 at HC HG q2 X0 hok0 c3 ⊢
    clear d2 d3 g2 q1
    have c3 := HC.out.G.cell (o := 3) rfl
    have c2 := HC.out.G.cell (o := 2) rfl
    -- W0: LC ('HC'), GN ('HG'), 'X0' : ExtX ok w W0, 'hok0'
    have HP := Lib.hid (pushF_any l W0.heap.size ([] : List It) (W0.alloc (.cells #[kI k, kI u] 103)) (HC.out.L.ext ((Ext.refl _).alloc _)) hlen)
    go_wp2_with fail
    refine HP.out.mono ?_
    rintro r w1 ⟨e, rfl, he, l1, x1⟩
    have EA : Ext W0 (W0.alloc (.cells #[kI k, kI u] 103)) := (Ext.refl _).alloc _
    have XA : ExtX (fun b => InR l ([] : List It) b) W0 w1 := (EA.toX _).trans x1
    have hrlt : ∀ b, InR l ([] : List It) b → b < W0.heap.size := fun b hb => HC.out.L.lt hb
    have hte : Hid (Blk w1 W0.heap.size 103 (enCells k u)) := Lib.hid ((Blk.new W0 103 (enCells k u)).extX x1 (fun hr => Nat.lt_irrefl _ (hrlt _ hr)))
    have hes : e = W0.heap.size + 1 := by rw [he]; simp
    have L1 := Lib.hid (l1 k u)
    have HXA := Lib.hid XA
    have G1 : Hid (Blk w1 g _ _) := Lib.hid (HC.out.G.extX XA (HC.out.notR HC.out.G (by decide) (by decide)))
    have M1 : MapL kI w1 w.heap.size ([] : List (Int × Value)) := HC.out.M.extX XA HC.out.notRm
    have N1 := Lib.hid (HC.out.moved HG.out XA)
    obtain ⟨w2, hput, m2, x2, s2⟩ := M1.put (P := Try.prog) keyI Try.underlying71 k (pv e)
    have hml := HC.out.M.lt
    have htl : ∀ y ∈ ([] : List It), y.t < W0.heap.size := fun y hy => (HC.out.E y hy).lt
    have C2 : Hid (LC w2 ok g l w.heap.size gb size (⟨e, W0.heap.size, k, u⟩ :: ([] : List It)) (aput ([] : List (Int × Value)) k (pv e))) := Lib.hid (LC.put (x := ⟨e, W0.heap.size, k, u⟩) HC.out hk L1.out hte.out (fun y hy => Nat.ne_of_lt (htl y hy)) XA m2 x2 (hok0 e (by omega)) (hok0 _ (Nat.le_refl _)) (by show e ≠ w.heap.size; omega) (by show W0.heap.size ≠ w.heap.size; omega))
    have nm := N1.out.apartM M1
    have N2 : Hid (GN w2 ok gb v ps) := Lib.hid (N1.out.keep x2 (fun e => nm.1 e.symm) (fun b hb e => nm.2 (e ▸ hb)))
    have X2 : Hid (ExtX ok w w2) := Lib.hid ((X0.trans (XA.mono fun b _ hb => HC.out.okR hb)).trans (x2.mono fun b _ hb => hb ▸ HC.out.om))
    have d3 := G1.out.cell (o := 3) rfl
    clear x1 XA l1 m2 he hes hrlt hml htl nm x2 s2 M1 EA hk
    go_wp2_with fail
    clear d3 hput
    have d0 := C2.out.G.cell (o := 0) rfl
    have d2 := C2.out.G.cell (o := 2) rfl
    by_cases hz : size = 0
    · have hz' : size = 0 := hz
      rw [hz'] at d0
      replace hz := Lib.hid hz
      clear hz'
      refine wp_region_sched (ops := ops_36_9) Ext [] (.quiet 0 (.quiet 1 (.quiet 2 (.quiet 3 (.quiet 4 (.quiet 5 (.quiet 6 (.quiet 7 (.quiet 8 (.quiet 9 (.quiet 11 (.quiet 12 (.quiet 13 (.quiet 14 (.loud 10 (.quiet 15 (.quiet 16 (.done))) (.stop)))))))))))))))) (by kernel_rfl) ext_refl ext_trans (by kernel_rfl) (fun _ _ d _ _ h => by cases d <;> exact h) ?_
      refine wpS_quiet (some 62) { dst := some 62, op := Op.move (Operand.tmp 0), type := _, pos := _, after := _, guard := none } _ rfl rfl (by rfl) (fun wE hE => by (go_simp; try with_reducible rfl)) ?_; simp only [Act.put, List.setIfInBounds_toArray, List.set_cons_zero, List.set_cons_succ]
      refine wpS_quiet (some 63) { dst := some 63, op := Op.nilCheck (Operand.tmp 62), type := _, pos := _, after := _, guard := none } _ rfl rfl (by rfl) (fun wE hE => by (go_simp; try with_reducible rfl)) ?_; simp only [Act.put, List.setIfInBounds_toArray, List.set_cons_zero, List.set_cons_succ]
      refine wpS_quiet (some 64) { dst := some 64, op := Op.fieldAddr 73 (Operand.tmp 63) 0, type := _, pos := _, after := _, guard := none } _ rfl rfl (by rfl) (fun wE hE => by (go_simp; try with_reducible rfl)) ?_; simp only [Act.put, List.setIfInBounds_toArray, List.set_cons_zero, List.set_cons_succ]
      refine wpS_quiet (some 65) { dst := some 65, op := Op.load 3 (Operand.tmp 64), type := _, pos := _, after := _, guard := none } _ rfl rfl (by rfl) (fun wE hE => by (have zk0 := hE.cellS d0; have zk1 := hE.cellS d2; go_simp; try with_reducible rfl)) ?_; simp only [Act.put, List.setIfInBounds_toArray, List.set_cons_zero, List.set_cons_succ]
      refine wpS_quiet (some 66) { dst := some 66, op := Op.binOp BinOp.neq 3 (Operand.tmp 65) (Operand.const (Value.int IntKind.i64 0)) 3, type := _, pos := _, after := _, guard := none } _ rfl rfl (by rfl) (fun wE hE => by (go_simp; try with_reducible rfl)) ?_; simp only [Act.put, List.setIfInBounds_toArray, List.set_cons_zero, List.set_cons_succ]
      refine wpS_quiet (some 67) { dst := some 67, op := Op.move (Operand.tmp 66), type := _, pos := _, after := _, guard := none } _ rfl rfl (by rfl) (fun wE hE => by (go_simp; try with_reducible rfl)) ?_; simp only [Act.put, List.setIfInBounds_toArray, List.set_cons_zero, List.set_cons_succ]
      (first | refine wpS_quiet (some 68) { dst := some 68, op := Op.move (Operand.tmp 0), type := _, pos := _, after := _, guard := some (5, true) } _ rfl rfl (by rfl) (fun wE hE => by (go_simp; try with_reducible rfl)) ?_ | refine wpS_pass (some 68) _ rfl rfl (by rfl) ?_); simp only [Act.put, List.setIfInBounds_toArray, List.set_cons_zero, List.set_cons_succ]
      (first | refine wpS_quiet (some 69) { dst := some 69, op := Op.nilCheck (Operand.tmp 68), type := _, pos := _, after := _, guard := some (5, true) } _ rfl rfl (by rfl) (fun wE hE => by (go_simp; try with_reducible rfl)) ?_ | refine wpS_pass (some 69) _ rfl rfl (by rfl) ?_); simp only [Act.put, List.setIfInBounds_toArray, List.set_cons_zero, List.set_cons_succ]
      (first | refine wpS_quiet (some 70) { dst := some 70, op := Op.fieldAddr 73 (Operand.tmp 69) 2, type := _, pos := _, after := _, guard := some (5, true) } _ rfl rfl (by rfl) (fun wE hE => by (go_simp; try with_reducible rfl)) ?_ | refine wpS_pass (some 70) _ rfl rfl (by rfl) ?_); simp only [Act.put, List.setIfInBounds_toArray, List.set_cons_zero, List.set_cons_succ]
      (first | refine wpS_quiet (some 71) { dst := some 71, op := Op.load 70 (Operand.tmp 70), type := _, pos := _, after := _, guard := some (5, true) } _ rfl rfl (by rfl) (fun wE hE => by (have zk0 := hE.cellS d0; have zk1 := hE.cellS d2; go_simp; try with_reducible rfl)) ?_ | refine wpS_pass (some 71) _ rfl rfl (by rfl) ?_); simp only [Act.put, List.setIfInBounds_toArray, List.set_cons_zero, List.set_cons_succ]
      (first | refine wpS_quiet (some 73) { dst := some 73, op := Op.move (Operand.tmp 0), type := _, pos := _, after := _, guard := some (5, true) } _ rfl rfl (by rfl) (fun wE hE => by (go_simp; try with_reducible rfl)) ?_ | refine wpS_pass (some 73) _ rfl rfl (by rfl) ?_); simp only [Act.put, List.setIfInBounds_toArray, List.set_cons_zero, List.set_cons_succ]
      (first | refine wpS_quiet (some 74) { dst := some 74, op := Op.nilCheck (Operand.tmp 73), type := _, pos := _, after := _, guard := some (5, true) } _ rfl rfl (by rfl) (fun wE hE => by (go_simp; try with_reducible rfl)) ?_ | refine wpS_pass (some 74) _ rfl rfl (by rfl) ?_); simp only [Act.put, List.setIfInBounds_toArray, List.set_cons_zero, List.set_cons_succ]
      (first | refine wpS_quiet (some 75) { dst := some 75, op := Op.fieldAddr 73 (Operand.tmp 74) 0, type := _, pos := _, after := _, guard := some (5, true) } _ rfl rfl (by rfl) (fun wE hE => by (go_simp; try with_reducible rfl)) ?_ | refine wpS_pass (some 75) _ rfl rfl (by rfl) ?_); simp only [Act.put, List.setIfInBounds_toArray, List.set_cons_zero, List.set_cons_succ]
      (first | refine wpS_quiet (some 76) { dst := some 76, op := Op.load 3 (Operand.tmp 75), type := _, pos := _, after := _, guard := some (5, true) } _ rfl rfl (by rfl) (fun wE hE => by (have zk0 := hE.cellS d0; have zk1 := hE.cellS d2; go_simp; try with_reducible rfl)) ?_ | refine wpS_pass (some 76) _ rfl rfl (by rfl) ?_); simp only [Act.put, List.setIfInBounds_toArray, List.set_cons_zero, List.set_cons_succ]
      refine wpS_loud_pass (ext_refl _) (some 72) _ rfl rfl (by rfl) ?_; simp only [Act.put, List.setIfInBounds_toArray, List.set_cons_zero, List.set_cons_succ]
      (first | refine wpS_quiet (some 77) { dst := some 77, op := Op.binOp BinOp.gtr 3 (Operand.tmp 72) (Operand.tmp 76) 3, type := _, pos := _, after := _, guard := some (5, true) } _ rfl rfl (by rfl) (fun wE hE => by (go_simp; try with_reducible rfl)) ?_ | refine wpS_pass (some 77) _ rfl rfl (by rfl) ?_); simp only [Act.put, List.setIfInBounds_toArray, List.set_cons_zero, List.set_cons_succ]
      refine wpS_quiet (some 78) { dst := some 78, op := Op.pick (Operand.tmp 67) (Operand.tmp 77) (Operand.const (Value.bool false)), type := _, pos := _, after := _, guard := none } _ rfl rfl (by rfl) (fun wE hE => by (go_simp; try with_reducible rfl)) ?_; simp only [Act.put, List.setIfInBounds_toArray, List.set_cons_zero, List.set_cons_succ]
      change Exit.then _ _ _ _ _
      go_wp2_with fail
      go_end0
      exact ⟨rfl, AddAns.mk1 (fun h => h.1 hz.out) ⟨⟨v, N2.out, .inl ⟨l, w.heap.size, _, { C2.out with }⟩⟩, X2.out⟩⟩
    · have bz1 : (size == 0) = false := by simpa using hz
      have bz2 : (size != 0) = true := by simpa using hz
      by_cases hbig : size < (([] : List It).length + 1 : Nat)
      · skip
        exfalso
        simp only [List.length_nil] at hbig
        omega
      · have hdec : decide (size < ((([] : List It).length + 1 : Nat) : Int)) = false := decide_eq_false hbig
        refine wp_region_sched (ops := ops_36_9) Ext [] (.quiet 0 (.quiet 1 (.quiet 2 (.quiet 3 (.quiet 4 (.quiet 5 (.quiet 6 (.quiet 7 (.quiet 8 (.quiet 9 (.quiet 11 (.quiet 12 (.quiet 13 (.quiet 14 (.loud 10 (.quiet 15 (.quiet 16 (.done))) (.stop)))))))))))))))) (by kernel_rfl) ext_refl ext_trans (by kernel_rfl) (fun _ _ d _ _ h => by cases d <;> exact h) ?_
        refine wpS_quiet (some 62) { dst := some 62, op := Op.move (Operand.tmp 0), type := _, pos := _, after := _, guard := none } _ rfl rfl (by rfl) (fun wE hE => by (go_simp; try with_reducible rfl)) ?_; simp only [Act.put, List.setIfInBounds_toArray, List.set_cons_zero, List.set_cons_succ]
        refine wpS_quiet (some 63) { dst := some 63, op := Op.nilCheck (Operand.tmp 62), type := _, pos := _, after := _, guard := none } _ rfl rfl (by rfl) (fun wE hE => by (go_simp; try with_reducible rfl)) ?_; simp only [Act.put, List.setIfInBounds_toArray, List.set_cons_zero, List.set_cons_succ]
        refine wpS_quiet (some 64) { dst := some 64, op := Op.fieldAddr 73 (Operand.tmp 63) 0, type := _, pos := _, after := _, guard := none } _ rfl rfl (by rfl) (fun wE hE => by (go_simp; try with_reducible rfl)) ?_; simp only [Act.put, List.setIfInBounds_toArray, List.set_cons_zero, List.set_cons_succ]
        refine wpS_quiet (some 65) { dst := some 65, op := Op.load 3 (Operand.tmp 64), type := _, pos := _, after := _, guard := none } _ rfl rfl (by rfl) (fun wE hE => by (have zk0 := hE.cellS d0; have zk1 := hE.cellS d2; go_simp; try with_reducible rfl)) ?_; simp only [Act.put, List.setIfInBounds_toArray, List.set_cons_zero, List.set_cons_succ]
        refine wpS_quiet (some 66) { dst := some 66, op := Op.binOp BinOp.neq 3 (Operand.tmp 65) (Operand.const (Value.int IntKind.i64 0)) 3, type := _, pos := _, after := _, guard := none } _ rfl rfl (by rfl) (fun wE hE => by (go_simp; try with_reducible rfl)) ?_; simp only [Act.put, List.setIfInBounds_toArray, List.set_cons_zero, List.set_cons_succ]
        refine wpS_quiet (some 67) { dst := some 67, op := Op.move (Operand.tmp 66), type := _, pos := _, after := _, guard := none } _ rfl rfl (by rfl) (fun wE hE => by (go_simp; try with_reducible rfl)) ?_; simp only [Act.put, List.setIfInBounds_toArray, List.set_cons_zero, List.set_cons_succ]
        (first | refine wpS_quiet (some 68) { dst := some 68, op := Op.move (Operand.tmp 0), type := _, pos := _, after := _, guard := some (5, true) } _ rfl rfl (by rfl) (fun wE hE => by (go_simp; try with_reducible rfl)) ?_ | refine wpS_pass (some 68) _ rfl rfl (by rfl) ?_); simp only [Act.put, List.setIfInBounds_toArray, List.set_cons_zero, List.set_cons_succ]
        (first | refine wpS_quiet (some 69) { dst := some 69, op := Op.nilCheck (Operand.tmp 68), type := _, pos := _, after := _, guard := some (5, true) } _ rfl rfl (by rfl) (fun wE hE => by (go_simp; try with_reducible rfl)) ?_ | refine wpS_pass (some 69) _ rfl rfl (by rfl) ?_); simp only [Act.put, List.setIfInBounds_toArray, List.set_cons_zero, List.set_cons_succ]
        (first | refine wpS_quiet (some 70) { dst := some 70, op := Op.fieldAddr 73 (Operand.tmp 69) 2, type := _, pos := _, after := _, guard := some (5, true) } _ rfl rfl (by rfl) (fun wE hE => by (go_simp; try with_reducible rfl)) ?_ | refine wpS_pass (some 70) _ rfl rfl (by rfl) ?_); simp only [Act.put, List.setIfInBounds_toArray, List.set_cons_zero, List.set_cons_succ]
        (first | refine wpS_quiet (some 71) { dst := some 71, op := Op.load 70 (Operand.tmp 70), type := _, pos := _, after := _, guard := some (5, true) } _ rfl rfl (by rfl) (fun wE hE => by (have zk0 := hE.cellS d0; have zk1 := hE.cellS d2; go_simp; try with_reducible rfl)) ?_ | refine wpS_pass (some 71) _ rfl rfl (by rfl) ?_); simp only [Act.put, List.setIfInBounds_toArray, List.set_cons_zero, List.set_cons_succ]
        (first | refine wpS_quiet (some 73) { dst := some 73, op := Op.move (Operand.tmp 0), type := _, pos := _, after := _, guard := some (5, true) } _ rfl rfl (by rfl) (fun wE hE => by (go_simp; try with_reducible rfl)) ?_ | refine wpS_pass (some 73) _ rfl rfl (by rfl) ?_); simp only [Act.put, List.setIfInBounds_toArray, List.set_cons_zero, List.set_cons_succ]
        (first | refine wpS_quiet (some 74) { dst := some 74, op := Op.nilCheck (Operand.tmp 73), type := _, pos := _, after := _, guard := some (5, true) } _ rfl rfl (by rfl) (fun wE hE => by (go_simp; try with_reducible rfl)) ?_ | refine wpS_pass (some 74) _ rfl rfl (by rfl) ?_); simp only [Act.put, List.setIfInBounds_toArray, List.set_cons_zero, List.set_cons_succ]
        (first | refine wpS_quiet (some 75) { dst := some 75, op := Op.fieldAddr 73 (Operand.tmp 74) 0, type := _, pos := _, after := _, guard := some (5, true) } _ rfl rfl (by rfl) (fun wE hE => by (go_simp; try with_reducible rfl)) ?_ | refine wpS_pass (some 75) _ rfl rfl (by rfl) ?_); simp only [Act.put, List.setIfInBounds_toArray, List.set_cons_zero, List.set_cons_succ]
        (first | refine wpS_quiet (some 76) { dst := some 76, op := Op.load 3 (Operand.tmp 75), type := _, pos := _, after := _, guard := some (5, true) } _ rfl rfl (by rfl) (fun wE hE => by (have zk0 := hE.cellS d0; have zk1 := hE.cellS d2; go_simp; try with_reducible rfl)) ?_ | refine wpS_pass (some 76) _ rfl rfl (by rfl) ?_); simp only [Act.put, List.setIfInBounds_toArray, List.set_cons_zero, List.set_cons_succ]
        refine wpS_call (some 72) { dst := some 72, op := Op.call { callee := Callee.value (Operand.func 63), args := #[Operand.tmp 71], argTypes := #[70] }, type := _, pos := _, after := _, guard := some (5, true) } 63 _ rfl rfl (by rfl) (by go_simp; try first | with_reducible rfl | exact ⟨rfl, rfl⟩) ?_
        refine (lenList_any l _ w2.drew (show LSt w2.drew l _ from C2.out.L)).mono ?_; rintro r w3 ⟨rfl, rfl⟩; refine ⟨_, rfl, Ext.refl _, ?_⟩; simp only [Act.put, List.setIfInBounds_toArray, List.set_cons_zero, List.set_cons_succ]
        (first | refine wpS_quiet (some 77) { dst := some 77, op := Op.binOp BinOp.gtr 3 (Operand.tmp 72) (Operand.tmp 76) 3, type := _, pos := _, after := _, guard := some (5, true) } _ rfl rfl (by rfl) (fun wE hE => by (go_simp; try with_reducible rfl)) ?_ | refine wpS_pass (some 77) _ rfl rfl (by rfl) ?_); simp only [Act.put, List.setIfInBounds_toArray, List.set_cons_zero, List.set_cons_succ]
        refine wpS_quiet (some 78) { dst := some 78, op := Op.pick (Operand.tmp 67) (Operand.tmp 77) (Operand.const (Value.bool false)), type := _, pos := _, after := _, guard := none } _ rfl rfl (by rfl) (fun wE hE => by (go_simp; try with_reducible rfl)) ?_; simp only [Act.put, List.setIfInBounds_toArray, List.set_cons_zero, List.set_cons_succ]
        change Exit.then _ _ _ _ _
        have hpos : ((⟨e, W0.heap.size, k, u⟩ :: ([] : List It) : List It).length : Int) = ([] : List It).length + 1 := by simp
        go_wp2_with fail
        go_end0
        exact ⟨rfl, AddAns.mk1 (fun h => absurd h.2 (by omega)) ⟨⟨v, N2.out, .inl ⟨l, w.heap.size, _, { C2.out with }⟩⟩, X2.out⟩⟩
end Go.Proofs.Ytphhkphibdiahaa
