/-
  The walk of FnDecideOrder.
-/
import Derived.Test.YtdokcengcekfgaaDoorStorage
import Derived.Test.YtdokcengcekfgaaDoorCancel
namespace Go.Proofs.YtdokcengcekfgaaDoor
open Go.RowKit
set_option linter.unusedSimpArgs false
set_option linter.unusedVariables false

/-! ### Slices of texts -/
theorem str_take {α : Type} {d : Rp α} {w : World} {ok : Nat → Prop} {xs : List α} {A : Option Addr} {n c : Nat} (h : (Rp.slice d).K w ok xs [.slice A n c]) (j : Nat) (hj : j ≤ n) : (Rp.slice d).K w ok (xs.take j) [.slice A j c] := by
  obtain ⟨A', c', hv, h1, h2, h3, h4⟩ := h
  simp only [List.cons.injEq, Value.slice.injEq, and_true] at hv
  obtain ⟨rfl, rfl, rfl⟩ := hv
  have hl : (xs.take j).length = j := by rw [List.length_take]; omega
  refine ⟨A, c, by rw [hl], by omega, h2, h3, fun i x hx => ?_⟩
  have hi : i < j := by have := (List.getElem?_eq_some_iff.1 hx).1; omega
  rw [List.getElem?_take_of_lt hi] at hx
  exact h4 i x hx
theorem own_void {α : Type} {d : Rp α} {w : World} {ok : Nat → Prop} {base g : Nat} {e : TypeId} (h : Blk w g e []) (hok : ok g) (hb : base ≤ g) : OwnP d w ok base e (.slice (some ⟨g, 0, none⟩) 0 0) [] := by
  refine ⟨fun q hq => ?_, [], ⟨by simp, .inr ⟨g, 0, #[], rfl, hb, h, Nat.le_refl _, by decide, by simp, by simp⟩⟩, fun i x hx => by simp at hx⟩
  simp [Value.ownBlock] at hq
  exact hq ▸ hok
theorem infoStr : (Tryd.prog.info? 9).map (fun i => (i.zero, i.size, i.bytes)) = some (some (.string ⟨#[]⟩), 1, 16) := by kernel_rfl
theorem infoStrSz : (Tryd.prog.info? 9).map (·.size) = some 1 := by kernel_rfl
/-- append(x, y...) of texts: what it gives, wherever y's cells lie -/
theorem app_str {w : World} {base : Nat} {v y : Value} {xs ys : List ByteArray} {ok ok2 : Nat → Prop} (hown : OwnP Rp.str w ok2 base 9 v xs) (hfr : ∀ k, w.heap.size ≤ k → ok2 k) (hy : (Rp.slice Rp.str).K w ok ys [y]) (hl : xs.length + ys.length ≤ 1000) (hb : base ≤ w.heap.size) :
    ∃ v' w', (Builtin.append_ #[22, 22] 22 #[v, y]).run Tryd.prog w = .ok v' w' ∧ OwnP Rp.str w' ok2 base 9 v' (xs ++ ys) ∧ ExtX (fun k => some k = v.ownBlock) w w' := by
  obtain ⟨i0, hi, hz0, hz1, hz2⟩ := info_parts infoStr
  obtain ⟨A, cap, hv, h1, h2, h3, hrow⟩ := id hy
  simp only [List.cons.injEq, and_true] at hv
  subst hv
  cases A with
  | none =>
    have h0 := h3 rfl
    obtain rfl : ys = [] := List.eq_nil_of_length_eq_zero (by omega)
    subst h0
    obtain ⟨_, cells, hr, _⟩ := id hown
    refine ⟨v, w, run_append_owned_none (P := Tryd.prog) w base 22 22 9 i0 1 Tryd.underlying22 hi v xs.length cells hr, by rw [List.append_nil]; exact hown, ExtX.refl _ _⟩
  | some a =>
    obtain ⟨news, hn, hc, hk⟩ : ∃ news : List Value, news.length = ys.length * 1 ∧ (∀ j u, news[j]? = some u → w.cell? (a.add j) = some u) ∧ ∀ i x, ys[i]? = some x → Rp.str.K w ok x ((news.drop (i * 1)).take 1) := by
      by_cases hn0 : ys = []
      · subst hn0
        exact ⟨[], by simp, fun j u hu => by simp at hu, fun i y hy => by simp at hy⟩
      · obtain ⟨b, o, hA, hb⟩ := hrow.addr hn0
        obtain rfl := Option.some.inj hA
        exact hrow.news rfl
    obtain ⟨v', w', r, o, g, _⟩ := run_app (P := Tryd.prog) (d := Rp.str) 22 22 9 i0 _ 16 Tryd.underlying22 hi hz0 hz1 hz2 rfl hown hfr a cap news ys hn hc (fun i y hy => hk i y hy) (by simp only [maxLen]; omega) (by omega) hb
    exact ⟨v', w', r, o, (ExtX.refl _ w).grown g (fun k hk => hk.symm)⟩
/-! ### The plain law -/
def turned (ms : List ByteArray) (k : Nat) : List ByteArray := ms.drop k ++ ms.take k
theorem turned_mem (ms : List ByteArray) (k : Nat) (m : ByteArray) : m ∈ turned ms k ↔ m ∈ ms := by
  unfold turned
  rw [List.mem_append, Or.comm, ← List.mem_append, List.take_append_drop]
theorem turned_len (ms : List ByteArray) (k : Nat) : (turned ms k).length = ms.length := by
  unfold turned
  rw [List.length_append, List.length_drop, List.length_take]; omega
/-- members in another order, the first of which stands there twice -/
def withMs (g : GD) (l : List ByteArray) : GD := { g with members := l }
theorem withMs_ok {g : GD} (h : g.ok) {l : List ByteArray} (hm : ∀ x, x ∈ l ↔ x ∈ g.members) (hl : l.length ≤ 12) : (withMs g l).ok := ⟨h.c, h.s, (fun s hs => h.m s ((hm s).1 hs)), h.d, hl, h.t⟩
theorem same_vote {g : GD} {l : List ByteArray} (hm : ∀ x, x ∈ l ↔ x ∈ g.members) {a b : Option VD} (ha : Least (g.members.map verOfD) a) (hb : Least ((withMs g l).members.map verOfD) b) : a = b := by
  refine Least.unique (ha.same (ms' := (withMs g l).members.map verOfD) fun x => ?_) hb
  simp only [List.mem_map]
  constructor
  · rintro ⟨m, h1, h2⟩; exact ⟨m, (hm m).2 h1, h2⟩
  · rintro ⟨m, h1, h2⟩; exact ⟨m, (hm m).1 h1, h2⟩
theorem same_cancel {g : GD} {l : List ByteArray} (hm : ∀ x, x ∈ l ↔ x ∈ g.members) : cancelD (withMs g l) = cancelD g := by
  unfold cancelD
  show (g.down && matchD (l.map verOfD) g.tv) = (g.down && matchD (g.members.map verOfD) g.tv)
  congr 1
  unfold matchD
  rw [Bool.eq_iff_iff, List.all_eq_true, List.all_eq_true]
  constructor
  · intro h x hx
    obtain ⟨m, h1, rfl⟩ := List.mem_map.1 hx
    exact h _ (List.mem_map.2 ⟨m, (hm m).2 h1, rfl⟩)
  · intro h x hx
    obtain ⟨m, h1, rfl⟩ := List.mem_map.1 hx
    exact h _ (List.mem_map.2 ⟨m, (hm m).1 h1, rfl⟩)
noncomputable def ops_6_8 : Array Oper := opsAt Tryd.f6 8
noncomputable def ops_6_9 : Array Oper := opsAt Tryd.f6 9
noncomputable def ops_6_10 : Array Oper := opsAt Tryd.f6 10
set_option maxRecDepth 20000 in
set_option maxHeartbeats 4000000 in
theorem walk_DecideOrder (g : GD) (A : Option Addr) (n cap : Nat) (turn : Int) (w : World) (hn : n = g.members.length) (hm : (Rp.slice Rp.str).K w any g.members [.slice A n cap]) (ht1 : (Lit.int .i64 turn).wf = true) (hw : VarsOk w) :
    Calls Tryd.prog 6 #[gdV g A n cap, .int .i64 turn] w fun e w' => e = .returned (.bool true) ∧ Ext w w' := by
  have HM := Lib.hid hm
  have HW := Lib.hid hw
  have HN := Lib.hid hn
  clear hm hw hn
  go_enter Tryd.func6, Tryd.ntmps6
  go_wp2_with fail
  obtain ⟨W, hW⟩ : ∃ W, W = w.alloc (.cells (gdCells g A n cap).toArray 24) := ⟨_, rfl⟩
  have EW : Ext w W := by rw [hW]; exact (Ext.refl w).alloc _
  have KV : Blk W w.heap.size 24 (gdCells g A n cap) := by rw [hW]; exact Blk.new w _ _
  change Calls _ _ _ (w.alloc (.cells (gdCells g A n cap).toArray 24)) _
  rw [← hW]
  clear hW
  refine (fits36 g A n cap W HN.out ((Rp.slice Rp.str).ext' EW HM.out)).mono ?_
  rintro e w1 ⟨c, rfl, hf, E1⟩
  replace hf := Lib.hid hf
  have E01 := EW.trans E1
  have KV1 := KV.ext E1
  cases c with
  | false =>
    go_wp2
    go_ret
    exact ⟨rfl, E01⟩
  | true =>
  have HF : Hid g.fits := Lib.hid (by simpa using hf.out)
  obtain ⟨s0, s1, s2, s3, s4, s5⟩ := gd_load KV1
  go_wp2_with fail
  refine (verGood_any g A n cap w1 HN.out ((Rp.slice Rp.str).ext' E01 HM.out) HF.out).mono ?_
  rintro e w2 ⟨c, rfl, hok, E2⟩
  have E02 := E01.trans E2
  have KV2 := KV1.ext E2
  replace hok := Lib.hid hok
  clear s0 s1 s2 s3 s4 s5
  cases c with
  | false =>
    go_wp2
    go_ret
    exact ⟨rfl, E02⟩
  | true =>
  have HOK : Hid g.ok := Lib.hid (by simpa using hok.out)
  obtain ⟨s0, s1, s2, s3, s4, s5⟩ := gd_load KV2
  by_cases h1 : turn < 0
  · have d1 : decide (turn < 0) = true := by simpa using h1
    go_wp2
    go_ret
    exact ⟨rfl, E02⟩
  have d1 : decide (turn < 0) = false := by simpa using h1
  by_cases h2 : n = 0
  · have d2 : ((n : Int) == 0) = true := by simp; omega
    go_wp2
    go_ret
    exact ⟨rfl, E02⟩
  have d2 : ((n : Int) == 0) = false := by simp; omega
  by_cases h3 : 11 < n
  · have d3 : decide ((11 : Int) < (n : Int)) = true := by simp; omega
    go_wp2
    go_ret
    exact ⟨rfl, E02⟩
  have d3 : decide ((11 : Int) < (n : Int)) = false := by simp; omega
  obtain ⟨m, rfl⟩ := Int.eq_ofNat_of_zero_le (by omega : 0 ≤ turn)
  obtain ⟨k, hk⟩ : ∃ k, m % n = k := ⟨_, rfl⟩
  have hkn : k < n := by rw [← hk]; exact Nat.mod_lt _ (by omega)
  replace hk := Lib.hid hk
  go_wp2_with fail
  obtain ⟨W2, hW2⟩ : ∃ W2, W2 = w2.alloc (.cells (gdCells g A n cap).toArray 24) := ⟨_, rfl⟩
  have EW2 : Ext w2 W2 := by rw [hW2]; exact (Ext.refl _).alloc _
  have KW : Blk W2 w2.heap.size 24 (gdCells g A n cap) := by rw [hW2]; exact Blk.new w2 _ _
  change Code.wp _ _ _ _ (w2.alloc (.cells (gdCells g A n cap).toArray 24))
  rw [← hW2, show ((m : Int) % (n : Int)) = ((k : Nat) : Int) from by rw [← hk.out]; rfl]
  clear hW2 s0 s1 s2 s3 s4 s5
  have E03 := E02.trans EW2
  have KV3 := KV2.ext EW2
  obtain ⟨s0, s1, s2, s3, s4, s5⟩ := gd_load KV3
  have HM3 := Lib.hid ((Rp.slice Rp.str).ext' E03 HM.out)
  have hcap : n ≤ cap ∧ cap ≤ maxLen := by
    obtain ⟨A', c', hv, q1, q2, _⟩ := HM.out
    simp only [List.cons.injEq, Value.slice.injEq, and_true] at hv
    obtain ⟨_, rfl, rfl⟩ := hv
    exact ⟨q1, q2⟩
  have r1 := fun w => run_sliceAt_from (P := Tryd.prog) Tryd.underlying22 infoStrSz A n cap k (by omega) w
  have r2 := fun w => run_sliceAt_to (P := Tryd.prog) Tryd.underlying22 infoStrSz A n cap k (by omega) w
  obtain ⟨A2, hA2⟩ : ∃ A2, (if cap = k then A else A.map (·.add (k * 1))) = A2 := ⟨_, rfl⟩
  rw [hA2] at r1
  have D3 : Hid ((Rp.slice Rp.str).K W2 any (g.members.drop k) [.slice A2 (n - k) (cap - k)]) := Lib.hid (hA2 ▸ slice_drop HM3.out k (by omega))
  have T3 := Lib.hid (str_take HM3.out k (by omega))
  replace hA2 := Lib.hid hA2
  have hlen := Lib.hid (show g.members.length ≤ 11 by have := HN.out; omega)
  obtain ⟨s, hs0⟩ : ∃ s, W2.heap.size = s := ⟨_, rfl⟩
  have hsL : w.heap.size < s := by have := KV3.lt; omega
  have hbw : w2.heap.size < s := by have := KW.lt; omega
  have hs : s ≤ W2.drew.heap.size := Nat.le_of_eq hs0.symm
  replace hs0 := Lib.hid hs0
  clear hcap
  refine wp_region_sched (ops := ops_6_8) (ExtB s) [12] (.quiet 1 (.quiet 2 (.quiet 3 (.quiet 4 (.quiet 6 (.quiet 7 (.quiet 8 (.quiet 9 (.loud 0 (.loud 5 (.loud 10 (.quiet 11 (.last 12 (.done))) (.stop)) (.stop)) (.stop)))))))))) (by kernel_rfl) (extB_refl s) (extB_trans s) (by kernel_rfl) (fun _ _ d _ _ h => by cases d <;> exact h) ?_
  refine wpS_quiet (some 34) { dst := some 34, op := Op.fieldAddr 24 (Operand.tmp 2) 5, type := _, pos := _, after := _, guard := none } _ rfl rfl (by rfl) (fun wE hE => by (go_simp; try with_reducible rfl)) ?_; simp only [Act.put, List.setIfInBounds_toArray, List.set_cons_zero, List.set_cons_succ]
  refine wpS_quiet (some 35) { dst := some 35, op := Op.load 22 (Operand.tmp 34), type := _, pos := _, after := _, guard := none } _ rfl rfl (by rfl) (fun wE hE => by (have zk0 := hE.cellS hsL s5; go_simp; try with_reducible rfl)) ?_; simp only [Act.put, List.setIfInBounds_toArray, List.set_cons_zero, List.set_cons_succ]
  refine wpS_quiet (some 36) { dst := some 36, op := Op.move (Operand.tmp 7), type := _, pos := _, after := _, guard := none } _ rfl rfl (by rfl) (fun wE hE => by (go_simp; try with_reducible rfl)) ?_; simp only [Act.put, List.setIfInBounds_toArray, List.set_cons_zero, List.set_cons_succ]
  refine wpS_quiet (some 37) { dst := some 37, op := Op.slice 22 (Operand.tmp 35) (some (Operand.tmp 36)) none none, type := _, pos := _, after := _, guard := none } _ rfl rfl (by rfl) (fun wE hE => by (go_simp; try with_reducible rfl)) ?_; simp only [Act.put, List.setIfInBounds_toArray, List.set_cons_zero, List.set_cons_succ]
  refine wpS_quiet (some 39) { dst := some 39, op := Op.fieldAddr 24 (Operand.tmp 2) 5, type := _, pos := _, after := _, guard := none } _ rfl rfl (by rfl) (fun wE hE => by (go_simp; try with_reducible rfl)) ?_; simp only [Act.put, List.setIfInBounds_toArray, List.set_cons_zero, List.set_cons_succ]
  refine wpS_quiet (some 40) { dst := some 40, op := Op.load 22 (Operand.tmp 39), type := _, pos := _, after := _, guard := none } _ rfl rfl (by rfl) (fun wE hE => by (have zk0 := hE.cellS hsL s5; go_simp; try with_reducible rfl)) ?_; simp only [Act.put, List.setIfInBounds_toArray, List.set_cons_zero, List.set_cons_succ]
  refine wpS_quiet (some 41) { dst := some 41, op := Op.move (Operand.tmp 7), type := _, pos := _, after := _, guard := none } _ rfl rfl (by rfl) (fun wE hE => by (go_simp; try with_reducible rfl)) ?_; simp only [Act.put, List.setIfInBounds_toArray, List.set_cons_zero, List.set_cons_succ]
  refine wpS_quiet (some 42) { dst := some 42, op := Op.slice 22 (Operand.tmp 40) none (some (Operand.tmp 41)) none, type := _, pos := _, after := _, guard := none } _ rfl rfl (by rfl) (fun wE hE => by (go_simp; try with_reducible rfl)) ?_; simp only [Act.put, List.setIfInBounds_toArray, List.set_cons_zero, List.set_cons_succ]
  refine wpS_upd (some 33) { dst := some 33, op := Op.buildSlice 22 0 #[], type := _, pos := _, after := _, guard := none } rfl rfl (by rfl) ?_ trivial
  refine ⟨.slice (some ⟨W2.heap.size, 0, none⟩) 0 0, W2.drew.alloc (.cells #[] 9), by go_simp; try rfl, ((Ext.refl _).alloc _).toB hs, ?_⟩
  simp only [Act.put, List.setIfInBounds_toArray, List.set_cons_zero, List.set_cons_succ]
  have EA : ExtB s W2 (W2.drew.alloc (.cells #[] 9)) := ((Ext.refl W2).drew.alloc _).toB hs
  have EA' : Ext W2 (W2.drew.alloc (.cells #[] 9)) := (Ext.refl W2).drew.alloc _
  have own0 : OwnP Rp.str (W2.drew.alloc (.cells #[] 9)) (fun k => k ≠ w2.heap.size) s 9 (.slice (some ⟨W2.heap.size, 0, none⟩) 0 0) [] := own_void (Blk.new W2.drew 9 []) (by show W2.heap.size ≠ w2.heap.size; have := hs0.out; omega) hs
  obtain ⟨v1, w3, r3, o3, x3⟩ := app_str own0 (fun k hk => by show k ≠ w2.heap.size; have h1 : (W2.drew.alloc (.cells #[] 9)).heap.size = W2.heap.size + 1 := (by simp); have := hs0.out; omega) ((Rp.slice Rp.str).ext' EA' D3.out) (by have := hlen.out; simp; omega) (Nat.le_trans hs (by simp))
  have e3 : ExtB s (W2.drew.alloc (.cells #[] 9)) w3 := x3.toB (fun k hk => (own0.own k hk.symm).1) (Nat.le_trans hs (by simp))
  refine wpS_upd (some 38) { dst := some 38, op := Op.call { callee := Callee.builtin Builtin.append, args := #[Operand.tmp 33, Operand.tmp 37], argTypes := #[22, 22] }, type := _, pos := _, after := _, guard := none } rfl rfl (by rfl) ?_ trivial
  refine ⟨_, w3, exec_app (.tmp 33) (.tmp 37) 22 rfl rfl rfl r3, e3, ?_⟩
  simp only [Act.put, List.setIfInBounds_toArray, List.set_cons_zero, List.set_cons_succ]
  have EB := EA.trans e3
  have hs3 : s ≤ w3.heap.size := Nat.le_trans hs EB.size
  have T4 := (EB.mono (Nat.le_of_eq hs0.out)).ext
  obtain ⟨v2, w4, r4, o4, x4⟩ := app_str o3 (fun k hk => by show k ≠ w2.heap.size; omega) ((Rp.slice Rp.str).ext' T4 T3.out) (by have := hlen.out; simp; omega) hs3
  have e4 : ExtB s w3 w4 := x4.toB (fun k hk => (o3.own k hk.symm).1) hs3
  refine wpS_upd (some 43) { dst := some 43, op := Op.call { callee := Callee.builtin Builtin.append, args := #[Operand.tmp 38, Operand.tmp 42], argTypes := #[22, 22] }, type := _, pos := _, after := _, guard := none } rfl rfl (by rfl) ?_ trivial
  refine ⟨_, w4, exec_app (.tmp 38) (.tmp 42) 22 rfl rfl rfl r4, e4, ?_⟩
  simp only [Act.put, List.setIfInBounds_toArray, List.set_cons_zero, List.set_cons_succ]
  refine wpS_quiet (some 44) { dst := some 44, op := Op.fieldAddr 24 (Operand.tmp 6) 5, type := _, pos := _, after := _, guard := none } _ rfl rfl (by rfl) (fun wE hE => by (go_simp; try with_reducible rfl)) ?_; simp only [Act.put, List.setIfInBounds_toArray, List.set_cons_zero, List.set_cons_succ]
  have EC := EB.trans e4
  have EC' := (EC.mono (Nat.le_of_eq hs0.out)).ext
  have hs4 : s ≤ w4.heap.size := Nat.le_trans hs EC.size
  have KW4 := KW.extB EC hbw
  have hL1 : [] ++ List.drop k g.members ++ List.take k g.members = turned g.members k := rfl
  rw [hL1] at o4
  have hl1 := turned_len g.members k
  have hn1 : 1 ≤ (turned g.members k).length ∧ (turned g.members k).length ≤ 11 := by have := HN.out; have := hlen.out; omega
  have hmemT := Lib.hid (turned_mem g.members k)
  clear hl1
  generalize turned g.members k = L at *
  obtain ⟨ba, cv, hv2, hba, hc1, hc2⟩ : ∃ ba cv, v2 = .slice (some ⟨ba, 0, none⟩) L.length cv ∧ s ≤ ba ∧ L.length ≤ cv ∧ cv ≤ maxLen := by
    rcases o4.form with ⟨_, h⟩ | ⟨ba, cv, h⟩
    · rw [h] at hn1; simp at hn1
    · exact ⟨ba, cv, h⟩
  subst hv2
  obtain ⟨f0, hf0⟩ : ∃ f0, L[0]? = some f0 := ⟨_, List.getElem?_eq_getElem (by omega)⟩
  refine wpS_store none { dst := none, op := Op.store 22 (Operand.tmp 44) (Operand.tmp 43), type := _, pos := _, after := _, guard := none } rfl rfl (by rfl) (.tmp 44) (.tmp 43) 22 rfl rfl rfl rfl KW4 rfl (Nat.le_of_ble_eq_true rfl) rfl ?_
  intro w5 K5 x5
  simp only [Act.put, List.setIfInBounds_toArray, List.set_cons_zero, List.set_cons_succ]
  change Exit.then _ _ _ _ _
  have o5 := o4.extX x5 (fun k hk _ h => hk h)
  have hB0 : w2.heap.size ≤ W2.heap.size := EW2.size
  have EG : ExtB w2.heap.size w2 w5 := ((EW2.toB (Nat.le_refl _)).trans (EC.mono (by omega))).trans (x5.toB (fun k hk => Nat.le_of_eq (show k = w2.heap.size from hk).symm) (by omega))
  have hs5 : s ≤ w5.heap.size := Nat.le_trans hs4 x5.size
  have K5' : Blk w5 w2.heap.size 24 (gdCells g (some ⟨ba, 0, none⟩) L.length cv) := K5
  have a5 := K5'.cell (o := 5) rfl
  have cf : w5.cell? ⟨ba, 0, none⟩ = some (.string f0) := by
    obtain ⟨A', c', hv, q1, q2, q3, q4⟩ := o5.slice
    simp only [List.cons.injEq, Value.slice.injEq, and_true] at hv
    obtain ⟨rfl, _, rfl⟩ := hv
    have := str_at q4 rfl hf0 (Ext.refl w5)
    simpa using this
  have hbaw : ba < w5.heap.size := cell_lt cf
  have h0L : 0 < L.length := by omega
  have hbb : w2.heap.size ≠ ba := by omega
  have HF0 := Lib.hid hf0
  clear hf0 s0 s1 s2 s3 s4 s5 r1 r2 r3 r4 hL1
  go_wp2_with fail
  refine wp_region_sched (ops := ops_6_9) (ExtX (fun k => k = ba)) [9] (.quiet 0 (.quiet 1 (.quiet 2 (.quiet 3 (.quiet 4 (.loud 5 (.loud 6 (.loud 7 (.quiet 8 (.last 9 (.done))) (.stop)) (.stop)) (.stop))))))) (by kernel_rfl) (ExtX.refl (fun k => k = ba)) (fun _ _ _ => ExtX.trans) (by kernel_rfl) (fun _ _ d _ _ h => by cases d <;> exact h) ?_
  refine wpS_quiet (some 45) { dst := some 45, op := Op.fieldAddr 24 (Operand.tmp 6) 5, type := _, pos := _, after := _, guard := none } _ rfl rfl (by rfl) (fun wE hE => by (go_simp; try with_reducible rfl)) ?_; simp only [Act.put, List.setIfInBounds_toArray, List.set_cons_zero, List.set_cons_succ]
  refine wpS_quiet (some 46) { dst := some 46, op := Op.load 22 (Operand.tmp 45), type := _, pos := _, after := _, guard := none } _ rfl rfl (by rfl) (fun wE hE => by (have zk0 := hE.cellS (by show ¬ (_ = ba); simp only []; omega) a5; go_simp; try with_reducible rfl)) ?_; simp only [Act.put, List.setIfInBounds_toArray, List.set_cons_zero, List.set_cons_succ]
  refine wpS_quiet (some 47) { dst := some 47, op := Op.fieldAddr 24 (Operand.tmp 6) 5, type := _, pos := _, after := _, guard := none } _ rfl rfl (by rfl) (fun wE hE => by (go_simp; try with_reducible rfl)) ?_; simp only [Act.put, List.setIfInBounds_toArray, List.set_cons_zero, List.set_cons_succ]
  refine wpS_quiet (some 48) { dst := some 48, op := Op.load 22 (Operand.tmp 47), type := _, pos := _, after := _, guard := none } _ rfl rfl (by rfl) (fun wE hE => by (have zk0 := hE.cellS (by show ¬ (_ = ba); simp only []; omega) a5; go_simp; try with_reducible rfl)) ?_; simp only [Act.put, List.setIfInBounds_toArray, List.set_cons_zero, List.set_cons_succ]
  refine wpS_quiet (some 49) { dst := some 49, op := Op.indexAddr 22 (Operand.tmp 48) (Operand.const (Value.int IntKind.i64 0)), type := _, pos := _, after := _, guard := none } _ rfl rfl (by rfl) (fun wE hE => by (go_simp; try with_reducible rfl)) ?_; simp only [Act.put, List.setIfInBounds_toArray, List.set_cons_zero, List.set_cons_succ]
  refine wpS_upd (some 50) { dst := some 50, op := Op.load 9 (Operand.tmp 49), type := _, pos := _, after := _, guard := none } rfl rfl (by rfl) ?_ trivial
  refine ⟨.string f0, w5.drew, by go_simp; try rfl, ExtX.refl _ _, ?_⟩
  simp only [Act.put, List.setIfInBounds_toArray, List.set_cons_zero, List.set_cons_succ]
  refine wpS_upd (some 51) { dst := some 51, op := Op.buildSlice 22 1 #[(0, Operand.tmp 50)], type := _, pos := _, after := _, guard := none } rfl rfl (by rfl) ?_ trivial
  refine ⟨.slice (some ⟨w5.heap.size, 0, none⟩) 1 1, w5.drew.alloc (.cells #[.string f0] 9), by go_simp; try rfl, ((Ext.refl _).alloc _).toX _, ?_⟩
  simp only [Act.put, List.setIfInBounds_toArray, List.set_cons_zero, List.set_cons_succ]
  have E6 : Ext w5 (w5.drew.alloc (.cells #[.string f0] 9)) := (Ext.refl w5).drew.alloc _
  have hy6 : (Rp.slice Rp.str).K (w5.drew.alloc (.cells #[.string f0] 9)) any [f0] [.slice (some ⟨w5.heap.size, 0, none⟩) 1 1] := by
    refine slice_of_blk (xs := [f0]) (Blk.new w5.drew 9 [.string f0]) trivial (Nat.le_refl 1) (one_elem (p := fun i y => Rp.str.K _ any y _) ?_) (Nat.le_refl 1) (by decide)
    have : f0 ∈ g.members := (hmemT.out f0).1 (List.mem_of_getElem? HF0.out)
    exact ⟨rfl, by have := (HOK.out.m f0 this).le; unfold maxLen; omega⟩
  obtain ⟨v3, w7, r7, o7, x7⟩ := app_str (o5.ext E6) (fun k hk => by show k ≠ w2.heap.size; have h1 : (w5.drew.alloc (.cells #[.string f0] 9)).heap.size = w5.heap.size + 1 := (by simp); omega) hy6 (by simp; omega) (by simp; omega)
  have x7' : ExtX (fun k => k = ba) (w5.drew.alloc (.cells #[.string f0] 9)) w7 := x7.mono (fun k _ h => by simpa [Value.ownBlock] using h)
  refine wpS_upd (some 52) { dst := some 52, op := Op.call { callee := Callee.builtin Builtin.append, args := #[Operand.tmp 46, Operand.tmp 51], argTypes := #[22, 22] }, type := _, pos := _, after := _, guard := none } rfl rfl (by rfl) ?_ trivial
  refine ⟨_, w7, exec_app (.tmp 46) (.tmp 51) 22 rfl rfl rfl r7, x7', ?_⟩
  simp only [Act.put, List.setIfInBounds_toArray, List.set_cons_zero, List.set_cons_succ]
  refine wpS_quiet (some 53) { dst := some 53, op := Op.fieldAddr 24 (Operand.tmp 6) 5, type := _, pos := _, after := _, guard := none } _ rfl rfl (by rfl) (fun wE hE => by (go_simp; try with_reducible rfl)) ?_; simp only [Act.put, List.setIfInBounds_toArray, List.set_cons_zero, List.set_cons_succ]
  have X57 : ExtX (fun k => k = ba) w5 w7 := (E6.toX _).trans x7'
  have KW7 := K5'.extX X57 hbb
  obtain ⟨A3, c3, hv3, hd1, hd2⟩ := o7.shape
  subst hv3
  refine wpS_store none { dst := none, op := Op.store 22 (Operand.tmp 53) (Operand.tmp 52), type := _, pos := _, after := _, guard := none } rfl rfl (by rfl) (.tmp 53) (.tmp 52) 22 rfl rfl rfl rfl KW7 rfl (Nat.le_of_ble_eq_true rfl) rfl ?_
  intro w9 K9 x9
  simp only [Act.put, List.setIfInBounds_toArray, List.set_cons_zero, List.set_cons_succ]
  change Exit.then _ _ _ _ _
  have o9 := o7.extX x9 (fun k hk _ h => hk h)
  have EH : Ext w2 w9 := ((EG.trans (X57.toB (fun k hk => by have hk : k = ba := hk; omega) (by omega))).trans (x9.toB (fun k hk => Nat.le_of_eq (show k = w2.heap.size from hk).symm) (by have := X57.size; omega))).ext
  have K9' : Blk w9 w2.heap.size 24 (gdCells (withMs g (L ++ [f0])) A3 (L ++ [f0]).length c3) := K9
  have hmemF := Lib.hid (show ∀ x, x ∈ L ++ [f0] ↔ x ∈ g.members from fun x => by
    rw [List.mem_append, List.mem_singleton, hmemT.out]
    constructor
    · rintro (h | rfl)
      · exact h
      · exact (hmemT.out x).1 (List.mem_of_getElem? HF0.out)
    · exact .inl)
  have hlF := Lib.hid (show (L ++ [f0]).length ≤ 12 by simp; omega)
  have HM9 : Hid ((Rp.slice Rp.str).K w9 any (L ++ [f0]) [.slice A3 (L ++ [f0]).length c3]) := Lib.hid ((Rp.slice Rp.str).toAny o9.slice)
  have hok9 := Lib.hid (withMs_ok HOK.out hmemF.out hlF.out)
  have KV9 := KV2.ext EH
  obtain ⟨s0, s1, s2, s3, s4, s5⟩ := gd_load KV9
  obtain ⟨p0, p1, p2, p3, p4, p5⟩ := gd_load K9'
  have E09 := E02.trans EH
  generalize hLF : L ++ [f0] = LF at *
  replace hLF := Lib.hid hLF
  clear a5 cf hbb hs0 hs
  go_wp2_with fail
  refine wp_region_sched (ops := ops_6_10) Ext [] (.quiet 0 (.quiet 2 (.loud 1 (.loud 3 (.quiet 4 (.quiet 5 (.quiet 6 (.quiet 8 (.loud 7 (.loud 9 (.quiet 10 (.quiet 11 (.quiet 12 (.loud 13 (.quiet 14 (.quiet 15 (.done))) (.stop))))) (.stop)) (.stop)))))) (.stop)) (.stop)))) (by kernel_rfl) ext_refl ext_trans (by kernel_rfl) (fun _ _ d _ _ h => by cases d <;> exact h) ?_
  refine wpS_quiet (some 54) { dst := some 54, op := Op.load 24 (Operand.tmp 2), type := _, pos := _, after := _, guard := none } _ rfl rfl (by rfl) (fun wE hE => by (have zk0 := hE.cellS s0; have zk1 := hE.cellS s1; have zk2 := hE.cellS s2; have zk3 := hE.cellS s3; have zk4 := hE.cellS s4; have zk5 := hE.cellS s5; have zk6 := hE.cellS p0; have zk7 := hE.cellS p1; have zk8 := hE.cellS p2; have zk9 := hE.cellS p3; have zk10 := hE.cellS p4; have zk11 := hE.cellS p5; go_simp; try with_reducible rfl)) ?_; simp only [Act.put, List.setIfInBounds_toArray, List.set_cons_zero, List.set_cons_succ]
  refine wpS_quiet (some 56) { dst := some 56, op := Op.load 24 (Operand.tmp 6), type := _, pos := _, after := _, guard := none } _ rfl rfl (by rfl) (fun wE hE => by (have zk0 := hE.cellS s0; have zk1 := hE.cellS s1; have zk2 := hE.cellS s2; have zk3 := hE.cellS s3; have zk4 := hE.cellS s4; have zk5 := hE.cellS s5; have zk6 := hE.cellS p0; have zk7 := hE.cellS p1; have zk8 := hE.cellS p2; have zk9 := hE.cellS p3; have zk10 := hE.cellS p4; have zk11 := hE.cellS p5; go_simp; try with_reducible rfl)) ?_; simp only [Act.put, List.setIfInBounds_toArray, List.set_cons_zero, List.set_cons_succ]
  refine wpS_call (some 55) { dst := some 55, op := Op.call { callee := Callee.value (Operand.func 20), args := #[Operand.tmp 54], argTypes := #[24] }, type := _, pos := _, after := _, guard := none } 20 _ rfl rfl (by rfl) (by go_simp; try first | with_reducible rfl | exact ⟨rfl, rfl⟩) ?_
  refine (implDecide_any g A n cap _ HN.out ((Rp.slice Rp.str).ext' E09.drew HM.out) HOK.out (HW.out.ext E09.drew)).mono ?_; rintro e y1 ⟨l1, hl1, rfl, f1⟩; have HL1 := Lib.hid hl1; clear hl1; refine ⟨_, rfl, f1, ?_⟩; simp only [Act.put, List.setIfInBounds_toArray, List.set_cons_zero, List.set_cons_succ]
  refine wpS_call (some 57) { dst := some 57, op := Op.call { callee := Callee.value (Operand.func 20), args := #[Operand.tmp 56], argTypes := #[24] }, type := _, pos := _, after := _, guard := none } 20 _ rfl rfl (by rfl) (by go_simp; try first | with_reducible rfl | exact ⟨rfl, rfl⟩) ?_
  refine (implDecide_any (withMs g LF) A3 LF.length c3 y1 rfl ((Rp.slice Rp.str).ext' f1.undrew HM9.out) hok9.out (HW.out.ext (E09.trans f1.undrew))).mono ?_; rintro e y2 ⟨l2, hl2, rfl, f2⟩; obtain rfl := same_vote hmemF.out HL1.out hl2; clear hl2; rw [show voteOf (decideD (verOfD (withMs g LF).cluster) l1 (withMs g LF).down (withMs g LF).tv) = voteOf (decideD (verOfD g.cluster) l1 g.down g.tv) from rfl]; refine ⟨_, rfl, f2, ?_⟩; simp only [Act.put, List.setIfInBounds_toArray, List.set_cons_zero, List.set_cons_succ]
  have E2y := E09.trans (f1.undrew.trans f2)
  obtain ⟨s0, s1, s2, s3, s4, s5⟩ := gd_load (KV9.ext (f1.undrew.trans f2))
  obtain ⟨p0, p1, p2, p3, p4, p5⟩ := gd_load (K9'.ext (f1.undrew.trans f2))
  have HM2y := Lib.hid ((Rp.slice Rp.str).ext' (f1.undrew.trans f2) HM9.out)
  have qe := vote_eql (voteOf (decideD (verOfD g.cluster) l1 g.down g.tv))
  refine wpS_quiet (some 58) { dst := some 58, op := Op.binOp BinOp.eql 30 (Operand.tmp 55) (Operand.tmp 57) 30, type := _, pos := _, after := _, guard := none } _ rfl rfl (by rfl) (fun wE hE => by (go_simp; try with_reducible rfl)) ?_; simp only [Act.put, List.setIfInBounds_toArray, List.set_cons_zero, List.set_cons_succ]
  refine wpS_quiet (some 59) { dst := some 59, op := Op.move (Operand.tmp 58), type := _, pos := _, after := _, guard := none } _ rfl rfl (by rfl) (fun wE hE => by (go_simp; try with_reducible rfl)) ?_; simp only [Act.put, List.setIfInBounds_toArray, List.set_cons_zero, List.set_cons_succ]
  (first | refine wpS_quiet (some 60) { dst := some 60, op := Op.load 24 (Operand.tmp 2), type := _, pos := _, after := _, guard := some (5, true) } _ rfl rfl (by rfl) (fun wE hE => by (have zk0 := hE.cellS s0; have zk1 := hE.cellS s1; have zk2 := hE.cellS s2; have zk3 := hE.cellS s3; have zk4 := hE.cellS s4; have zk5 := hE.cellS s5; have zk6 := hE.cellS p0; have zk7 := hE.cellS p1; have zk8 := hE.cellS p2; have zk9 := hE.cellS p3; have zk10 := hE.cellS p4; have zk11 := hE.cellS p5; go_simp; try with_reducible rfl)) ?_ | refine wpS_pass (some 60) _ rfl rfl (by rfl) ?_); simp only [Act.put, List.setIfInBounds_toArray, List.set_cons_zero, List.set_cons_succ]
  (first | refine wpS_quiet (some 62) { dst := some 62, op := Op.load 24 (Operand.tmp 6), type := _, pos := _, after := _, guard := some (5, true) } _ rfl rfl (by rfl) (fun wE hE => by (have zk0 := hE.cellS s0; have zk1 := hE.cellS s1; have zk2 := hE.cellS s2; have zk3 := hE.cellS s3; have zk4 := hE.cellS s4; have zk5 := hE.cellS s5; have zk6 := hE.cellS p0; have zk7 := hE.cellS p1; have zk8 := hE.cellS p2; have zk9 := hE.cellS p3; have zk10 := hE.cellS p4; have zk11 := hE.cellS p5; go_simp; try with_reducible rfl)) ?_ | refine wpS_pass (some 62) _ rfl rfl (by rfl) ?_); simp only [Act.put, List.setIfInBounds_toArray, List.set_cons_zero, List.set_cons_succ]
  clear qe
  refine wpS_call (some 61) { dst := some 61, op := Op.call { callee := Callee.value (Operand.func 22), args := #[Operand.tmp 60], argTypes := #[24] }, type := _, pos := _, after := _, guard := some (5, true) } 22 _ rfl rfl (by rfl) (by go_simp; try first | with_reducible rfl | exact ⟨rfl, rfl⟩) ?_
  refine (implCancel_any g A n cap y2 HN.out ((Rp.slice Rp.str).ext' E2y HM.out) HOK.out (HW.out.ext E2y)).mono ?_; rintro e y3 ⟨rfl, f3⟩; refine ⟨_, rfl, f3, ?_⟩; simp only [Act.put, List.setIfInBounds_toArray, List.set_cons_zero, List.set_cons_succ]
  refine wpS_call (some 63) { dst := some 63, op := Op.call { callee := Callee.value (Operand.func 22), args := #[Operand.tmp 62], argTypes := #[24] }, type := _, pos := _, after := _, guard := some (5, true) } 22 _ rfl rfl (by rfl) (by go_simp; try first | with_reducible rfl | exact ⟨rfl, rfl⟩) ?_
  refine (implCancel_any (withMs g LF) A3 LF.length c3 y3 rfl ((Rp.slice Rp.str).ext' f3 HM2y.out) hok9.out (HW.out.ext (E2y.trans f3))).mono ?_; rintro e y4 ⟨rfl, f4⟩; rw [same_cancel hmemF.out]; refine ⟨_, rfl, f4, ?_⟩; simp only [Act.put, List.setIfInBounds_toArray, List.set_cons_zero, List.set_cons_succ]
  have qe := vote_eql (canVote vote0 (cancelD g))
  (first | refine wpS_quiet (some 64) { dst := some 64, op := Op.binOp BinOp.eql 30 (Operand.tmp 61) (Operand.tmp 63) 30, type := _, pos := _, after := _, guard := some (5, true) } _ rfl rfl (by rfl) (fun wE hE => by (go_simp; try with_reducible rfl)) ?_ | refine wpS_pass (some 64) _ rfl rfl (by rfl) ?_); simp only [Act.put, List.setIfInBounds_toArray, List.set_cons_zero, List.set_cons_succ]
  refine wpS_quiet (some 65) { dst := some 65, op := Op.pick (Operand.tmp 59) (Operand.tmp 64) (Operand.const (Value.bool false)), type := _, pos := _, after := _, guard := none } _ rfl rfl (by rfl) (fun wE hE => by (go_simp; try with_reducible rfl)) ?_; simp only [Act.put, List.setIfInBounds_toArray, List.set_cons_zero, List.set_cons_succ]
  refine wpS_quiet (some 66) { dst := some 66, op := Op.move (Operand.tmp 65), type := _, pos := _, after := _, guard := none } _ rfl rfl (by rfl) (fun wE hE => by (go_simp; try with_reducible rfl)) ?_; simp only [Act.put, List.setIfInBounds_toArray, List.set_cons_zero, List.set_cons_succ]
  clear qe
  have E4y := (E2y.trans f3).trans f4
  refine wpS_call (some 67) { dst := some 67, op := Op.call { callee := Callee.value (Operand.func 15), args := #[], argTypes := #[] }, type := _, pos := _, after := _, guard := some (12, true) } 15 _ rfl rfl (by rfl) (by go_simp; try first | with_reducible rfl | exact ⟨rfl, rfl⟩) ?_
  refine (awake_any y4 (HW.out.ext E4y)).mono ?_; rintro e y5 ⟨rfl, f5⟩; refine ⟨_, rfl, f5, ?_⟩; simp only [Act.put, List.setIfInBounds_toArray, List.set_cons_zero, List.set_cons_succ]
  refine wpS_quiet (some 68) { dst := some 68, op := Op.pick (Operand.tmp 66) (Operand.tmp 67) (Operand.const (Value.bool false)), type := _, pos := _, after := _, guard := none } _ rfl rfl (by rfl) (fun wE hE => by (go_simp; try with_reducible rfl)) ?_; simp only [Act.put, List.setIfInBounds_toArray, List.set_cons_zero, List.set_cons_succ]
  refine wpS_quiet (some 4) { dst := some 4, op := Op.assign (Operand.tmp 68), type := _, pos := _, after := _, guard := none } _ rfl rfl (by rfl) (fun wE hE => by (go_simp; try with_reducible rfl)) ?_; simp only [Act.put, List.setIfInBounds_toArray, List.set_cons_zero, List.set_cons_succ]
  change Exit.then _ _ _ _ _
  go_wp2
  go_ret
  exact ⟨rfl, E4y.trans f5⟩
end Go.Proofs.YtdokcengcekfgaaDoor
