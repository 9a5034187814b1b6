/-
  Learners: what impl.Learners, ValidateMaxLearnerConfig and their reference answer.
-/
import Derived.Test.YtogojpckjamkjaaMem
import Derived.Test.YtogojpckjamkjaaApp
namespace Go.Proofs.Ytogojpckjamkjaa
open Go.RowKit
set_option linter.unusedSimpArgs false
set_option linter.unusedVariables false

theorem Try.infoStr : (Try.prog.info? 9).map (fun i => (i.zero, i.size, i.bytes)) = some (some (.string ⟨#[]⟩), 1, 16) := by kernel_rfl

/-- a new member: its learner mark -/
def NewMem (l : Bool) (w : World) (e : Ending) (w' : World) : Prop := ∃ b, e = .returned (.pointer (some ⟨b, 0, none⟩)) ∧ w.heap.size ≤ b ∧ w'.cell? ⟨b, 2, none⟩ = some (.bool l) ∧ Ext w w'

noncomputable def ops_17_1 : Array Oper := opsAt Try.f17 1
set_option maxHeartbeats 1000000 in
theorem memIn_any (m : Mem) (v2 v3 : Value) (w : World) (h2 : (Rp.slice Rp.str).K w any m.peers [v2]) (h3 : (Rp.slice Rp.str).K w any m.clients [v3]) (hs : MemSmall m) :
    Calls Try.prog 17 #[memV m v2 v3] w (NewMem m.learner w) := by
  obtain ⟨i0, hi, hz0, hz1, hz2⟩ := info_parts Try.infoStr
  have b2 : m.peers.length * 16 ≤ 140737488355328 := by have := hs.1; unfold Small at this; omega
  have b3 : m.clients.length * 16 ≤ 140737488355328 := by have := hs.2; unfold Small at this; omega
  go_enter Try.func17, Try.ntmps17
  go_wp2
  obtain ⟨w1, hw1⟩ : ∃ u : World, u = w.alloc (Obj.cells #[Value.int IntKind.u64 m.id, Value.string m.name, v2, v3, Value.bool m.learner] 32) := ⟨_, rfl⟩
  have e1 : Ext w w1 := by rw [hw1]; exact (Ext.refl _).alloc _
  have KA : Blk w1 w.heap.size 32 [.int .u64 m.id, .string m.name, v2, v3, .bool m.learner] := by rw [hw1]; exact Blk.new w _ _
  rw [← hw1]
  clear hw1
  generalize hsz : w.heap.size = s at *
  have c0 := KA.cell (o := 0) rfl
  have c1 := KA.cell (o := 1) rfl
  have c2 := KA.cell (o := 2) rfl
  have c3 := KA.cell (o := 3) rfl
  have c4 := KA.cell (o := 4) rfl
  refine wp_region_sched (ops := ops_17_1) Ext (.quiet 0 (.quiet 1 (.quiet 2 (.quiet 3 (.quiet 5 (.quiet 6 (.quiet 8 (.quiet 9 (.quiet 10 (.quiet 11 (.loud 4 (.quiet 7 (.loud 12 (.quiet 13 (.quiet 14 (.loud 15 (.quiet 16 (.done)) (.stop)))) (.stop))) (.stop)))))))))))) (by kernel_rfl) ext_refl ext_trans (by kernel_rfl) (fun _ _ d _ _ h => by cases d <;> exact h) ?_
  refine wpS_quiet (some 3) { dst := some 3, op := Op.fieldAddr 32 (Operand.tmp 1) 0, type := _, pos := _, after := _, guard := none } _ rfl rfl (by rfl) (fun wE hE => by (go_simp; try with_reducible rfl)) ?_; simp only [Act.put, List.setIfInBounds_toArray, List.set_cons_zero, List.set_cons_succ]
  refine wpS_quiet (some 4) { dst := some 4, op := Op.load 29 (Operand.tmp 3), type := _, pos := _, after := _, guard := none } _ rfl rfl (by rfl) (fun wE hE => by (have k0 := hE.cellS c0; have k1 := hE.cellS c1; have k2 := hE.cellS c2; have k3 := hE.cellS c3; have k4 := hE.cellS c4; go_simp; try with_reducible rfl)) ?_; simp only [Act.put, List.setIfInBounds_toArray, List.set_cons_zero, List.set_cons_succ]
  refine wpS_quiet (some 5) { dst := some 5, op := Op.fieldAddr 32 (Operand.tmp 1) 2, type := _, pos := _, after := _, guard := none } _ rfl rfl (by rfl) (fun wE hE => by (go_simp; try with_reducible rfl)) ?_; simp only [Act.put, List.setIfInBounds_toArray, List.set_cons_zero, List.set_cons_succ]
  refine wpS_quiet (some 6) { dst := some 6, op := Op.load 30 (Operand.tmp 5), type := _, pos := _, after := _, guard := none } _ rfl rfl (by rfl) (fun wE hE => by (have k0 := hE.cellS c0; have k1 := hE.cellS c1; have k2 := hE.cellS c2; have k3 := hE.cellS c3; have k4 := hE.cellS c4; go_simp; try with_reducible rfl)) ?_; simp only [Act.put, List.setIfInBounds_toArray, List.set_cons_zero, List.set_cons_succ]
  refine wpS_quiet (some 8) { dst := some 8, op := Op.fieldAddr 32 (Operand.tmp 1) 4, type := _, pos := _, after := _, guard := none } _ rfl rfl (by rfl) (fun wE hE => by (go_simp; try with_reducible rfl)) ?_; simp only [Act.put, List.setIfInBounds_toArray, List.set_cons_zero, List.set_cons_succ]
  refine wpS_quiet (some 9) { dst := some 9, op := Op.load 4 (Operand.tmp 8), type := _, pos := _, after := _, guard := none } _ rfl rfl (by rfl) (fun wE hE => by (have k0 := hE.cellS c0; have k1 := hE.cellS c1; have k2 := hE.cellS c2; have k3 := hE.cellS c3; have k4 := hE.cellS c4; go_simp; try with_reducible rfl)) ?_; simp only [Act.put, List.setIfInBounds_toArray, List.set_cons_zero, List.set_cons_succ]
  refine wpS_quiet (some 11) { dst := some 11, op := Op.fieldAddr 32 (Operand.tmp 1) 1, type := _, pos := _, after := _, guard := none } _ rfl rfl (by rfl) (fun wE hE => by (go_simp; try with_reducible rfl)) ?_; simp only [Act.put, List.setIfInBounds_toArray, List.set_cons_zero, List.set_cons_succ]
  refine wpS_quiet (some 12) { dst := some 12, op := Op.load 9 (Operand.tmp 11), type := _, pos := _, after := _, guard := none } _ rfl rfl (by rfl) (fun wE hE => by (have k0 := hE.cellS c0; have k1 := hE.cellS c1; have k2 := hE.cellS c2; have k3 := hE.cellS c3; have k4 := hE.cellS c4; go_simp; try with_reducible rfl)) ?_; simp only [Act.put, List.setIfInBounds_toArray, List.set_cons_zero, List.set_cons_succ]
  refine wpS_quiet (some 13) { dst := some 13, op := Op.fieldAddr 32 (Operand.tmp 1) 3, type := _, pos := _, after := _, guard := none } _ rfl rfl (by rfl) (fun wE hE => by (go_simp; try with_reducible rfl)) ?_; simp only [Act.put, List.setIfInBounds_toArray, List.set_cons_zero, List.set_cons_succ]
  refine wpS_quiet (some 14) { dst := some 14, op := Op.load 30 (Operand.tmp 13), type := _, pos := _, after := _, guard := none } _ rfl rfl (by rfl) (fun wE hE => by (have k0 := hE.cellS c0; have k1 := hE.cellS c1; have k2 := hE.cellS c2; have k3 := hE.cellS c3; have k4 := hE.cellS c4; go_simp; try with_reducible rfl)) ?_; simp only [Act.put, List.setIfInBounds_toArray, List.set_cons_zero, List.set_cons_succ]
  refine wpS_upd (some 7) { dst := some 7, op := Op.call { callee := Callee.builtin Builtin.append, args := #[Operand.const (Value.slice none 0 0), Operand.tmp 6], argTypes := #[30, 30] }, type := _, pos := _, after := _, guard := none } rfl rfl (by rfl) ?_ trivial
  obtain ⟨v4, w4, r4, o4, e4⟩ := run_copy (w := w1.drew) (d := Rp.str) 30 30 9 i0 _ 16 Try.underlying30 hi hz0 hz1 hz2 rfl ((Rp.slice Rp.str).ext' e1 h2) b2
  obtain ⟨A4, k4, rfl, _⟩ := o4.shape
  refine ⟨_, w4, exec_app (.const (.slice none 0 0)) (.tmp 6) 30 rfl rfl rfl r4, e4, ?_⟩
  simp only [Act.put, List.setIfInBounds_toArray, List.set_cons_zero, List.set_cons_succ]
  refine wpS_quiet (some 10) { dst := some 10, op := Op.build 52 #[(0, Operand.tmp 7), (1, Operand.tmp 9)], type := _, pos := _, after := _, guard := none } _ rfl rfl (by rfl) (fun wE hE => by (go_simp; try with_reducible rfl)) ?_; simp only [Act.put, List.setIfInBounds_toArray, List.set_cons_zero, List.set_cons_succ]
  refine wpS_upd (some 15) { dst := some 15, op := Op.call { callee := Callee.builtin Builtin.append, args := #[Operand.const (Value.slice none 0 0), Operand.tmp 14], argTypes := #[30, 30] }, type := _, pos := _, after := _, guard := none } rfl rfl (by rfl) ?_ trivial
  obtain ⟨v5, w5, r5, o5, e5⟩ := run_copy (w := w4) (d := Rp.str) 30 30 9 i0 _ 16 Try.underlying30 hi hz0 hz1 hz2 rfl ((Rp.slice Rp.str).ext' (e1.trans e4.undrew) h3) b3
  obtain ⟨A5, k5, rfl, _⟩ := o5.shape
  refine ⟨_, w5, exec_app (.const (.slice none 0 0)) (.tmp 14) 30 rfl rfl rfl r5, e5, ?_⟩
  simp only [Act.put, List.setIfInBounds_toArray, List.set_cons_zero, List.set_cons_succ]
  refine wpS_quiet (some 16) { dst := some 16, op := Op.build 54 #[(0, Operand.tmp 12), (1, Operand.tmp 15)], type := _, pos := _, after := _, guard := none } _ rfl rfl (by rfl) (fun wE hE => by (go_simp; try with_reducible rfl)) ?_; simp only [Act.put, List.setIfInBounds_toArray, List.set_cons_zero, List.set_cons_succ]
  refine wpS_quiet (some 17) { dst := some 17, op := Op.build 56 #[(0, Operand.tmp 4), (1, Operand.tmp 10), (2, Operand.tmp 16)], type := _, pos := _, after := _, guard := none } _ rfl rfl (by rfl) (fun wE hE => by (go_simp; try with_reducible rfl)) ?_; simp only [Act.put, List.setIfInBounds_toArray, List.set_cons_zero, List.set_cons_succ]
  refine wpS_alloc (some 18) { dst := some 18, op := Op.box 56 (Operand.tmp 17), type := _, pos := _, after := _, guard := none } _ _ rfl rfl (by rfl) (by go_simp; try rfl) (fun _ h => h) ?_ trivial
  intro b w6 hb e6 K6
  have gb : w5.heap.size ≤ b := Nat.le_of_eq hb.symm
  clear hb
  simp only [Act.put, List.setIfInBounds_toArray, List.set_cons_zero, List.set_cons_succ]
  refine wpS_quiet (some 2) { dst := some 2, op := Op.assign (Operand.tmp 18), type := _, pos := _, after := _, guard := none } _ rfl rfl (by rfl) (fun wE hE => by (go_simp; try with_reducible rfl)) ?_; simp only [Act.put, List.setIfInBounds_toArray, List.set_cons_zero, List.set_cons_succ]
  change Exit.then _ _ _ _ _
  go_wp2
  go_ret
  have E := ((e1.trans e4.undrew).trans e5)
  exact ⟨b, rfl, by have := E.size; omega, K6.cell rfl, E.trans e6⟩

/-- a pointer to a member whose learner mark is known -/
def kPtr : Rp Bool where
  K w ok l cs := ∃ b : Nat, cs = [.pointer (some ⟨b, 0, none⟩)] ∧ ok b ∧ w.cell? ⟨b, 2, none⟩ = some (.bool l)
  sz := 1
  pos := by decide
  len := by rintro w ok l cs ⟨b, rfl, _⟩; rfl
  ext := by rintro w w' ok l cs e ⟨b, rfl, hb, hc⟩; exact ⟨b, rfl, hb, (World.cell?_of_block (e b hb)).trans hc⟩
  mono := by rintro w ok ok' l cs e ⟨b, rfl, hb, hc⟩; exact ⟨b, rfl, e b hb, hc⟩
  lt := by rintro w ok l cs ⟨b, rfl, hb, hc⟩; exact ⟨b, rfl, ⟨hb, cell_lt hc⟩, hc⟩
  one := by rintro w ok l cs ⟨b, rfl, _⟩ u hu; rw [List.mem_singleton.1 hu]; rfl

/-- how many are learners -/
def cnt (l : List Bool) : Int := (l.filter id).length
theorem cnt_nonneg (l : List Bool) : 0 ≤ cnt l := by unfold cnt; omega
theorem cnt_le (l : List Bool) : cnt l ≤ l.length := by unfold cnt; have := List.length_filter_le id l; omega
theorem cnt_snoc (l : List Bool) (b : Bool) : cnt (l ++ [b]) = cnt l + if b then 1 else 0 := by
  unfold cnt; cases b <;> simp

/-- the error of too many learners -/
abbrev errLearners : Value := .iface 57 (.string { data := #[109, 101, 109, 98, 101, 114, 115, 104, 105, 112, 58, 32, 116, 111, 111, 32, 109, 97, 110, 121, 32, 108, 101, 97, 114, 110, 101, 114, 32, 109, 101, 109, 98, 101, 114, 115, 32, 105, 110, 32, 99, 108, 117, 115, 116, 101, 114] })

set_option maxHeartbeats 800000 in
theorem validate_any (most : Int) (v : Value) (l : List Bool) (up : Bool) (w : World) (h : (Rp.slice kPtr).K w any l [v]) (hl : l.length ≤ 1000) (hm : -1000 ≤ most) (hM : most ≤ 1000) :
    Calls Try.prog 18 #[.int .i64 most, v, .bool up] w
      fun e w' => e = .returned (if most < cnt l + (if up then 1 else 0) then errLearners else .nilIface) ∧ Ext w w' := by
  obtain ⟨A, cap, hv, h1, h2, h3, hrow⟩ := h
  simp only [List.cons.injEq, and_true] at hv
  subst hv
  go_enter Try.func18, Try.ntmps18
  go_wp2
  go_loopw [7, 12] (fun n i wr => ∃ k : Nat, k ≤ l.length ∧ i = .int .i64 k ∧ n = .int .i64 (cnt (l.take k)) ∧ Ext w wr) (fun _ i _ => l.length - (intOf i).toNat)
  case atStart => exact ⟨0, Nat.zero_le _, rfl, by simp [cnt], Ext.refl _⟩
  case round =>
    obtain ⟨k, hk, rfl, rfl, he⟩ := hrel
    have n0 := cnt_nonneg (l.take k)
    have n1 : cnt (l.take k) ≤ k := by have := cnt_le (l.take k); have := List.length_take_le k l; omega
    by_cases hlt : k < l.length
    · obtain ⟨b, o, rfl, _⟩ := hrow.addr (by intro h; simp [h] at hlt)
      obtain ⟨cs, hcl, ⟨b2, rfl, _, hc2⟩, hc⟩ := hrow.at rfl (List.getElem?_eq_getElem hlt)
      have c0 : wr.cell? ⟨b, o + k, none⟩ = some (.pointer (some ⟨b2, 0, none⟩)) := he.cellS (by have := hc 0 (by decide); simpa [kPtr] using this)
      have c1 := he.cellS hc2
      have hsn : Hid (cnt (l.take (k + 1)) = cnt (l.take k) + if l[k] then 1 else 0) := by rw [List.take_succ_eq_append_getElem hlt]; exact cnt_snoc _ _
      clear hc hcl h3 hc2
      cases hb : l[k] with
      | true =>
        rw [hb] at c1 hsn
        go_wp2
        go_roundw
        case rel => exact ⟨k + 1, by omega, by go_num, by rw [hsn.out]; simp, he⟩
        case measure => simp [intOf]; omega
      | false =>
        rw [hb] at c1 hsn
        go_wp2
        go_roundw
        case rel => exact ⟨k + 1, by omega, by go_num, by rw [hsn.out]; simp, he⟩
        case measure => simp [intOf]; omega
    · have hkl : l.take k = l := List.take_of_length_le (by omega)
      rw [hkl] at n0 n1 ⊢
      cases up with
      | true =>
        by_cases hbig : most < cnt l + 1
        · go_wp2
          go_ret
          refine ⟨?_, he⟩
          simp [hbig]
        · go_wp2
          go_ret
          exact ⟨by simp [hbig], he⟩
      | false =>
        by_cases hbig : most < cnt l
        · go_wp2
          go_ret
          refine ⟨?_, he⟩
          simp [hbig]
        · go_wp2
          go_ret
          exact ⟨by simp [hbig], he⟩

/-- errors of one type of texts: equal just if their texts are -/
theorem run_eqErr (a b : ByteArray) (w : World) : (binOp .eql 44 (.iface 57 (.string a)) (.iface 57 (.string b))).run Try.prog w = .ok (.bool (a == b)) w := by kernel_rfl
theorem memKind_any (w : World) :
    Calls Try.prog 19 #[errLearners] w fun e w' => e = .returned (.int .i64 28) ∧ Ext w w' := by
  go_enter Try.func19, Try.ntmps19
  have hq := run_eqErr
  go_wp2
  all_goals
    go_ret
    first
    | exact ⟨rfl, Ext.refl _⟩
    | (exfalso; rename_i hx; revert hx; decide)

theorem Try.infoPtr : (Try.prog.info? 41).map (fun i => (i.zero, i.size, i.bytes)) = some (some (.pointer none), 1, 8) := by kernel_rfl

/-- the cells of an element of a slice of members, in a later world -/
theorem mem_at {w wr : World} {ok : Nat → Prop} {A : Option Addr} {xs : List Mem} (hrow : kMem.row w ok A xs) {b o : Nat} (hA : A = some ⟨b, o, none⟩) {k : Nat} (hlt : k < xs.length) (he : Ext w wr) :
    ∃ A2 k2 A3 k3, (Rp.slice Rp.str).K w ok xs[k].peers [.slice A2 xs[k].peers.length k2] ∧ (Rp.slice Rp.str).K w ok xs[k].clients [.slice A3 xs[k].clients.length k3] ∧
      wr.cell? ⟨b, o + k * 5, none⟩ = some (.int .u64 xs[k].id) ∧ wr.cell? ⟨b, o + k * 5 + 1, none⟩ = some (.string xs[k].name) ∧ wr.cell? ⟨b, o + k * 5 + 2, none⟩ = some (.slice A2 xs[k].peers.length k2) ∧
      wr.cell? ⟨b, o + k * 5 + 3, none⟩ = some (.slice A3 xs[k].clients.length k3) ∧ wr.cell? ⟨b, o + k * 5 + 4, none⟩ = some (.bool xs[k].learner) ∧ kMem.K w ok xs[k] [.int .u64 xs[k].id, .string xs[k].name, .slice A2 xs[k].peers.length k2, .slice A3 xs[k].clients.length k3, .bool xs[k].learner] := by
  obtain ⟨cs, hl, hK, hc⟩ := hrow.at hA (List.getElem?_eq_getElem hlt)
  obtain ⟨A2, c2, A3, c3, rfl, w0, w1, hp, hq⟩ := kMem_open hK
  rw [kMem_sz] at hc
  refine ⟨_, _, _, _, hp, hq, he.cellS (hc 0 (by decide)), he.cellS ?_, he.cellS ?_, he.cellS ?_, he.cellS ?_, hK⟩
  · have := hc 1 (by decide); rwa [← Nat.add_assoc] at this
  · have := hc 2 (by decide); rwa [← Nat.add_assoc] at this
  · have := hc 3 (by decide); rwa [← Nat.add_assoc] at this
  · have := hc 4 (by decide); rwa [← Nat.add_assoc] at this

/-- what both answer: 28, or nothing -/
def learnersAns (most : Int) (ms : List Mem) (up : Bool) : Int := if most < cnt (ms.map (·.learner)) + (if up then 1 else 0) then 28 else 0

set_option maxHeartbeats 1000000 in
theorem implLearners_any (most : Int) (v : Value) (ms : List Mem) (up : Bool) (w : World) (h : (Rp.slice kMem).K w any ms [v]) (hl : ms.length ≤ 40) (hsm : ∀ m ∈ ms, MemSmall m) (hm : -1000 ≤ most) (hM : most ≤ 1000) :
    Calls Try.prog 9 #[.int .i64 most, v, .bool up] w fun e w' => e = .returned (.int .i64 (learnersAns most ms up)) ∧ Ext w w' := by
  obtain ⟨i0, hi, hz0, hz1, hz2⟩ := info_parts Try.infoPtr
  obtain ⟨A, cap, hv, h1, h2, h3, hrow⟩ := h
  simp only [List.cons.injEq, and_true] at hv
  subst hv
  have HS := Lib.hid hsm
  clear hsm
  go_enter Try.func9, Try.ntmps9
  go_wp2
  go_loopw [7, 8] (fun l i wr => ∃ (k : Nat), k ≤ ms.length ∧ i = .int .i64 k ∧ Ext w wr ∧ OwnL kPtr wr w.heap.size 41 l ((ms.take k).map (·.learner))) (fun _ i _ => ms.length - (intOf i).toNat)
  case atStart => exact ⟨0, Nat.zero_le _, rfl, Ext.refl _, OwnL.nil _ _ _ _⟩
  case round =>
    obtain ⟨k, hk, rfl, he, hown⟩ := hrel
    by_cases hlt : k < ms.length
    · obtain ⟨b, o, rfl, _⟩ := hrow.addr (by intro h; simp [h] at hlt)
      obtain ⟨A2, k2, A3, k3, hp, hq, c0, c1, c2, c3, c4, hKm⟩ := mem_at hrow rfl hlt he
      have hms := HS.out ms[k] (List.getElem_mem hlt)
      have HT : Hid ((ms.take (k + 1)).map (·.learner) = (ms.take k).map (·.learner) ++ [ms[k].learner]) := Lib.hid (by rw [List.take_succ_eq_append_getElem hlt, List.map_append]; rfl)
      have HL : Hid (((ms.take k).map (·.learner)).length = k) := Lib.hid (by simp; omega)
      generalize ms[k] = m at *
      generalize hls : (ms.take k).map (·.learner) = ls at *
      have HLS := Lib.hid hls
      clear hls
      go_wp2_with fail
      refine (memIn_any m _ _ _ ((Rp.slice Rp.str).ext' he hp) ((Rp.slice Rp.str).ext' he hq) hms).mono ?_
      rintro e w1 ⟨b2, rfl, hb2, hc2, e1⟩
      have own2 : OwnL kPtr (w1.alloc (.cells [Value.pointer (some ⟨b2, 0, none⟩)].toArray 41)) w.heap.size 41 u7 ls := hown.ext (e1.alloc _)
      have hK : ∀ i y, [m.learner][i]? = some y → kPtr.K (w1.alloc (.cells [Value.pointer (some ⟨b2, 0, none⟩)].toArray 41)) (fun b => some b ≠ u7.ownBlock) y (([Value.pointer (some ⟨b2, 0, none⟩)].drop (i * kPtr.sz)).take kPtr.sz) := by
        intro i y hy
        cases i with
        | zero =>
          simp at hy
          subst hy
          exact ⟨b2, rfl, hown.notOwn (.inl hb2), ((Ext.refl w1).alloc _).cellS hc2⟩
        | succ n => simp at hy
      have h63 : ls.length + [m.learner].length ≤ maxLen := by have := HL.out; simp [maxLen]; omega
      have hby : (ls.length + [m.learner].length) * 8 ≤ 140737488355328 := by have := HL.out; simp; omega
      have hbs : w.heap.size ≤ (w1.alloc (.cells [Value.pointer (some ⟨b2, 0, none⟩)].toArray 41)).heap.size := (he.trans (e1.alloc _)).size
      have HK := Lib.hid hK
      clear hK hc2
      go_wp2_with (at_builtin; refine wpList_app (d := kPtr) (base := w.heap.size) rfl (.tmp 16) (.tmp 22) 40 rfl 41 i0 _ 8 Try.underlying40 hi hz0 hz1 hz2 rfl (v := u7) rfl own2 ⟨w1.heap.size, 0, none⟩ 1 _ [m.learner] rfl rfl (lit_cells w1 _ _) HK.out h63 hby hbs ?_; intro v' w2 own3 g2 f2)
      go_roundw
      case rel => exact ⟨k + 1, by omega, by go_num, ExtB.ext ((Ext.toB (he.trans (e1.alloc _)) (Nat.le_refl _)).trans (ExtB.ofGrown g2 (fun k hk => (hown.own k hk).1) hbs)), by rw [HT.out]; exact own3⟩
      case measure => simp [intOf]; omega
    · have hkl : ms.take k = ms := List.take_of_length_le (by omega)
      rw [hkl] at hown
      go_wp2_with fail
      refine (validate_any most u7 (ms.map (·.learner)) up _ hown.slice (by simp; omega) hm hM).mono ?_
      rintro e w2 ⟨he2, e2⟩
      by_cases hbig : most < cnt (ms.map (·.learner)) + (if up then 1 else 0)
      · rw [if_pos hbig] at he2
        subst he2
        go_wp2_with (go_at_call 19; refine (memKind_any _).mono ?_; rintro e w3 ⟨rfl, e3⟩)
        go_ret
        exact ⟨by simp only [learnersAns]; rw [if_pos hbig]; rfl, (he.trans e2).trans e3⟩
      · rw [if_neg hbig] at he2
        subst he2
        go_wp2
        go_ret
        exact ⟨by simp only [learnersAns]; rw [if_neg (by omega)]; rfl, he.trans e2⟩

theorem Try.infoMem : (Try.prog.info? 32).map (fun i => (i.zero, i.size, i.bytes)) = some (some (.agg #[.int .u64 0, .string ⟨#[]⟩, .slice none 0 0, .slice none 0 0, .bool false]), 5, 80) := by kernel_rfl

/-- those that vote -/
def voters (ms : List Mem) : List Mem := ms.filter fun m => !m.learner
theorem voters_cnt (ms : List Mem) : (ms.length : Int) - (voters ms).length = cnt (ms.map (·.learner)) := by
  unfold voters cnt
  induction ms with
  | nil => rfl
  | cons m ms ih =>
    cases h : m.learner <;> simp [h] at ih ⊢ <;> omega
theorem voters_snoc (ms : List Mem) (m : Mem) : voters (ms ++ [m]) = voters ms ++ (if m.learner then [] else [m]) := by
  unfold voters; cases h : m.learner <;> simp [h]

set_option maxHeartbeats 1000000 in
theorem memVoters_any (v : Value) (ms : List Mem) (w : World) (h : (Rp.slice kMem).K w any ms [v]) (hl : ms.length ≤ 40) :
    Calls Try.prog 24 #[v] w fun e w' => (∃ v', e = .returned v' ∧ OwnL kMem w' w.heap.size 32 v' (voters ms)) ∧ Ext w w' := by
  obtain ⟨i0, hi, hz0, hz1, hz2⟩ := info_parts Try.infoMem
  obtain ⟨A, cap, hv, h1, h2, h3, hrow⟩ := h
  simp only [List.cons.injEq, and_true] at hv
  subst hv
  go_enter Try.func24, Try.ntmps24
  go_wp2
  go_loopw [3, 8] (fun l i wr => ∃ (k : Nat), k ≤ ms.length ∧ i = .int .i64 k ∧ Ext w wr ∧ OwnL kMem wr w.heap.size 32 l (voters (ms.take k))) (fun _ i _ => ms.length - (intOf i).toNat)
  case atStart => exact ⟨0, Nat.zero_le _, rfl, Ext.refl _, OwnL.nil _ _ _ _⟩
  case round =>
    obtain ⟨k, hk, rfl, he, hown⟩ := hrel
    by_cases hlt : k < ms.length
    · obtain ⟨b, o, rfl, _⟩ := hrow.addr (by intro h; simp [h] at hlt)
      obtain ⟨A2, k2, A3, k3, hp, hq, c0, c1, c2, c3, c4, hKm⟩ := mem_at hrow rfl hlt he
      have HT : Hid (voters (ms.take (k + 1)) = voters (ms.take k) ++ (if ms[k].learner then [] else [ms[k]])) := Lib.hid (by rw [List.take_succ_eq_append_getElem hlt, voters_snoc])
      have HL : Hid ((voters (ms.take k)).length ≤ k) := Lib.hid (by unfold voters; exact Nat.le_trans (List.length_filter_le _ _) (List.length_take_le _ _))
      generalize ms[k] = m at *
      generalize hls : voters (ms.take k) = ls at *
      have HLS := Lib.hid hls
      clear hls
      cases hml : m.learner with
      | true =>
        rw [hml] at c4
        go_wp2_with fail
        go_roundw
        case rel => exact ⟨k + 1, by omega, by go_num, he.alloc _, by rw [HT.out, hml]; simpa using hown.ext ((Ext.refl _).alloc _)⟩
        case measure => simp [intOf]; omega
      | false =>
        rw [hml] at c4
        generalize hcs : [Value.int .u64 m.id, Value.string m.name, Value.slice A2 m.peers.length k2, Value.slice A3 m.clients.length k3, Value.bool false] = cs at *
        have hcsl : cs.length = 5 := by rw [← hcs]; rfl
        have hKm' : kMem.K w any m cs := by rw [← hcs]; rw [hml] at hKm; exact hKm
        have own2 : OwnL kMem ((wr.alloc (.cells cs.toArray 32)).alloc (.cells cs.toArray 32)) w.heap.size 32 u3 ls := hown.ext (((Ext.refl _).alloc _).alloc _)
        have E2 : Ext w ((wr.alloc (.cells cs.toArray 32)).alloc (.cells cs.toArray 32)) := (he.alloc _).alloc _
        have hK : Hid (∀ i y, [m][i]? = some y → kMem.K ((wr.alloc (.cells cs.toArray 32)).alloc (.cells cs.toArray 32)) (fun b => some b ≠ u3.ownBlock) y ((cs.drop (i * kMem.sz)).take kMem.sz)) := by
          intro i y hy
          cases i with
          | zero =>
            simp at hy
            subst hy
            rw [Nat.zero_mul, List.drop_zero, List.take_of_length_le (by rw [hcsl]; decide)]
            exact kMem.mono (fun b hb => own2.notOwn (.inr hb.2)) (kMem.ext' E2 (kMem.lt hKm'))
          | succ n => simp at hy
        have hnews : Hid (∀ j u, cs[j]? = some u → ((wr.alloc (.cells cs.toArray 32)).alloc (.cells cs.toArray 32)).cell? ((⟨wr.heap.size + 1, 0, none⟩ : Addr).add j) = some u) := by
          have h := lit_cells (wr.alloc (.cells cs.toArray 32)) 32 cs
          rw [World.size_alloc] at h
          exact h
        have h63 : ls.length + [m].length ≤ maxLen := by have := HL.out; simp [maxLen]; omega
        have hby : (ls.length + [m].length) * 80 ≤ 140737488355328 := by have := HL.out; simp; omega
        have hbs := E2.size
        have hl5 : cs.length = [m].length * kMem.sz := by rw [hcsl]; rfl
        have HCS := Lib.hid hcs
        subst hcs
        clear HCS hKm hKm' hcsl
        go_wp2_with (at_builtin; refine wpList_app (d := kMem) (base := w.heap.size) rfl (.tmp 15) (.tmp 17) 26 rfl 32 i0 _ 80 Try.underlying26 hi hz0 hz1 hz2 rfl (v := u3) rfl own2 ⟨wr.heap.size + 1, 0, none⟩ 1 _ [m] rfl hl5 hnews.out hK.out h63 hby hbs ?_; intro v' w2 own3 g2 f2)
        go_roundw
        case rel => exact ⟨k + 1, by omega, by go_num, ExtB.ext ((Ext.toB E2 (Nat.le_refl _)).trans (ExtB.ofGrown g2 (fun k hk => (hown.own k hk).1) hbs)), by rw [HT.out, hml]; exact own3⟩
        case measure => simp [intOf]; omega
    · have hkl : ms.take k = ms := List.take_of_length_le (by omega)
      rw [hkl] at hown
      go_wp2_with fail
      go_ret
      exact ⟨⟨_, rfl, hown⟩, he⟩

theorem memLearners_any (v : Value) (ms : List Mem) (w : World) (h : (Rp.slice kMem).K w any ms [v]) (hl : ms.length ≤ 40) :
    Calls Try.prog 20 #[v] w fun e w' => e = .returned (.int .i64 (cnt (ms.map (·.learner)))) ∧ Ext w w' := by
  have hc := voters_cnt ms
  have hv : (voters ms).length ≤ ms.length := List.length_filter_le _ _
  obtain ⟨A, cap, hv, _⟩ := id h
  simp only [List.cons.injEq, and_true] at hv
  subst hv
  have HC := Lib.hid hc
  clear hc
  go_enter Try.func20, Try.ntmps20
  go_wp2_with fail
  refine (memVoters_any _ ms _ h hl).mono ?_
  rintro e w1 ⟨⟨v', rfl, ho⟩, e1⟩
  obtain ⟨A', c', rfl, _⟩ := ho.shape
  go_wp2
  go_ret
  exact ⟨by rw [← HC.out]; rfl, e1⟩

theorem specLearners_any (most : Int) (v : Value) (ms : List Mem) (up : Bool) (w : World) (h : (Rp.slice kMem).K w any ms [v]) (hl : ms.length ≤ 40) (hm : -1000 ≤ most) (hM : most ≤ 1000) :
    Calls Try.prog 10 #[.int .i64 most, v, .bool up] w fun e w' => e = .returned (.int .i64 (learnersAns most ms up)) ∧ Ext w w' := by
  have n0 := cnt_nonneg (ms.map (·.learner))
  have n1 := cnt_le (ms.map (·.learner))
  rw [List.length_map] at n1
  unfold learnersAns
  generalize hn : cnt (ms.map (·.learner)) = n at *
  have HN := Lib.hid hn
  clear hn
  cases up with
  | true =>
    by_cases hbig : most < n + 1
    · rw [if_pos (by simpa using hbig)]
      go_enter Try.func10, Try.ntmps10
      go_wp2_with fail
      refine (memLearners_any _ ms _ h hl).mono ?_
      rintro e w1 ⟨rfl, e1⟩
      rw [HN.out]
      go_wp2
      go_ret
      exact ⟨rfl, e1⟩
    · rw [if_neg (by simpa using hbig)]
      go_enter Try.func10, Try.ntmps10
      go_wp2_with fail
      refine (memLearners_any _ ms _ h hl).mono ?_
      rintro e w1 ⟨rfl, e1⟩
      rw [HN.out]
      go_wp2
      go_ret
      exact ⟨rfl, e1⟩
  | false =>
    by_cases hbig : most < n
    · rw [if_pos (by simpa using hbig)]
      go_enter Try.func10, Try.ntmps10
      go_wp2_with fail
      refine (memLearners_any _ ms _ h hl).mono ?_
      rintro e w1 ⟨rfl, e1⟩
      rw [HN.out]
      go_wp2
      go_ret
      exact ⟨rfl, e1⟩
    · rw [if_neg (by simpa using hbig)]
      go_enter Try.func10, Try.ntmps10
      go_wp2_with fail
      refine (memLearners_any _ ms _ h hl).mono ?_
      rintro e w1 ⟨rfl, e1⟩
      rw [HN.out]
      go_wp2
      go_ret
      exact ⟨rfl, e1⟩
end Go.Proofs.Ytogojpckjamkjaa
