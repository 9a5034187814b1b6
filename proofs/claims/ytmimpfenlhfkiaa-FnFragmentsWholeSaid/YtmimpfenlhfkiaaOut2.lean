/-
  A response read back as data (impl.sentOut).
-/
import Derived.Test.YtmimpfenlhfkiaaOut
namespace Go.Proofs.Ytmimpfenlhfkiaa
open Go.RowKit
set_option linter.unusedSimpArgs false
set_option linter.unusedVariables false

/-- events in cells, whatever their numbers -/
def Rp.evx : Rp EvD := ⟨fun _ _ y cs => cs = evCells y, 14, by decide, fun h => by rw [h]; rfl, fun _ h => h, fun _ h => h, fun h => h, fun h u hu => by rw [h] at hu; simp at hu; rcases hu with rfl | rfl | rfl | rfl | rfl | rfl | rfl | rfl | rfl | rfl | rfl | rfl | rfl | rfl <;> rfl⟩
theorem slice_evx {w : World} {ok : Nat → Prop} {xs : List EvD} {cs : List Value} (h : (Rp.slice Rp.ev).K w ok xs cs) : (Rp.slice Rp.evx).K w ok xs cs := by
  obtain ⟨A, cap, h1, h2, h3, h4, h5⟩ := h
  refine ⟨A, cap, h1, h2, h3, h4, fun i x hx => ?_⟩
  obtain ⟨b, o, c, k1, k2, k3, k4⟩ := h5 i x hx
  exact ⟨b, o, c, k1, k2, k3, (ev_cells k4).1⟩
theorem infoEv : (Try.prog.info? 37).map (fun i => (i.zero.map (·.cells.size), i.size, i.bytes)) = some (some 14, 14, 144) := by kernel_rfl
theorem info_parts2 {P : Program} {t : TypeId} {n s b : Nat} (h : (P.info? t).map (fun i => (i.zero.map (·.cells.size), i.size, i.bytes)) = some (some n, s, b)) :
    ∃ i z, P.info? t = some i ∧ i.zero = some z ∧ i.size = s ∧ i.bytes = b ∧ z.cells.size = n := by
  cases hq : P.info? t with
  | none => simp [hq] at h
  | some i =>
    simp only [hq, Option.map_some, Option.some.injEq, Prod.mk.injEq, Option.map_eq_some_iff] at h
    obtain ⟨⟨z, h1, h2⟩, h3, h4⟩ := h
    exact ⟨i, z, rfl, h1, h3, h4, h2⟩
theorem header_any (bh : Nat) (r : Int) (w : World) (K : Blk w bh 56 [.int .u64 0, .int .u64 0, .int .i64 r, .int .u64 0]) :
    Calls Try.prog 23 #[.pointer (some ⟨bh, 0, none⟩)] w fun e w' => e = .returned (.int .i64 r) ∧ w = w' := by
  have c2 := K.cell (o := 2) rfl
  go_enter Try.func23, Try.ntmps23
  go_wp2
  go_ret
  exact ⟨rfl, rfl⟩
abbrev sentZero : List Value := [.int .i64 0, .int .i64 0, .int .i64 0, .bool false, .bool false, .bool false, .string ⟨#[]⟩, .slice none 0 0]
/-- an event that has no earlier key-value says so -/
def EvD.plain (x : EvD) : Prop := x.hasPrev = false → x.prev = ⟨⟨#[]⟩, ⟨#[]⟩, 0, 0, 0, 0⟩

noncomputable def ops_18_1 : Array Oper := opsAt Try.f18 1
noncomputable def ops_18_5 : Array Oper := opsAt Try.f18 5
set_option maxHeartbeats 2000000 in
set_option maxRecDepth 20000 in
theorem sentOut_any (b : Nat) (x : RespD) (w : World) (hp : ∀ y : EvD, y ∈ x.events → y.plain) (hn : x.events.length ≤ 1000) (h : RespAt w any x b) :
    Calls Try.prog 18 #[.pointer (some ⟨b, 0, none⟩)] w fun e w' => ∃ A cap, e = .returned (sentV x A cap) ∧ (Rp.slice Rp.evx).K w' (fun j => w.heap.size ≤ j) x.events [.slice A x.events.length cap] ∧ Ext w w' := by
  obtain ⟨_, bh, A, cap, K, _, KH, hm, hs⟩ := h
  have HP := Lib.hid hp
  have HS := Lib.hid hs
  clear hp hs
  have c0w := K.cell (o := 0) rfl
  have c1w := K.cell (o := 1) rfl
  have c2w := K.cell (o := 2) rfl
  have c3w := K.cell (o := 3) rfl
  have c4w := K.cell (o := 4) rfl
  have c5w := K.cell (o := 5) rfl
  have c6w := K.cell (o := 6) rfl
  have c7w := K.cell (o := 7) rfl
  go_enter Try.func18, Try.ntmps18
  go_wp2_with fail
  obtain ⟨W, hW⟩ : ∃ W, W = w.alloc (.cells sentZero.toArray 24) := ⟨_, rfl⟩
  have E : Ext w W := by rw [hW]; exact (Ext.refl w).alloc _
  have KR : Blk W w.heap.size 24 sentZero := by rw [hW]; exact Blk.new w _ _
  change Code.wp _ _ _ _ (w.alloc (.cells sentZero.toArray 24))
  rw [← hW]
  clear hW
  have c0 := E.cellS c0w
  have c1 := E.cellS c1w
  have c2 := E.cellS c2w
  have c3 := E.cellS c3w
  have c4 := E.cellS c4w
  have c5 := E.cellS c5w
  have c6 := E.cellS c6w
  have KH1 := KH.ext E
  have hb0 := K.lt
  refine wp_region_sched (ops := ops_18_1) Ext [31] (.quiet 0 (.quiet 1 (.quiet 2 (.quiet 3 (.quiet 4 (.quiet 5 (.quiet 6 (.quiet 7 (.quiet 9 (.quiet 10 (.quiet 11 (.quiet 12 (.quiet 13 (.quiet 14 (.quiet 15 (.quiet 16 (.quiet 17 (.quiet 18 (.quiet 19 (.quiet 20 (.quiet 21 (.quiet 22 (.quiet 23 (.quiet 24 (.quiet 25 (.quiet 26 (.quiet 27 (.quiet 28 (.loud 8 (.quiet 29 (.loud 30 (.last 31 (.done)) (.stop))) (.loud 30 (.loud 8 (.quiet 29 (.last 31 (.done))) (.stop)) (.stop))))))))))))))))))))))))))))))) (by kernel_rfl) ext_refl ext_trans (by kernel_rfl) (fun _ _ d _ _ h => by cases d <;> exact h) ?_
  replace E := E.drew
  replace KR := KR.drew
  refine wpS_quiet (some 5) { dst := some 5, op := Op.move (Operand.tmp 0), type := _, pos := _, after := _, guard := none } _ rfl rfl (by rfl) (fun wE hE => by (go_simp; try with_reducible rfl)) ?_; simp only [Act.put, List.setIfInBounds_toArray, List.set_cons_zero, List.set_cons_succ]
  refine wpS_quiet (some 6) { dst := some 6, op := Op.nilCheck (Operand.tmp 5), type := _, pos := _, after := _, guard := none } _ rfl rfl (by rfl) (fun wE hE => by (go_simp; try with_reducible rfl)) ?_; simp only [Act.put, List.setIfInBounds_toArray, List.set_cons_zero, List.set_cons_succ]
  refine wpS_quiet (some 7) { dst := some 7, op := Op.fieldAddr 59 (Operand.tmp 6) 1, type := _, pos := _, after := _, guard := none } _ rfl rfl (by rfl) (fun wE hE => by (go_simp; try with_reducible rfl)) ?_; simp only [Act.put, List.setIfInBounds_toArray, List.set_cons_zero, List.set_cons_succ]
  refine wpS_quiet (some 8) { dst := some 8, op := Op.load 2 (Operand.tmp 7), type := _, pos := _, after := _, guard := none } _ rfl rfl (by rfl) (fun wE hE => by (have zk0 := hE.cellS c0; have zk1 := hE.cellS c1; have zk2 := hE.cellS c2; have zk3 := hE.cellS c3; have zk4 := hE.cellS c4; have zk5 := hE.cellS c5; have zk6 := hE.cellS c6; go_simp; try with_reducible rfl)) ?_; simp only [Act.put, List.setIfInBounds_toArray, List.set_cons_zero, List.set_cons_succ]
  refine wpS_quiet (some 9) { dst := some 9, op := Op.move (Operand.tmp 0), type := _, pos := _, after := _, guard := none } _ rfl rfl (by rfl) (fun wE hE => by (go_simp; try with_reducible rfl)) ?_; simp only [Act.put, List.setIfInBounds_toArray, List.set_cons_zero, List.set_cons_succ]
  refine wpS_quiet (some 10) { dst := some 10, op := Op.nilCheck (Operand.tmp 9), type := _, pos := _, after := _, guard := none } _ rfl rfl (by rfl) (fun wE hE => by (go_simp; try with_reducible rfl)) ?_; simp only [Act.put, List.setIfInBounds_toArray, List.set_cons_zero, List.set_cons_succ]
  refine wpS_quiet (some 11) { dst := some 11, op := Op.fieldAddr 59 (Operand.tmp 10) 0, type := _, pos := _, after := _, guard := none } _ rfl rfl (by rfl) (fun wE hE => by (go_simp; try with_reducible rfl)) ?_; simp only [Act.put, List.setIfInBounds_toArray, List.set_cons_zero, List.set_cons_succ]
  refine wpS_quiet (some 12) { dst := some 12, op := Op.load 53 (Operand.tmp 11), type := _, pos := _, after := _, guard := none } _ rfl rfl (by rfl) (fun wE hE => by (have zk0 := hE.cellS c0; have zk1 := hE.cellS c1; have zk2 := hE.cellS c2; have zk3 := hE.cellS c3; have zk4 := hE.cellS c4; have zk5 := hE.cellS c5; have zk6 := hE.cellS c6; go_simp; try with_reducible rfl)) ?_; simp only [Act.put, List.setIfInBounds_toArray, List.set_cons_zero, List.set_cons_succ]
  refine wpS_quiet (some 14) { dst := some 14, op := Op.move (Operand.tmp 0), type := _, pos := _, after := _, guard := none } _ rfl rfl (by rfl) (fun wE hE => by (go_simp; try with_reducible rfl)) ?_; simp only [Act.put, List.setIfInBounds_toArray, List.set_cons_zero, List.set_cons_succ]
  refine wpS_quiet (some 15) { dst := some 15, op := Op.nilCheck (Operand.tmp 14), type := _, pos := _, after := _, guard := none } _ rfl rfl (by rfl) (fun wE hE => by (go_simp; try with_reducible rfl)) ?_; simp only [Act.put, List.setIfInBounds_toArray, List.set_cons_zero, List.set_cons_succ]
  refine wpS_quiet (some 16) { dst := some 16, op := Op.fieldAddr 59 (Operand.tmp 15) 4, type := _, pos := _, after := _, guard := none } _ rfl rfl (by rfl) (fun wE hE => by (go_simp; try with_reducible rfl)) ?_; simp only [Act.put, List.setIfInBounds_toArray, List.set_cons_zero, List.set_cons_succ]
  refine wpS_quiet (some 17) { dst := some 17, op := Op.load 2 (Operand.tmp 16), type := _, pos := _, after := _, guard := none } _ rfl rfl (by rfl) (fun wE hE => by (have zk0 := hE.cellS c0; have zk1 := hE.cellS c1; have zk2 := hE.cellS c2; have zk3 := hE.cellS c3; have zk4 := hE.cellS c4; have zk5 := hE.cellS c5; have zk6 := hE.cellS c6; go_simp; try with_reducible rfl)) ?_; simp only [Act.put, List.setIfInBounds_toArray, List.set_cons_zero, List.set_cons_succ]
  refine wpS_quiet (some 18) { dst := some 18, op := Op.move (Operand.tmp 0), type := _, pos := _, after := _, guard := none } _ rfl rfl (by rfl) (fun wE hE => by (go_simp; try with_reducible rfl)) ?_; simp only [Act.put, List.setIfInBounds_toArray, List.set_cons_zero, List.set_cons_succ]
  refine wpS_quiet (some 19) { dst := some 19, op := Op.nilCheck (Operand.tmp 18), type := _, pos := _, after := _, guard := none } _ rfl rfl (by rfl) (fun wE hE => by (go_simp; try with_reducible rfl)) ?_; simp only [Act.put, List.setIfInBounds_toArray, List.set_cons_zero, List.set_cons_succ]
  refine wpS_quiet (some 20) { dst := some 20, op := Op.fieldAddr 59 (Operand.tmp 19) 2, type := _, pos := _, after := _, guard := none } _ rfl rfl (by rfl) (fun wE hE => by (go_simp; try with_reducible rfl)) ?_; simp only [Act.put, List.setIfInBounds_toArray, List.set_cons_zero, List.set_cons_succ]
  refine wpS_quiet (some 21) { dst := some 21, op := Op.load 4 (Operand.tmp 20), type := _, pos := _, after := _, guard := none } _ rfl rfl (by rfl) (fun wE hE => by (have zk0 := hE.cellS c0; have zk1 := hE.cellS c1; have zk2 := hE.cellS c2; have zk3 := hE.cellS c3; have zk4 := hE.cellS c4; have zk5 := hE.cellS c5; have zk6 := hE.cellS c6; go_simp; try with_reducible rfl)) ?_; simp only [Act.put, List.setIfInBounds_toArray, List.set_cons_zero, List.set_cons_succ]
  refine wpS_quiet (some 22) { dst := some 22, op := Op.move (Operand.tmp 0), type := _, pos := _, after := _, guard := none } _ rfl rfl (by rfl) (fun wE hE => by (go_simp; try with_reducible rfl)) ?_; simp only [Act.put, List.setIfInBounds_toArray, List.set_cons_zero, List.set_cons_succ]
  refine wpS_quiet (some 23) { dst := some 23, op := Op.nilCheck (Operand.tmp 22), type := _, pos := _, after := _, guard := none } _ rfl rfl (by rfl) (fun wE hE => by (go_simp; try with_reducible rfl)) ?_; simp only [Act.put, List.setIfInBounds_toArray, List.set_cons_zero, List.set_cons_succ]
  refine wpS_quiet (some 24) { dst := some 24, op := Op.fieldAddr 59 (Operand.tmp 23) 3, type := _, pos := _, after := _, guard := none } _ rfl rfl (by rfl) (fun wE hE => by (go_simp; try with_reducible rfl)) ?_; simp only [Act.put, List.setIfInBounds_toArray, List.set_cons_zero, List.set_cons_succ]
  refine wpS_quiet (some 25) { dst := some 25, op := Op.load 4 (Operand.tmp 24), type := _, pos := _, after := _, guard := none } _ rfl rfl (by rfl) (fun wE hE => by (have zk0 := hE.cellS c0; have zk1 := hE.cellS c1; have zk2 := hE.cellS c2; have zk3 := hE.cellS c3; have zk4 := hE.cellS c4; have zk5 := hE.cellS c5; have zk6 := hE.cellS c6; go_simp; try with_reducible rfl)) ?_; simp only [Act.put, List.setIfInBounds_toArray, List.set_cons_zero, List.set_cons_succ]
  refine wpS_quiet (some 26) { dst := some 26, op := Op.move (Operand.tmp 0), type := _, pos := _, after := _, guard := none } _ rfl rfl (by rfl) (fun wE hE => by (go_simp; try with_reducible rfl)) ?_; simp only [Act.put, List.setIfInBounds_toArray, List.set_cons_zero, List.set_cons_succ]
  refine wpS_quiet (some 27) { dst := some 27, op := Op.nilCheck (Operand.tmp 26), type := _, pos := _, after := _, guard := none } _ rfl rfl (by rfl) (fun wE hE => by (go_simp; try with_reducible rfl)) ?_; simp only [Act.put, List.setIfInBounds_toArray, List.set_cons_zero, List.set_cons_succ]
  refine wpS_quiet (some 28) { dst := some 28, op := Op.fieldAddr 59 (Operand.tmp 27) 6, type := _, pos := _, after := _, guard := none } _ rfl rfl (by rfl) (fun wE hE => by (go_simp; try with_reducible rfl)) ?_; simp only [Act.put, List.setIfInBounds_toArray, List.set_cons_zero, List.set_cons_succ]
  refine wpS_quiet (some 29) { dst := some 29, op := Op.load 4 (Operand.tmp 28), type := _, pos := _, after := _, guard := none } _ rfl rfl (by rfl) (fun wE hE => by (have zk0 := hE.cellS c0; have zk1 := hE.cellS c1; have zk2 := hE.cellS c2; have zk3 := hE.cellS c3; have zk4 := hE.cellS c4; have zk5 := hE.cellS c5; have zk6 := hE.cellS c6; go_simp; try with_reducible rfl)) ?_; simp only [Act.put, List.setIfInBounds_toArray, List.set_cons_zero, List.set_cons_succ]
  refine wpS_quiet (some 30) { dst := some 30, op := Op.move (Operand.tmp 0), type := _, pos := _, after := _, guard := none } _ rfl rfl (by rfl) (fun wE hE => by (go_simp; try with_reducible rfl)) ?_; simp only [Act.put, List.setIfInBounds_toArray, List.set_cons_zero, List.set_cons_succ]
  refine wpS_quiet (some 31) { dst := some 31, op := Op.nilCheck (Operand.tmp 30), type := _, pos := _, after := _, guard := none } _ rfl rfl (by rfl) (fun wE hE => by (go_simp; try with_reducible rfl)) ?_; simp only [Act.put, List.setIfInBounds_toArray, List.set_cons_zero, List.set_cons_succ]
  refine wpS_quiet (some 32) { dst := some 32, op := Op.fieldAddr 59 (Operand.tmp 31) 5, type := _, pos := _, after := _, guard := none } _ rfl rfl (by rfl) (fun wE hE => by (go_simp; try with_reducible rfl)) ?_; simp only [Act.put, List.setIfInBounds_toArray, List.set_cons_zero, List.set_cons_succ]
  refine wpS_quiet (some 33) { dst := some 33, op := Op.load 9 (Operand.tmp 32), type := _, pos := _, after := _, guard := none } _ rfl rfl (by rfl) (fun wE hE => by (have zk0 := hE.cellS c0; have zk1 := hE.cellS c1; have zk2 := hE.cellS c2; have zk3 := hE.cellS c3; have zk4 := hE.cellS c4; have zk5 := hE.cellS c5; have zk6 := hE.cellS c6; go_simp; try with_reducible rfl)) ?_; simp only [Act.put, List.setIfInBounds_toArray, List.set_cons_zero, List.set_cons_succ]
  refine wpS_callm (some 13) { dst := some 13, op := Op.call { callee := Callee.value (Operand.func 23), args := #[Operand.tmp 12], argTypes := #[53] }, type := _, pos := _, after := _, guard := none } 23 _ rfl rfl (by rfl) (by go_simp; try with_reducible rfl) ?_ ?_
  rotate_right
  · skip
    refine wpS_alloc (some 3) { dst := some 3, op := Op.alloc 24, type := _, pos := _, after := _, guard := none } _ _ rfl rfl (by rfl) (by go_simp; try with_reducible rfl) ?_ ?_ trivial
    exact fun w' h => h
    intro bx w3 hbx e3 KX
    have gx : w.heap.size < bx := by (have := KR.lt; omega)
    clear hbx
    replace KR := KR.ext e3
    have E := E.trans e3
    simp only [Act.put, List.setIfInBounds_toArray, List.set_cons_zero, List.set_cons_succ]
    refine wpS_callm (some 13) { dst := some 13, op := Op.call { callee := Callee.value (Operand.func 23), args := #[Operand.tmp 12], argTypes := #[53] }, type := _, pos := _, after := _, guard := none } 23 _ rfl rfl (by rfl) (by go_simp; try with_reducible rfl) ?_ trivial
    refine (header_any bh x.rev w3 (KH.ext E)).mono ?_
    rintro e w2 ⟨rfl, rfl⟩
    refine ⟨_, rfl, Ext.refl _, ?_⟩
    simp only [Act.put, List.setIfInBounds_toArray, List.set_cons_zero, List.set_cons_succ]
    refine wpS_quiet (some 34) { dst := some 34, op := Op.build 24 #[(0, Operand.tmp 8), (1, Operand.tmp 13), (2, Operand.tmp 17), (3, Operand.tmp 21), (4, Operand.tmp 25), (5, Operand.tmp 29), (6, Operand.tmp 33)], type := _, pos := _, after := _, guard := none } _ rfl rfl (by rfl) (fun wE hE => by (go_simp; try with_reducible rfl)) ?_; simp only [Act.put, List.setIfInBounds_toArray, List.set_cons_zero, List.set_cons_succ]
    refine wpS_store none { dst := none, op := Op.store 24 (Operand.tmp 3) (Operand.tmp 34), type := _, pos := _, after := _, guard := none } rfl rfl (by rfl) (.tmp 3) (.tmp 34) 24 rfl rfl rfl rfl KX rfl (Nat.le_refl 8) rfl ?_
    intro w4 K4 x4
    have X4 := (E.toX (fun k => k = bx)).trans x4
    replace KR := KR.extX x4 (by omega)
    simp only [Act.put, List.setIfInBounds_toArray, List.set_cons_zero, List.set_cons_succ]
    change Exit.then _ _ _ _ _
    have E4 : Ext w w4 := X4.toExt (fun j hj => by omega)
    go_wp2_with fail
    go_loopw [4] (fun i wr => ∃ (k : Nat) (v : Value), i = .int .i64 k ∧ k ≤ x.events.length ∧
      Hid (Blk wr bx 24 [.int .i64 x.id, .int .i64 x.rev, .int .i64 x.compact, .bool x.created, .bool x.canceled, .bool x.fragment, .string x.reason, v]) ∧ Hid (Blk wr w.heap.size 24 sentZero) ∧
      Hid (OwnP Rp.evx wr (fun j => w.heap.size < j ∧ j ≠ bx) (w.heap.size + 1) 37 v (x.events.take k)) ∧ Ext w wr) (fun i _ => x.events.length - (intOf i).toNat)
    case atStart => exact ⟨0, .slice none 0 0, rfl, Nat.zero_le _, Lib.hid K4, Lib.hid KR, Lib.hid (OwnP.nil _ _ _ _ _), E4⟩
    case round =>
      clear K4 KR KX X4 x4 E4
      obtain ⟨k, v, rfl, hk, hX, hR, hO, hE⟩ := hrel
      have c7 := hE.cellS c7w
      by_cases hlt : k < x.events.length
      · obtain ⟨A', cap', hv, p1, p2, p3, hrow⟩ := HS.out
        simp only [List.cons.injEq, Value.slice.injEq, and_true] at hv
        obtain ⟨rfl, _, rfl⟩ := hv
        obtain ⟨ba, o, rfl, _⟩ := hrow.addr (List.ne_nil_of_length_pos (by omega))
        obtain ⟨y, hy⟩ : ∃ y, x.events[k]? = some y := ⟨_, List.getElem?_eq_getElem hlt⟩
        obtain ⟨cs, _, ⟨be, rfl, hev⟩, hc⟩ := hrow.at rfl hy
        have hba : ba < w.heap.size := cell_lt (hc 0 (by decide))
        have cE0 : w.cell? ⟨ba, o + k, none⟩ = some (.pointer (some ⟨be, 0, none⟩)) := by simpa [Rp.evp] using hc 0 (by decide)
        have cE := hE.cellS cE0
        have HEV := Lib.hid (EvAt.ext hev hE)
        have HY := Lib.hid hy
        have hpl := Lib.hid (HP.out y (List.mem_of_getElem? hy))
        clear hrow hy hev hc cE0
        have cX := hX.out.cell (o := 7) rfl
        have HNO : Hid (∀ j, j < w.heap.size + 1 ∨ j = bx → ¬ some j = v.ownBlock) := Lib.hid (fun j hj he => by have := hO.out.1 j he.symm; omega)
        have hbx := hX.out.lt
        go_wp2_with fail
        refine wp_region_sched (ops := ops_18_5) (ExtX (fun j => some j = v.ownBlock)) [13] (.quiet 0 (.quiet 1 (.quiet 2 (.quiet 3 (.quiet 4 (.quiet 5 (.quiet 6 (.quiet 7 (.quiet 8 (.loud 9 (.loud 10 (.loud 11 (.quiet 12 (.last 13 (.done))) (.stop)) (.stop)) (.stop))))))))))) (by kernel_rfl) (ExtX.refl (fun j => some j = v.ownBlock)) (fun _ _ _ => ExtX.trans) (by kernel_rfl) (fun _ _ d _ _ h => by cases d <;> exact h) ?_
        refine wpS_quiet (some 44) { dst := some 44, op := Op.fieldAddr 24 (Operand.tmp 3) 7, type := _, pos := _, after := _, guard := none } _ rfl rfl (by rfl) (fun wE hE => by (go_simp; try with_reducible rfl)) ?_; simp only [Act.put, List.setIfInBounds_toArray, List.set_cons_zero, List.set_cons_succ]
        refine wpS_quiet (some 45) { dst := some 45, op := Op.load 22 (Operand.tmp 44), type := _, pos := _, after := _, guard := none } _ rfl rfl (by rfl) (fun wE hE => by (have zk0 := hE.cellS (by first | exact HNO.out _ (.inr rfl) | exact HNO.out _ (.inl (by simp only []; omega))) c7; have zk1 := hE.cellS (by first | exact HNO.out _ (.inr rfl) | exact HNO.out _ (.inl (by simp only []; omega))) cX; have zk2 := hE.cellS (by first | exact HNO.out _ (.inr rfl) | exact HNO.out _ (.inl (by simp only []; omega))) cE; go_simp; try with_reducible rfl)) ?_; simp only [Act.put, List.setIfInBounds_toArray, List.set_cons_zero, List.set_cons_succ]
        refine wpS_quiet (some 46) { dst := some 46, op := Op.move (Operand.tmp 0), type := _, pos := _, after := _, guard := none } _ rfl rfl (by rfl) (fun wE hE => by (go_simp; try with_reducible rfl)) ?_; simp only [Act.put, List.setIfInBounds_toArray, List.set_cons_zero, List.set_cons_succ]
        refine wpS_quiet (some 47) { dst := some 47, op := Op.nilCheck (Operand.tmp 46), type := _, pos := _, after := _, guard := none } _ rfl rfl (by rfl) (fun wE hE => by (go_simp; try with_reducible rfl)) ?_; simp only [Act.put, List.setIfInBounds_toArray, List.set_cons_zero, List.set_cons_succ]
        refine wpS_quiet (some 48) { dst := some 48, op := Op.fieldAddr 59 (Operand.tmp 47) 7, type := _, pos := _, after := _, guard := none } _ rfl rfl (by rfl) (fun wE hE => by (go_simp; try with_reducible rfl)) ?_; simp only [Act.put, List.setIfInBounds_toArray, List.set_cons_zero, List.set_cons_succ]
        refine wpS_quiet (some 49) { dst := some 49, op := Op.load 57 (Operand.tmp 48), type := _, pos := _, after := _, guard := none } _ rfl rfl (by rfl) (fun wE hE => by (have zk0 := hE.cellS (by first | exact HNO.out _ (.inr rfl) | exact HNO.out _ (.inl (by simp only []; omega))) c7; have zk1 := hE.cellS (by first | exact HNO.out _ (.inr rfl) | exact HNO.out _ (.inl (by simp only []; omega))) cX; have zk2 := hE.cellS (by first | exact HNO.out _ (.inr rfl) | exact HNO.out _ (.inl (by simp only []; omega))) cE; go_simp; try with_reducible rfl)) ?_; simp only [Act.put, List.setIfInBounds_toArray, List.set_cons_zero, List.set_cons_succ]
        refine wpS_quiet (some 50) { dst := some 50, op := Op.move (Operand.tmp 4), type := _, pos := _, after := _, guard := none } _ rfl rfl (by rfl) (fun wE hE => by (go_simp; try with_reducible rfl)) ?_; simp only [Act.put, List.setIfInBounds_toArray, List.set_cons_zero, List.set_cons_succ]
        refine wpS_quiet (some 51) { dst := some 51, op := Op.indexAddr 57 (Operand.tmp 49) (Operand.tmp 50), type := _, pos := _, after := _, guard := none } _ rfl rfl (by rfl) (fun wE hE => by (go_simp; try with_reducible rfl)) ?_; simp only [Act.put, List.setIfInBounds_toArray, List.set_cons_zero, List.set_cons_succ]
        refine wpS_quiet (some 52) { dst := some 52, op := Op.load 60 (Operand.tmp 51), type := _, pos := _, after := _, guard := none } _ rfl rfl (by rfl) (fun wE hE => by (have zk0 := hE.cellS (by first | exact HNO.out _ (.inr rfl) | exact HNO.out _ (.inl (by simp only []; omega))) c7; have zk1 := hE.cellS (by first | exact HNO.out _ (.inr rfl) | exact HNO.out _ (.inl (by simp only []; omega))) cX; have zk2 := hE.cellS (by first | exact HNO.out _ (.inr rfl) | exact HNO.out _ (.inl (by simp only []; omega))) cE; go_simp; try with_reducible rfl)) ?_; simp only [Act.put, List.setIfInBounds_toArray, List.set_cons_zero, List.set_cons_succ]
        refine wpS_call (some 53) { dst := some 53, op := Op.call { callee := Callee.value (Operand.func 24), args := #[Operand.tmp 52], argTypes := #[60] }, type := _, pos := _, after := _, guard := none } 24 _ rfl rfl (by rfl) (by go_simp; try first | with_reducible rfl | exact ⟨rfl, rfl⟩) ?_
        refine (eventOut_any be y wr.drew hpl.out (EvAt.ext (EvAt.mono (fun _ _ => trivial) HEV.out) (Ext.refl wr).drew)).mono ?_; rintro e w1 ⟨rfl, e1⟩; refine ⟨_, rfl, e1.toX _, ?_⟩; simp only [Act.put, List.setIfInBounds_toArray, List.set_cons_zero, List.set_cons_succ]
        refine wpS_upd (some 54) { dst := some 54, op := Op.buildSlice 22 1 #[(0, Operand.tmp 53)], type := _, pos := _, after := _, guard := none } rfl rfl (by rfl) ?_ trivial
        refine ⟨.slice (some ⟨w1.heap.size, 0, none⟩) 1 1, w1.alloc (.cells (evCells y).toArray 37), by go_simp; try rfl, ((Ext.refl _).alloc _).toX _, ?_⟩
        simp only [Act.put, List.setIfInBounds_toArray, List.set_cons_zero, List.set_cons_succ]
        have s1 : wr.heap.size ≤ w1.heap.size := e1.size
        have own1 := ((hO.out.drew).ext e1).ext ((Ext.refl w1).alloc (.cells (evCells y).toArray 37))
        have htl : (x.events.take k).length ≤ 1000 := by rw [List.length_take]; omega
        obtain ⟨i0, z0, hi, hz0, hz1, hz2, hz3⟩ := info_parts2 infoEv
        obtain ⟨v2, w3, r3, o3, gr3, f3⟩ := run_app (P := Try.prog) (w := w1.alloc (.cells (evCells y).toArray 37)) (d := Rp.evx) 22 22 37 i0 _ 144 Try.underlying22 hi hz0 hz1 hz2 hz3 own1 (fun j hj => by simp at hj; exact ⟨by omega, by omega⟩) ⟨w1.heap.size, 0, none⟩ 1 (evCells y) [y] rfl (lit_cells _ _ _)
          (one_elem (p := fun i y' => Rp.evx.K (w1.alloc (.cells (evCells y).toArray 37)) (fun j => (w.heap.size < j ∧ j ≠ bx) ∧ some j ≠ v.ownBlock) y' (((evCells y).drop (i * Rp.evx.sz)).take Rp.evx.sz)) rfl)
          (by simp [maxLen]; omega) (by simp; omega) (by simp; omega)
        obtain ⟨A2, n2, k2, rfl⟩ := o3.shape'
        have x3 : ExtX (fun j => some j = v.ownBlock) (w1.alloc (.cells (evCells y).toArray 37)) w3 := (ExtX.refl _ _).grown gr3 (fun j hj => hj.symm)
        have X3 : ExtX (fun j => some j = v.ownBlock) wr w3 := ((e1.trans ((Ext.refl w1).alloc _)).toX _).trans x3
        refine wpS_upd (some 55) { dst := some 55, op := Op.call { callee := Callee.builtin Builtin.append, args := #[Operand.tmp 45, Operand.tmp 54], argTypes := #[22, 22] }, type := _, pos := _, after := _, guard := none } rfl rfl (by rfl) ?_ trivial
        refine ⟨_, w3, exec_app (.tmp 45) (.tmp 54) 22 rfl rfl rfl r3, x3, ?_⟩
        simp only [Act.put, List.setIfInBounds_toArray, List.set_cons_zero, List.set_cons_succ]
        refine wpS_quiet (some 56) { dst := some 56, op := Op.fieldAddr 24 (Operand.tmp 3) 7, type := _, pos := _, after := _, guard := none } _ rfl rfl (by rfl) (fun wE hE => by (go_simp; try with_reducible rfl)) ?_; simp only [Act.put, List.setIfInBounds_toArray, List.set_cons_zero, List.set_cons_succ]
        refine wpS_store none { dst := none, op := Op.store 22 (Operand.tmp 56) (Operand.tmp 55), type := _, pos := _, after := _, guard := none } rfl rfl (by rfl) (.tmp 56) (.tmp 55) 22 rfl rfl rfl rfl (hX.out.extX X3 (HNO.out _ (.inr rfl))) rfl (Nat.le_of_ble_eq_true rfl) rfl ?_
        intro w5 K5 x5
        simp only [Act.put, List.setIfInBounds_toArray, List.set_cons_zero, List.set_cons_succ]
        change Exit.inBlock _ _ _ _ _
        have X5 : ExtX (fun j => some j = v.ownBlock ∨ j = bx) wr w5 := (X3.mono (fun _ _ h => .inl h)).trans' x5 (fun _ _ h => .inr h)
        have E5 : Ext w w5 := ((hE.toX _).trans X5).toExt (fun j hj => by
          rcases hj with hj | hj
          · have := (hO.out.own j hj.symm).1; omega
          · omega)
        have O5 := o3.extX x5 (fun j hj _ => hj.2)
        rw [← take_snoc HY.out] at O5
        have O5 := Lib.hid O5
        have R5 := Lib.hid ((hR.out.extX X3 (HNO.out _ (.inl (by omega)))).extX x5 (by omega))
        have K5 := Lib.hid K5
        clear own1 o3 cX c7 cE
        go_wp2
        go_roundw
        case rel => exact ⟨k + 1, _, by go_num, by omega, K5, R5, O5, E5⟩
        case measure => simp [intOf]; omega
      · have hkn : k = x.events.length := by omega
        have own := hO.out
        rw [hkn, List.take_length] at own
        obtain ⟨A2, k2, rfl, _, _⟩ := own.shape
        have OW := Lib.hid own
        clear hkn own
        go_wp2_with (first | (refine wpList_load_row rfl 24 (.tmp 3) rfl bx rfl 24 _ (0, 0) _ hX.out Try.underlying24 rfl rfl ?_) | (refine wpList_store rfl rfl (.tmp 2) (.tmp 57) 24 rfl rfl rfl rfl hR.out rfl (Nat.le_of_ble_eq_true rfl) rfl ?_; intro w6 K6 x6))
        refine bodyPost_ret (results_cell_row rfl _ _ w.heap.size _ _ (0, 0) _ rfl K6 Try.underlying24 rfl rfl) rfl ?_
        refine ⟨A2, k2, rfl, ?_, ((hE.toX _).trans x6).toExt (fun j hj => by omega)⟩
        exact (Rp.slice Rp.evx).mono (fun j hj => by have := hj.1; show w.heap.size ≤ j; omega) (OW.out.extX x6 (fun j hj _ => by have := hj.1; omega)).slice
  refine (header_any bh x.rev W.drew (KH.ext E)).mono ?_
  rintro e w2 ⟨rfl, rfl⟩
  refine ⟨_, rfl, Ext.refl _, ?_⟩
  simp only [Act.put, List.setIfInBounds_toArray, List.set_cons_zero, List.set_cons_succ]
  refine wpS_quiet (some 34) { dst := some 34, op := Op.build 24 #[(0, Operand.tmp 8), (1, Operand.tmp 13), (2, Operand.tmp 17), (3, Operand.tmp 21), (4, Operand.tmp 25), (5, Operand.tmp 29), (6, Operand.tmp 33)], type := _, pos := _, after := _, guard := none } _ rfl rfl (by rfl) (fun wE hE => by (go_simp; try with_reducible rfl)) ?_; simp only [Act.put, List.setIfInBounds_toArray, List.set_cons_zero, List.set_cons_succ]
  refine wpS_alloc (some 3) { dst := some 3, op := Op.alloc 24, type := _, pos := _, after := _, guard := none } _ _ rfl rfl (by rfl) (by go_simp; try with_reducible rfl) ?_ ?_ trivial
  exact fun w' h => h
  intro bx w3 hbx e3 KX
  have gx : w.heap.size < bx := by (have := KR.lt; omega)
  clear hbx
  replace KR := KR.ext e3
  have E := E.trans e3
  simp only [Act.put, List.setIfInBounds_toArray, List.set_cons_zero, List.set_cons_succ]
  refine wpS_store none { dst := none, op := Op.store 24 (Operand.tmp 3) (Operand.tmp 34), type := _, pos := _, after := _, guard := none } rfl rfl (by rfl) (.tmp 3) (.tmp 34) 24 rfl rfl rfl rfl KX rfl (Nat.le_refl 8) rfl ?_
  intro w4 K4 x4
  have X4 := (E.toX (fun k => k = bx)).trans x4
  replace KR := KR.extX x4 (by omega)
  simp only [Act.put, List.setIfInBounds_toArray, List.set_cons_zero, List.set_cons_succ]
  change Exit.then _ _ _ _ _
  have E4 : Ext w w4 := X4.toExt (fun j hj => by omega)
  go_wp2_with fail
  go_loopw [4] (fun i wr => ∃ (k : Nat) (v : Value), i = .int .i64 k ∧ k ≤ x.events.length ∧
    Hid (Blk wr bx 24 [.int .i64 x.id, .int .i64 x.rev, .int .i64 x.compact, .bool x.created, .bool x.canceled, .bool x.fragment, .string x.reason, v]) ∧ Hid (Blk wr w.heap.size 24 sentZero) ∧
    Hid (OwnP Rp.evx wr (fun j => w.heap.size < j ∧ j ≠ bx) (w.heap.size + 1) 37 v (x.events.take k)) ∧ Ext w wr) (fun i _ => x.events.length - (intOf i).toNat)
  case atStart => exact ⟨0, .slice none 0 0, rfl, Nat.zero_le _, Lib.hid K4, Lib.hid KR, Lib.hid (OwnP.nil _ _ _ _ _), E4⟩
  case round =>
    clear K4 KR KX X4 x4 E4
    obtain ⟨k, v, rfl, hk, hX, hR, hO, hE⟩ := hrel
    have c7 := hE.cellS c7w
    by_cases hlt : k < x.events.length
    · obtain ⟨A', cap', hv, p1, p2, p3, hrow⟩ := HS.out
      simp only [List.cons.injEq, Value.slice.injEq, and_true] at hv
      obtain ⟨rfl, _, rfl⟩ := hv
      obtain ⟨ba, o, rfl, _⟩ := hrow.addr (List.ne_nil_of_length_pos (by omega))
      obtain ⟨y, hy⟩ : ∃ y, x.events[k]? = some y := ⟨_, List.getElem?_eq_getElem hlt⟩
      obtain ⟨cs, _, ⟨be, rfl, hev⟩, hc⟩ := hrow.at rfl hy
      have hba : ba < w.heap.size := cell_lt (hc 0 (by decide))
      have cE0 : w.cell? ⟨ba, o + k, none⟩ = some (.pointer (some ⟨be, 0, none⟩)) := by simpa [Rp.evp] using hc 0 (by decide)
      have cE := hE.cellS cE0
      have HEV := Lib.hid (EvAt.ext hev hE)
      have HY := Lib.hid hy
      have hpl := Lib.hid (HP.out y (List.mem_of_getElem? hy))
      clear hrow hy hev hc cE0
      have cX := hX.out.cell (o := 7) rfl
      have HNO : Hid (∀ j, j < w.heap.size + 1 ∨ j = bx → ¬ some j = v.ownBlock) := Lib.hid (fun j hj he => by have := hO.out.1 j he.symm; omega)
      have hbx := hX.out.lt
      go_wp2_with fail
      refine wp_region_sched (ops := ops_18_5) (ExtX (fun j => some j = v.ownBlock)) [13] (.quiet 0 (.quiet 1 (.quiet 2 (.quiet 3 (.quiet 4 (.quiet 5 (.quiet 6 (.quiet 7 (.quiet 8 (.loud 9 (.loud 10 (.loud 11 (.quiet 12 (.last 13 (.done))) (.stop)) (.stop)) (.stop))))))))))) (by kernel_rfl) (ExtX.refl (fun j => some j = v.ownBlock)) (fun _ _ _ => ExtX.trans) (by kernel_rfl) (fun _ _ d _ _ h => by cases d <;> exact h) ?_
      refine wpS_quiet (some 44) { dst := some 44, op := Op.fieldAddr 24 (Operand.tmp 3) 7, type := _, pos := _, after := _, guard := none } _ rfl rfl (by rfl) (fun wE hE => by (go_simp; try with_reducible rfl)) ?_; simp only [Act.put, List.setIfInBounds_toArray, List.set_cons_zero, List.set_cons_succ]
      refine wpS_quiet (some 45) { dst := some 45, op := Op.load 22 (Operand.tmp 44), type := _, pos := _, after := _, guard := none } _ rfl rfl (by rfl) (fun wE hE => by (have zk0 := hE.cellS (by first | exact HNO.out _ (.inr rfl) | exact HNO.out _ (.inl (by simp only []; omega))) c7; have zk1 := hE.cellS (by first | exact HNO.out _ (.inr rfl) | exact HNO.out _ (.inl (by simp only []; omega))) cX; have zk2 := hE.cellS (by first | exact HNO.out _ (.inr rfl) | exact HNO.out _ (.inl (by simp only []; omega))) cE; go_simp; try with_reducible rfl)) ?_; simp only [Act.put, List.setIfInBounds_toArray, List.set_cons_zero, List.set_cons_succ]
      refine wpS_quiet (some 46) { dst := some 46, op := Op.move (Operand.tmp 0), type := _, pos := _, after := _, guard := none } _ rfl rfl (by rfl) (fun wE hE => by (go_simp; try with_reducible rfl)) ?_; simp only [Act.put, List.setIfInBounds_toArray, List.set_cons_zero, List.set_cons_succ]
      refine wpS_quiet (some 47) { dst := some 47, op := Op.nilCheck (Operand.tmp 46), type := _, pos := _, after := _, guard := none } _ rfl rfl (by rfl) (fun wE hE => by (go_simp; try with_reducible rfl)) ?_; simp only [Act.put, List.setIfInBounds_toArray, List.set_cons_zero, List.set_cons_succ]
      refine wpS_quiet (some 48) { dst := some 48, op := Op.fieldAddr 59 (Operand.tmp 47) 7, type := _, pos := _, after := _, guard := none } _ rfl rfl (by rfl) (fun wE hE => by (go_simp; try with_reducible rfl)) ?_; simp only [Act.put, List.setIfInBounds_toArray, List.set_cons_zero, List.set_cons_succ]
      refine wpS_quiet (some 49) { dst := some 49, op := Op.load 57 (Operand.tmp 48), type := _, pos := _, after := _, guard := none } _ rfl rfl (by rfl) (fun wE hE => by (have zk0 := hE.cellS (by first | exact HNO.out _ (.inr rfl) | exact HNO.out _ (.inl (by simp only []; omega))) c7; have zk1 := hE.cellS (by first | exact HNO.out _ (.inr rfl) | exact HNO.out _ (.inl (by simp only []; omega))) cX; have zk2 := hE.cellS (by first | exact HNO.out _ (.inr rfl) | exact HNO.out _ (.inl (by simp only []; omega))) cE; go_simp; try with_reducible rfl)) ?_; simp only [Act.put, List.setIfInBounds_toArray, List.set_cons_zero, List.set_cons_succ]
      refine wpS_quiet (some 50) { dst := some 50, op := Op.move (Operand.tmp 4), type := _, pos := _, after := _, guard := none } _ rfl rfl (by rfl) (fun wE hE => by (go_simp; try with_reducible rfl)) ?_; simp only [Act.put, List.setIfInBounds_toArray, List.set_cons_zero, List.set_cons_succ]
      refine wpS_quiet (some 51) { dst := some 51, op := Op.indexAddr 57 (Operand.tmp 49) (Operand.tmp 50), type := _, pos := _, after := _, guard := none } _ rfl rfl (by rfl) (fun wE hE => by (go_simp; try with_reducible rfl)) ?_; simp only [Act.put, List.setIfInBounds_toArray, List.set_cons_zero, List.set_cons_succ]
      refine wpS_quiet (some 52) { dst := some 52, op := Op.load 60 (Operand.tmp 51), type := _, pos := _, after := _, guard := none } _ rfl rfl (by rfl) (fun wE hE => by (have zk0 := hE.cellS (by first | exact HNO.out _ (.inr rfl) | exact HNO.out _ (.inl (by simp only []; omega))) c7; have zk1 := hE.cellS (by first | exact HNO.out _ (.inr rfl) | exact HNO.out _ (.inl (by simp only []; omega))) cX; have zk2 := hE.cellS (by first | exact HNO.out _ (.inr rfl) | exact HNO.out _ (.inl (by simp only []; omega))) cE; go_simp; try with_reducible rfl)) ?_; simp only [Act.put, List.setIfInBounds_toArray, List.set_cons_zero, List.set_cons_succ]
      refine wpS_call (some 53) { dst := some 53, op := Op.call { callee := Callee.value (Operand.func 24), args := #[Operand.tmp 52], argTypes := #[60] }, type := _, pos := _, after := _, guard := none } 24 _ rfl rfl (by rfl) (by go_simp; try first | with_reducible rfl | exact ⟨rfl, rfl⟩) ?_
      refine (eventOut_any be y wr.drew hpl.out (EvAt.ext (EvAt.mono (fun _ _ => trivial) HEV.out) (Ext.refl wr).drew)).mono ?_; rintro e w1 ⟨rfl, e1⟩; refine ⟨_, rfl, e1.toX _, ?_⟩; simp only [Act.put, List.setIfInBounds_toArray, List.set_cons_zero, List.set_cons_succ]
      refine wpS_upd (some 54) { dst := some 54, op := Op.buildSlice 22 1 #[(0, Operand.tmp 53)], type := _, pos := _, after := _, guard := none } rfl rfl (by rfl) ?_ trivial
      refine ⟨.slice (some ⟨w1.heap.size, 0, none⟩) 1 1, w1.alloc (.cells (evCells y).toArray 37), by go_simp; try rfl, ((Ext.refl _).alloc _).toX _, ?_⟩
      simp only [Act.put, List.setIfInBounds_toArray, List.set_cons_zero, List.set_cons_succ]
      have s1 : wr.heap.size ≤ w1.heap.size := e1.size
      have own1 := ((hO.out.drew).ext e1).ext ((Ext.refl w1).alloc (.cells (evCells y).toArray 37))
      have htl : (x.events.take k).length ≤ 1000 := by rw [List.length_take]; omega
      obtain ⟨i0, z0, hi, hz0, hz1, hz2, hz3⟩ := info_parts2 infoEv
      obtain ⟨v2, w3, r3, o3, gr3, f3⟩ := run_app (P := Try.prog) (w := w1.alloc (.cells (evCells y).toArray 37)) (d := Rp.evx) 22 22 37 i0 _ 144 Try.underlying22 hi hz0 hz1 hz2 hz3 own1 (fun j hj => by simp at hj; exact ⟨by omega, by omega⟩) ⟨w1.heap.size, 0, none⟩ 1 (evCells y) [y] rfl (lit_cells _ _ _)
        (one_elem (p := fun i y' => Rp.evx.K (w1.alloc (.cells (evCells y).toArray 37)) (fun j => (w.heap.size < j ∧ j ≠ bx) ∧ some j ≠ v.ownBlock) y' (((evCells y).drop (i * Rp.evx.sz)).take Rp.evx.sz)) rfl)
        (by simp [maxLen]; omega) (by simp; omega) (by simp; omega)
      obtain ⟨A2, n2, k2, rfl⟩ := o3.shape'
      have x3 : ExtX (fun j => some j = v.ownBlock) (w1.alloc (.cells (evCells y).toArray 37)) w3 := (ExtX.refl _ _).grown gr3 (fun j hj => hj.symm)
      have X3 : ExtX (fun j => some j = v.ownBlock) wr w3 := ((e1.trans ((Ext.refl w1).alloc _)).toX _).trans x3
      refine wpS_upd (some 55) { dst := some 55, op := Op.call { callee := Callee.builtin Builtin.append, args := #[Operand.tmp 45, Operand.tmp 54], argTypes := #[22, 22] }, type := _, pos := _, after := _, guard := none } rfl rfl (by rfl) ?_ trivial
      refine ⟨_, w3, exec_app (.tmp 45) (.tmp 54) 22 rfl rfl rfl r3, x3, ?_⟩
      simp only [Act.put, List.setIfInBounds_toArray, List.set_cons_zero, List.set_cons_succ]
      refine wpS_quiet (some 56) { dst := some 56, op := Op.fieldAddr 24 (Operand.tmp 3) 7, type := _, pos := _, after := _, guard := none } _ rfl rfl (by rfl) (fun wE hE => by (go_simp; try with_reducible rfl)) ?_; simp only [Act.put, List.setIfInBounds_toArray, List.set_cons_zero, List.set_cons_succ]
      refine wpS_store none { dst := none, op := Op.store 22 (Operand.tmp 56) (Operand.tmp 55), type := _, pos := _, after := _, guard := none } rfl rfl (by rfl) (.tmp 56) (.tmp 55) 22 rfl rfl rfl rfl (hX.out.extX X3 (HNO.out _ (.inr rfl))) rfl (Nat.le_of_ble_eq_true rfl) rfl ?_
      intro w5 K5 x5
      simp only [Act.put, List.setIfInBounds_toArray, List.set_cons_zero, List.set_cons_succ]
      change Exit.inBlock _ _ _ _ _
      have X5 : ExtX (fun j => some j = v.ownBlock ∨ j = bx) wr w5 := (X3.mono (fun _ _ h => .inl h)).trans' x5 (fun _ _ h => .inr h)
      have E5 : Ext w w5 := ((hE.toX _).trans X5).toExt (fun j hj => by
        rcases hj with hj | hj
        · have := (hO.out.own j hj.symm).1; omega
        · omega)
      have O5 := o3.extX x5 (fun j hj _ => hj.2)
      rw [← take_snoc HY.out] at O5
      have O5 := Lib.hid O5
      have R5 := Lib.hid ((hR.out.extX X3 (HNO.out _ (.inl (by omega)))).extX x5 (by omega))
      have K5 := Lib.hid K5
      clear own1 o3 cX c7 cE
      go_wp2
      go_roundw
      case rel => exact ⟨k + 1, _, by go_num, by omega, K5, R5, O5, E5⟩
      case measure => simp [intOf]; omega
    · have hkn : k = x.events.length := by omega
      have own := hO.out
      rw [hkn, List.take_length] at own
      obtain ⟨A2, k2, rfl, _, _⟩ := own.shape
      have OW := Lib.hid own
      clear hkn own
      go_wp2_with (first | (refine wpList_load_row rfl 24 (.tmp 3) rfl bx rfl 24 _ (0, 0) _ hX.out Try.underlying24 rfl rfl ?_) | (refine wpList_store rfl rfl (.tmp 2) (.tmp 57) 24 rfl rfl rfl rfl hR.out rfl (Nat.le_of_ble_eq_true rfl) rfl ?_; intro w6 K6 x6))
      refine bodyPost_ret (results_cell_row rfl _ _ w.heap.size _ _ (0, 0) _ rfl K6 Try.underlying24 rfl rfl) rfl ?_
      refine ⟨A2, k2, rfl, ?_, ((hE.toX _).trans x6).toExt (fun j hj => by omega)⟩
      exact (Rp.slice Rp.evx).mono (fun j hj => by have := hj.1; show w.heap.size ≤ j; omega) (OW.out.extX x6 (fun j hj _ => by have := hj.1; omega)).slice
end Go.Proofs.Ytmimpfenlhfkiaa
