/-
  A response made of data (impl.sentIn), and its size (impl.WireSize).
-/
import Derived.Test.YtmimpfenlhfkiaaResp
namespace Go.Proofs.Ytmimpfenlhfkiaa
open Go.RowKit
set_option linter.unusedSimpArgs false
set_option linter.unusedVariables false

/-- key-values and events as data lie in cells -/
def Rp.kv : Rp KVd := (Rp.str.pair (Rp.str.pair ((Rp.int .i64).pair ((Rp.int .i64).pair ((Rp.int .i64).pair (Rp.int .i64)))))).iso fun x => (x.key, x.value, x.create, x.mod, x.version, x.lease)
def Rp.ev : Rp EvD := (Rp.bool.pair (Rp.kv.pair (Rp.bool.pair Rp.kv))).iso fun x => (x.gone, x.kv, x.hasPrev, x.prev)
abbrev kvCells (x : KVd) : List Value := [.string x.key, .string x.value, .int .i64 x.create, .int .i64 x.mod, .int .i64 x.version, .int .i64 x.lease]
abbrev evCells (x : EvD) : List Value := .bool x.gone :: (kvCells x.kv ++ .bool x.hasPrev :: kvCells x.prev)
theorem kv_cells {w : World} {ok : Nat → Prop} {x : KVd} {cs : List Value} (h : Rp.kv.K w ok x cs) : cs = kvCells x ∧ x.key.size ≤ maxLen ∧ x.value.size ≤ maxLen := by
  obtain ⟨c1, _, rfl, ⟨rfl, h1⟩, c2, _, rfl, ⟨rfl, h2⟩, c3, _, rfl, ⟨rfl, _⟩, c4, _, rfl, ⟨rfl, _⟩, c5, _, rfl, ⟨rfl, _⟩, ⟨rfl, _⟩⟩ := h
  exact ⟨rfl, h1, h2⟩
theorem ev_cells {w : World} {ok : Nat → Prop} {x : EvD} {cs : List Value} (h : Rp.ev.K w ok x cs) : cs = evCells x ∧ x.kv.key.size ≤ maxLen ∧ x.kv.value.size ≤ maxLen ∧ x.prev.key.size ≤ maxLen ∧ x.prev.value.size ≤ maxLen := by
  obtain ⟨c1, _, rfl, h0, c2, _, rfl, h1, c3, _, rfl, h2, h3⟩ := h
  obtain rfl : c1 = [_] := h0
  obtain rfl : c3 = [_] := h2
  obtain ⟨rfl, a1, a2⟩ := kv_cells h1
  obtain ⟨rfl, b1, b2⟩ := kv_cells h3
  exact ⟨rfl, a1, a2, b1, b2⟩
abbrev sentV (x : RespD) (A : Option Addr) (cap : Nat) : Value := .agg #[.int .i64 x.id, .int .i64 x.rev, .int .i64 x.compact, .bool x.created, .bool x.canceled, .bool x.fragment, .string x.reason, .slice A x.events.length cap]
theorem infoEvp : (Try.prog.info? 60).map (fun i => (i.zero, i.size, i.bytes)) = some (some (.pointer none), 1, 8) := by kernel_rfl

theorem at_add {w : World} {b o k s j : Nat} {v : Value} (h : w.cell? ⟨b, o + (k * s + j), none⟩ = some v) : w.cell? ⟨b, o + k * s + j, none⟩ = some v := by rwa [Nat.add_assoc]
/-- the cells of an event in a row of events -/
def EvCells (w : World) (b o : Nat) (y : EvD) : Prop :=
  w.cell? ⟨b, o, none⟩ = some (.bool y.gone) ∧ w.cell? ⟨b, o + 1, none⟩ = some (.string y.kv.key) ∧ w.cell? ⟨b, o + 2, none⟩ = some (.string y.kv.value) ∧ w.cell? ⟨b, o + 3, none⟩ = some (.int .i64 y.kv.create) ∧
  w.cell? ⟨b, o + 4, none⟩ = some (.int .i64 y.kv.mod) ∧ w.cell? ⟨b, o + 5, none⟩ = some (.int .i64 y.kv.version) ∧ w.cell? ⟨b, o + 6, none⟩ = some (.int .i64 y.kv.lease) ∧
  w.cell? ⟨b, o + 7, none⟩ = some (.bool y.hasPrev) ∧ w.cell? ⟨b, o + 8, none⟩ = some (.string y.prev.key) ∧ w.cell? ⟨b, o + 9, none⟩ = some (.string y.prev.value) ∧ w.cell? ⟨b, o + 10, none⟩ = some (.int .i64 y.prev.create) ∧
  w.cell? ⟨b, o + 11, none⟩ = some (.int .i64 y.prev.mod) ∧ w.cell? ⟨b, o + 12, none⟩ = some (.int .i64 y.prev.version) ∧ w.cell? ⟨b, o + 13, none⟩ = some (.int .i64 y.prev.lease)
theorem ev_at {w wr : World} {ok : Nat → Prop} {b o : Nat} {xs : List EvD} (h : Rp.ev.row w ok (some ⟨b, o, none⟩) xs) {k : Nat} {y : EvD} (hy : xs[k]? = some y) (hE : Ext w wr) :
    EvCells wr b (o + k * 14) y ∧ y.kv.key.size ≤ maxLen ∧ y.kv.value.size ≤ maxLen ∧ y.prev.key.size ≤ maxLen ∧ y.prev.value.size ≤ maxLen := by
  obtain ⟨cs, _, hK, hc⟩ := h.at rfl hy
  obtain ⟨rfl, q⟩ := ev_cells hK
  refine ⟨⟨hE.cellS (hc 0 (by decide)), ?_, ?_, ?_, ?_, ?_, ?_, ?_, ?_, ?_, ?_, ?_, ?_, ?_⟩, q⟩ <;> refine hE.cellS (at_add (s := 14) ?_)
  · exact hc 1 (by decide)
  · exact hc 2 (by decide)
  · exact hc 3 (by decide)
  · exact hc 4 (by decide)
  · exact hc 5 (by decide)
  · exact hc 6 (by decide)
  · exact hc 7 (by decide)
  · exact hc 8 (by decide)
  · exact hc 9 (by decide)
  · exact hc 10 (by decide)
  · exact hc 11 (by decide)
  · exact hc 12 (by decide)
  · exact hc 13 (by decide)
theorem take_snoc {α : Type} {l : List α} {k : Nat} {y : α} (h : l[k]? = some y) : l.take (k + 1) = l.take k ++ [y] := by
  obtain ⟨hk, rfl⟩ := List.getElem?_eq_some_iff.1 h
  exact List.take_succ_eq_append_getElem hk

noncomputable def ops_15_5 : Array Oper := opsAt Try.f15 5
set_option maxHeartbeats 2000000 in
set_option maxRecDepth 20000 in
theorem sentIn_any (x : RespD) (A : Option Addr) (cap : Nat) (w : World) (hr : x.reason.size ≤ maxLen) (hn : x.events.length ≤ 1000) (h : (Rp.slice Rp.ev).K w any x.events [.slice A x.events.length cap]) :
    Calls Try.prog 15 #[sentV x A cap] w fun e w' => ∃ b, e = .returned (.pointer (some ⟨b, 0, none⟩)) ∧ RespAt w' (fun j => w.heap.size ≤ j) x b ∧ Ext w w' := by
  obtain ⟨i0, hi, hz0, hz1, hz2⟩ := info_parts infoEvp
  have HS := Lib.hid h
  clear h
  go_enter Try.func15, Try.ntmps15
  go_wp2_with fail
  go_loopw [4] (fun i wr => ∃ (k : Nat) (v : Value), i = .int .i64 k ∧ k ≤ x.events.length ∧
    Blk wr (w.heap.size + 1 + 1) 59 [.pointer (some ⟨w.heap.size + 1, 0, none⟩), .int .i64 x.id, .bool x.created, .bool x.canceled, .int .i64 x.compact, .string x.reason, .bool x.fragment, v] ∧
    Blk wr (w.heap.size + 1) 56 [.int .u64 0, .int .u64 0, .int .i64 x.rev, .int .u64 0] ∧
    Blk wr w.heap.size 24 [.int .i64 x.id, .int .i64 x.rev, .int .i64 x.compact, .bool x.created, .bool x.canceled, .bool x.fragment, .string x.reason, .slice A x.events.length cap] ∧
    Hid (OwnP Rp.evp wr (fun j => w.heap.size + 3 ≤ j) (w.heap.size + 3) 60 v (x.events.take k)) ∧ Ext w wr) (fun i _ => x.events.length - (intOf i).toNat)
  case atStart =>
    refine ⟨0, .slice none 0 0, rfl, Nat.zero_le _, ?_, ?_, ?_, Lib.hid (OwnP.nil _ _ _ _ _), (((Ext.refl w).alloc _).alloc _).alloc _⟩
    · have := Blk.new ((w.alloc (.cells #[.int .i64 x.id, .int .i64 x.rev, .int .i64 x.compact, .bool x.created, .bool x.canceled, .bool x.fragment, .string x.reason, .slice A x.events.length cap] 24)).alloc (.cells #[.int .u64 0, .int .u64 0, .int .i64 x.rev, .int .u64 0] 56)) 59 [.pointer (some ⟨w.heap.size + 1, 0, none⟩), .int .i64 x.id, .bool x.created, .bool x.canceled, .int .i64 x.compact, .string x.reason, .bool x.fragment, .slice none 0 0]
      simpa using this
    · have := (Blk.new (w.alloc (.cells #[.int .i64 x.id, .int .i64 x.rev, .int .i64 x.compact, .bool x.created, .bool x.canceled, .bool x.fragment, .string x.reason, .slice A x.events.length cap] 24)) 56 [.int .u64 0, .int .u64 0, .int .i64 x.rev, .int .u64 0])
      have := this.ext ((Ext.refl _).alloc (.cells #[.pointer (some ⟨w.heap.size + 1, 0, none⟩), .int .i64 x.id, .bool x.created, .bool x.canceled, .int .i64 x.compact, .string x.reason, .bool x.fragment, .slice none 0 0] 59))
      simpa using this
    · exact ((Blk.new w 24 _).ext (((Ext.refl _).alloc _).alloc _))
  case round =>
    obtain ⟨k, v, rfl, hk, K2, K1, K0, hO, hE⟩ := hrel
    have c2 := K2.cell (o := 7) rfl
    have c0 := K0.cell (o := 7) rfl
    by_cases hlt : k < x.events.length
    · obtain ⟨A', cap', hv, p1, p2, p3, hrow⟩ := HS.out
      simp only [List.cons.injEq, Value.slice.injEq, and_true] at hv
      obtain ⟨rfl, _, rfl⟩ := hv
      obtain ⟨ba, o, rfl, _⟩ := hrow.addr (List.ne_nil_of_length_pos (by omega))
      obtain ⟨y, hy⟩ : ∃ y, x.events[k]? = some y := ⟨_, List.getElem?_eq_getElem hlt⟩
      obtain ⟨⟨g0, g1, g2, g3, g4, g5, g6, g7, g8, g9, g10, g11, g12, g13⟩, q1, q2, q3, q4⟩ := ev_at hrow hy hE
      have hba : ba < w.heap.size := by
        obtain ⟨cs, hl, _, hc⟩ := hrow.at rfl hy
        have := hc 0 (by decide)
        rw [List.getElem?_eq_getElem (by rw [hl]; decide)] at this
        exact cell_lt this
      have HY := Lib.hid hy
      clear hrow hy
      have hno : ∀ j, j < w.heap.size + 3 → ¬ some j = v.ownBlock := fun j hj he => by have := (hO.out.own j he.symm).1; omega
      have HNO := Lib.hid hno
      clear hno
      have hs : w.heap.size + 3 ≤ wr.heap.size := by have := K2.lt; omega
      go_wp2_with fail
      refine wp_region_sched (ops := ops_15_5) (ExtX (fun j => some j = v.ownBlock)) [15] (.quiet 0 (.quiet 1 (.quiet 2 (.quiet 3 (.quiet 4 (.quiet 5 (.quiet 6 (.quiet 7 (.quiet 8 (.quiet 9 (.loud 10 (.loud 11 (.loud 12 (.loud 13 (.loud 14 (.last 15 (.done)) (.stop)) (.stop)) (.stop)) (.stop)) (.stop)))))))))))) (by kernel_rfl) (ExtX.refl (fun j => some j = v.ownBlock)) (fun _ _ _ => ExtX.trans) (by kernel_rfl) (fun _ _ d _ _ h => by cases d <;> exact h) ?_
      refine wpS_quiet (some 30) { dst := some 30, op := Op.move (Operand.tmp 3), type := _, pos := _, after := _, guard := none } _ rfl rfl (by rfl) (fun wE hE => by (go_simp; try with_reducible rfl)) ?_; simp only [Act.put, List.setIfInBounds_toArray, List.set_cons_zero, List.set_cons_succ]
      refine wpS_quiet (some 31) { dst := some 31, op := Op.move (Operand.tmp 3), type := _, pos := _, after := _, guard := none } _ rfl rfl (by rfl) (fun wE hE => by (go_simp; try with_reducible rfl)) ?_; simp only [Act.put, List.setIfInBounds_toArray, List.set_cons_zero, List.set_cons_succ]
      refine wpS_quiet (some 32) { dst := some 32, op := Op.nilCheck (Operand.tmp 31), type := _, pos := _, after := _, guard := none } _ rfl rfl (by rfl) (fun wE hE => by (go_simp; try with_reducible rfl)) ?_; simp only [Act.put, List.setIfInBounds_toArray, List.set_cons_zero, List.set_cons_succ]
      refine wpS_quiet (some 33) { dst := some 33, op := Op.fieldAddr 59 (Operand.tmp 32) 7, type := _, pos := _, after := _, guard := none } _ rfl rfl (by rfl) (fun wE hE => by (go_simp; try with_reducible rfl)) ?_; simp only [Act.put, List.setIfInBounds_toArray, List.set_cons_zero, List.set_cons_succ]
      refine wpS_quiet (some 34) { dst := some 34, op := Op.load 57 (Operand.tmp 33), type := _, pos := _, after := _, guard := none } _ rfl rfl (by rfl) (fun wE hE => by (have zk0 := hE.cellS (HNO.out _ (by simp only []; omega)) c0; have zk1 := hE.cellS (HNO.out _ (by simp only []; omega)) c2; have zk2 := hE.cellS (HNO.out _ (by simp only []; omega)) g0; have zk3 := hE.cellS (HNO.out _ (by simp only []; omega)) g1; have zk4 := hE.cellS (HNO.out _ (by simp only []; omega)) g2; have zk5 := hE.cellS (HNO.out _ (by simp only []; omega)) g3; have zk6 := hE.cellS (HNO.out _ (by simp only []; omega)) g4; have zk7 := hE.cellS (HNO.out _ (by simp only []; omega)) g5; have zk8 := hE.cellS (HNO.out _ (by simp only []; omega)) g6; have zk9 := hE.cellS (HNO.out _ (by simp only []; omega)) g7; have zk10 := hE.cellS (HNO.out _ (by simp only []; omega)) g8; have zk11 := hE.cellS (HNO.out _ (by simp only []; omega)) g9; have zk12 := hE.cellS (HNO.out _ (by simp only []; omega)) g10; have zk13 := hE.cellS (HNO.out _ (by simp only []; omega)) g11; have zk14 := hE.cellS (HNO.out _ (by simp only []; omega)) g12; have zk15 := hE.cellS (HNO.out _ (by simp only []; omega)) g13; go_simp; try with_reducible rfl)) ?_; simp only [Act.put, List.setIfInBounds_toArray, List.set_cons_zero, List.set_cons_succ]
      refine wpS_quiet (some 35) { dst := some 35, op := Op.fieldAddr 24 (Operand.tmp 1) 7, type := _, pos := _, after := _, guard := none } _ rfl rfl (by rfl) (fun wE hE => by (go_simp; try with_reducible rfl)) ?_; simp only [Act.put, List.setIfInBounds_toArray, List.set_cons_zero, List.set_cons_succ]
      refine wpS_quiet (some 36) { dst := some 36, op := Op.load 22 (Operand.tmp 35), type := _, pos := _, after := _, guard := none } _ rfl rfl (by rfl) (fun wE hE => by (have zk0 := hE.cellS (HNO.out _ (by simp only []; omega)) c0; have zk1 := hE.cellS (HNO.out _ (by simp only []; omega)) c2; have zk2 := hE.cellS (HNO.out _ (by simp only []; omega)) g0; have zk3 := hE.cellS (HNO.out _ (by simp only []; omega)) g1; have zk4 := hE.cellS (HNO.out _ (by simp only []; omega)) g2; have zk5 := hE.cellS (HNO.out _ (by simp only []; omega)) g3; have zk6 := hE.cellS (HNO.out _ (by simp only []; omega)) g4; have zk7 := hE.cellS (HNO.out _ (by simp only []; omega)) g5; have zk8 := hE.cellS (HNO.out _ (by simp only []; omega)) g6; have zk9 := hE.cellS (HNO.out _ (by simp only []; omega)) g7; have zk10 := hE.cellS (HNO.out _ (by simp only []; omega)) g8; have zk11 := hE.cellS (HNO.out _ (by simp only []; omega)) g9; have zk12 := hE.cellS (HNO.out _ (by simp only []; omega)) g10; have zk13 := hE.cellS (HNO.out _ (by simp only []; omega)) g11; have zk14 := hE.cellS (HNO.out _ (by simp only []; omega)) g12; have zk15 := hE.cellS (HNO.out _ (by simp only []; omega)) g13; go_simp; try with_reducible rfl)) ?_; simp only [Act.put, List.setIfInBounds_toArray, List.set_cons_zero, List.set_cons_succ]
      refine wpS_quiet (some 37) { dst := some 37, op := Op.move (Operand.tmp 4), type := _, pos := _, after := _, guard := none } _ rfl rfl (by rfl) (fun wE hE => by (go_simp; try with_reducible rfl)) ?_; simp only [Act.put, List.setIfInBounds_toArray, List.set_cons_zero, List.set_cons_succ]
      refine wpS_quiet (some 38) { dst := some 38, op := Op.indexAddr 22 (Operand.tmp 36) (Operand.tmp 37), type := _, pos := _, after := _, guard := none } _ rfl rfl (by rfl) (fun wE hE => by (go_simp; try with_reducible rfl)) ?_; simp only [Act.put, List.setIfInBounds_toArray, List.set_cons_zero, List.set_cons_succ]
      refine wpS_quiet (some 39) { dst := some 39, op := Op.load 37 (Operand.tmp 38), type := _, pos := _, after := _, guard := none } _ rfl rfl (by rfl) (fun wE hE => by (have zk0 := hE.cellS (HNO.out _ (by simp only []; omega)) c0; have zk1 := hE.cellS (HNO.out _ (by simp only []; omega)) c2; have zk2 := hE.cellS (HNO.out _ (by simp only []; omega)) g0; have zk3 := hE.cellS (HNO.out _ (by simp only []; omega)) g1; have zk4 := hE.cellS (HNO.out _ (by simp only []; omega)) g2; have zk5 := hE.cellS (HNO.out _ (by simp only []; omega)) g3; have zk6 := hE.cellS (HNO.out _ (by simp only []; omega)) g4; have zk7 := hE.cellS (HNO.out _ (by simp only []; omega)) g5; have zk8 := hE.cellS (HNO.out _ (by simp only []; omega)) g6; have zk9 := hE.cellS (HNO.out _ (by simp only []; omega)) g7; have zk10 := hE.cellS (HNO.out _ (by simp only []; omega)) g8; have zk11 := hE.cellS (HNO.out _ (by simp only []; omega)) g9; have zk12 := hE.cellS (HNO.out _ (by simp only []; omega)) g10; have zk13 := hE.cellS (HNO.out _ (by simp only []; omega)) g11; have zk14 := hE.cellS (HNO.out _ (by simp only []; omega)) g12; have zk15 := hE.cellS (HNO.out _ (by simp only []; omega)) g13; go_simp; try with_reducible rfl)) ?_; simp only [Act.put, List.setIfInBounds_toArray, List.set_cons_zero, List.set_cons_succ]
      refine wpS_call (some 40) { dst := some 40, op := Op.call { callee := Callee.value (Operand.func 20), args := #[Operand.tmp 39], argTypes := #[37] }, type := _, pos := _, after := _, guard := none } 20 _ rfl rfl (by rfl) (by go_simp; try first | with_reducible rfl | exact ⟨rfl, rfl⟩) ?_
      refine (eventIn_any y q1 q2 q3 q4 _).mono ?_; rintro e w1 ⟨be, rfl, hev, e1⟩; refine ⟨_, rfl, e1.toX _, ?_⟩; simp only [Act.put, List.setIfInBounds_toArray, List.set_cons_zero, List.set_cons_succ]
      have hw1 : w.heap.size + 3 ≤ w1.heap.size := Nat.le_trans hs e1.size
      refine wpS_upd (some 41) { dst := some 41, op := Op.buildSlice 57 1 #[(0, Operand.tmp 40)], type := _, pos := _, after := _, guard := none } rfl rfl (by rfl) ?_ trivial
      refine ⟨.slice (some ⟨w1.heap.size, 0, none⟩) 1 1, w1.alloc (.cells #[.pointer (some ⟨be, 0, none⟩)] 60), by go_simp; try rfl, ((Ext.refl _).alloc _).toX _, ?_⟩
      simp only [Act.put, List.setIfInBounds_toArray, List.set_cons_zero, List.set_cons_succ]
      have own1 := ((hO.out.drew).ext e1).ext ((Ext.refl w1).alloc (.cells #[.pointer (some ⟨be, 0, none⟩)] 60))
      have htl : (x.events.take k).length ≤ 1000 := by rw [List.length_take]; omega
      obtain ⟨v2, w3, r3, o3, gr3, f3⟩ := run_app (P := Try.prog) (w := w1.alloc (.cells #[.pointer (some ⟨be, 0, none⟩)] 60)) (d := Rp.evp) 57 57 60 i0 _ 8 Try.underlying57 hi hz0 hz1 hz2 rfl own1 (fun j hj => by simp at hj; omega) ⟨w1.heap.size, 0, none⟩ 1 [.pointer (some ⟨be, 0, none⟩)] [y] rfl (lit_cells _ _ _)
        (one_elem (p := fun i y => Rp.evp.K (w1.alloc (.cells #[.pointer (some ⟨be, 0, none⟩)] 60)) (fun j => w.heap.size + 3 ≤ j ∧ some j ≠ v.ownBlock) y (([.pointer (some ⟨be, 0, none⟩)].drop (i * Rp.evp.sz)).take Rp.evp.sz)) ⟨be, rfl, EvAt.mono (fun j hj => ⟨by have : wr.heap.size ≤ j := hj; omega, fun he => by have := (hO.out.own j he.symm).2; have : wr.heap.size ≤ j := hj; omega⟩) (EvAt.ext hev ((Ext.refl w1).alloc _))⟩)
        (by simp [maxLen]; omega) (by simp; omega) (by simp; omega)
      obtain ⟨Av2, cv2, hv2, _, _⟩ := o3.shape
      obtain ⟨n2, hn2⟩ : ∃ n, (x.events.take k ++ [y]).length = n := ⟨_, rfl⟩
      rw [hn2] at hv2
      subst hv2
      clear hn2
      have x3 : ExtX (fun j => some j = v.ownBlock) (w1.alloc (.cells #[.pointer (some ⟨be, 0, none⟩)] 60)) w3 := (ExtX.refl _ _).grown gr3 (fun j hj => hj.symm)
      have X3 : ExtX (fun j => some j = v.ownBlock) wr w3 := ((e1.trans ((Ext.refl w1).alloc _)).toX _).trans x3
      refine wpS_upd (some 42) { dst := some 42, op := Op.call { callee := Callee.builtin Builtin.append, args := #[Operand.tmp 34, Operand.tmp 41], argTypes := #[57, 57] }, type := _, pos := _, after := _, guard := none } rfl rfl (by rfl) ?_ trivial
      refine ⟨_, w3, exec_app (.tmp 34) (.tmp 41) 57 rfl rfl rfl r3, x3, ?_⟩
      simp only [Act.put, List.setIfInBounds_toArray, List.set_cons_zero, List.set_cons_succ]
      refine wpS_upd (some 43) { dst := some 43, op := Op.nilCheck (Operand.tmp 30), type := _, pos := _, after := _, guard := none } rfl rfl (by rfl) ?_ trivial
      refine ⟨.pointer (some ⟨w.heap.size + 1 + 1, 0, none⟩), w3, by go_simp; try rfl, ExtX.refl _ _, ?_⟩
      simp only [Act.put, List.setIfInBounds_toArray, List.set_cons_zero, List.set_cons_succ]
      refine wpS_upd (some 44) { dst := some 44, op := Op.fieldAddr 59 (Operand.tmp 43) 7, type := _, pos := _, after := _, guard := none } rfl rfl (by rfl) ?_ trivial
      refine ⟨.pointer (some ⟨w.heap.size + 1 + 1, 7, none⟩), w3, by go_simp; try rfl, ExtX.refl _ _, ?_⟩
      simp only [Act.put, List.setIfInBounds_toArray, List.set_cons_zero, List.set_cons_succ]
      have K2' := K2.extX X3 (HNO.out _ (by omega))
      have K1' := K1.extX X3 (HNO.out _ (by omega))
      have K0' := K0.extX X3 (HNO.out _ (by omega))
      have s3 := x3.size
      have c3 := K2'.cell (o := 7) rfl
      have f3' := K2'.frozen 7
      refine wpS_last none { dst := none, op := Op.store 57 (Operand.tmp 44) (Operand.tmp 42), type := _, pos := _, after := _, guard := none } undef (World.setCell w3 ⟨w.heap.size + 1 + 1, 7, none⟩ (.slice Av2 n2 cv2)) rfl rfl (by rfl) (.inr ⟨rfl, by (go_simp; try rfl)⟩) ?_
      simp only [Act.put]
      change Exit.inBlock _ _ _ _ _
      have X4 : ExtX (fun j => some j = v.ownBlock ∨ j = w.heap.size + 1 + 1) wr (w3.setCell ⟨w.heap.size + 1 + 1, 7, none⟩ (.slice Av2 n2 cv2)) := (X3.mono (fun _ _ h => .inl h)).setCell (p := ⟨w.heap.size + 1 + 1, 7, none⟩) (.inr rfl) _
      have K2n := K2'.setCell 7 (.slice Av2 n2 cv2)
      have K1n := K1'.setCell_ne (p := ⟨w.heap.size + 1 + 1, 7, none⟩) (by simp) (.slice Av2 n2 cv2)
      have K0n := K0'.setCell_ne (p := ⟨w.heap.size + 1 + 1, 7, none⟩) (by simp; omega) (.slice Av2 n2 cv2)
      have o4 := o3.extX (M := fun j => j = w.heap.size + 1 + 1) (ExtX.setCell (M := fun j => j = w.heap.size + 1 + 1) (ExtX.refl _ w3) (p := ⟨w.heap.size + 1 + 1, 7, none⟩) rfl (.slice Av2 n2 cv2)) (fun j hj _ => by show ¬ (j = w.heap.size + 1 + 1); omega)
      rw [← take_snoc HY.out] at o4
      have E4 : Ext w (w3.setCell ⟨w.heap.size + 1 + 1, 7, none⟩ (.slice Av2 n2 cv2)) := ((hE.toX _).trans' X4 (fun j hj h => h)).toExt (fun j hj => by
        rcases hj with hj | hj
        · have := (hO.out.own j hj.symm).1; omega
        · omega)
      have O4 := Lib.hid o4
      clear o4 o3 own1 K2 K1 K0 K2' K1' K0' c3 f3' c2 c0
      go_wp2
      go_roundw
      case rel => exact ⟨k + 1, _, by go_num, by omega, K2n, K1n, K0n, O4, E4⟩
      case measure => simp [intOf]; omega
    · have hkn : Hid (k = x.events.length) := Lib.hid (by omega)
      go_wp2
      go_ret
      have own := hO.out
      rw [hkn.out, List.take_length] at own
      obtain ⟨Av, cv, rfl, h1, h2⟩ := own.shape
      refine ⟨_, rfl, ⟨by show w.heap.size ≤ _; omega, _, Av, cv, K2, by show w.heap.size ≤ _; omega, K1, hr, ?_⟩, hE⟩
      exact (Rp.slice Rp.evp).mono (fun j hj => by show w.heap.size ≤ j; omega) own.slice
end Go.Proofs.Ytmimpfenlhfkiaa
