/-
  The rings that are made, and the ring that shrinks.
-/
import Derived.Test.YtgebafnbkglmaaaRingW
namespace Go.Proofs.Ytgebafnbkglmaaa
open Go.RowKit
set_option linter.unusedSimpArgs false
set_option linter.unusedVariables false

noncomputable def ops_10_1 : Array Oper := opsAt Try.f10 1
noncomputable def ops_11_1 : Array Oper := opsAt Try.f11 1
theorem holds_empty (n : Nat) : Holds (List.replicate n 0) 0 [] :=
  ⟨by simp, by cases n with | zero => exact .inr ⟨rfl, rfl⟩ | succ n => exact .inl (by simp), fun i x h => by simp at h⟩
theorem make_ints (n : Nat) (hn : n ≤ 1000000) (w : World) : (Instr.makeSlice 22 (.int .i64 (n : Int)) (.int .i64 (n : Int))).run Try.prog w = .ok (.slice (some ⟨w.heap.size, 0, none⟩) n n) (w.alloc (.cells (zeros n) 3)) := by
  have := run_make_row' (P := Try.prog) 22 3 (.int .i64 0) 8 Try.underlying22 infoInt rfl .i64 .i64 n (by omega) (by omega) w
  rwa [zeros_made] at this

set_option maxHeartbeats 1000000 in
theorem newGrowing (n : Nat) (hn : n ≤ 1000) (w : World) :
    Calls Try.prog 10 #[.agg #[.int .i64 n]] w fun e w' => ∃ b db, e = .returned (.pointer (some ⟨b, 0, none⟩)) ∧ RingI w' b 61 [] db (List.replicate n 0) 0 [] ∧ w.heap.size ≤ b ∧ w.heap.size ≤ db ∧ Ext w w' := by
  have hmk : ∀ w : World, (Instr.makeSlice 22 (.int .i64 (n : Int)) (.int .i64 (n : Int))).run Try.prog w = .ok (.slice (some ⟨w.heap.size, 0, none⟩) n n) (w.alloc (.cells (zeros n) 3)) := make_ints n (by omega)
  go_enter Try.func10, Try.ntmps10
  go_wp2
  have e1 : Ext w (w.alloc (.cells #[.int .i64 n] 44)) := (Ext.refl w).alloc _
  have K1 : Blk (w.alloc (.cells #[.int .i64 n] 44)) w.heap.size 44 [.int .i64 n] := Blk.new _ _ _
  generalize (w.alloc (.cells #[.int .i64 n] 44)) = w1 at *
  generalize w.heap.size = p at K1 ⊢
  have c0 : w1.cell? ⟨p, 0, none⟩ = some (.int .i64 n) := K1.cell rfl
  refine wp_region_sched (ops := ops_10_1) Ext [] (.quiet 0 (.quiet 1 (.quiet 3 (.quiet 4 (.loud 2 (.quiet 5 (.loud 6 (.quiet 7 (.done)) (.stop))) (.stop)))))) (by kernel_rfl) ext_refl ext_trans (by kernel_rfl) (fun _ _ d _ _ h => by cases d <;> exact h) ?_
  refine wpS_quiet (some 3) { dst := some 3, op := Op.fieldAddr 44 (Operand.tmp 1) 0, type := _, pos := _, after := _, guard := none } _ rfl rfl (by rfl) (fun wE hE => by (go_simp; try with_reducible rfl)) ?_; simp only [Act.put, List.setIfInBounds_toArray, List.set_cons_zero, List.set_cons_succ]
  refine wpS_quiet (some 4) { dst := some 4, op := Op.load 3 (Operand.tmp 3), type := _, pos := _, after := _, guard := none } _ rfl rfl (by rfl) (fun wE hE => by (have k0 := hE.cellS c0; go_simp; try with_reducible rfl)) ?_; simp only [Act.put, List.setIfInBounds_toArray, List.set_cons_zero, List.set_cons_succ]
  refine wpS_quiet (some 6) { dst := some 6, op := Op.fieldAddr 44 (Operand.tmp 1) 0, type := _, pos := _, after := _, guard := none } _ rfl rfl (by rfl) (fun wE hE => by (go_simp; try with_reducible rfl)) ?_; simp only [Act.put, List.setIfInBounds_toArray, List.set_cons_zero, List.set_cons_succ]
  refine wpS_quiet (some 7) { dst := some 7, op := Op.load 3 (Operand.tmp 6), type := _, pos := _, after := _, guard := none } _ rfl rfl (by rfl) (fun wE hE => by (have k0 := hE.cellS c0; go_simp; try with_reducible rfl)) ?_; simp only [Act.put, List.setIfInBounds_toArray, List.set_cons_zero, List.set_cons_succ]
  refine wpS_upd (some 5) { dst := some 5, op := Op.makeSlice 22 (Operand.tmp 4) (Operand.tmp 4), type := _, pos := _, after := _, guard := none } rfl rfl (by rfl) ?_ trivial
  refine ⟨.slice (some ⟨w1.heap.size, 0, none⟩) n n, w1.drew.alloc (.cells (zeros n) 3), by go_simp; try rfl, (Ext.refl _).alloc _, ?_⟩
  simp only [Act.put, List.setIfInBounds_toArray, List.set_cons_zero, List.set_cons_succ]
  have e2 : Ext w (w1.drew.alloc (.cells (zeros n) 3)) := e1.drew.alloc _
  have K2 : Blk (w1.drew.alloc (.cells (zeros n) 3)) w1.heap.size 3 ((List.replicate n (0 : Int)).map (Value.int .i64)) := by
    rw [List.map_replicate]; exact Blk.new w1.drew 3 _
  clear hmk
  generalize (w1.drew.alloc (.cells (zeros n) 3)) = w2 at *
  have hd : w.heap.size ≤ w1.heap.size := e1.size
  generalize w1.heap.size = db at *
  refine wpS_quiet (some 8) { dst := some 8, op := Op.build 61 #[(0, Operand.tmp 5), (1, Operand.tmp 7)], type := _, pos := _, after := _, guard := none } _ rfl rfl (by rfl) (fun wE hE => by (go_simp; try with_reducible rfl)) ?_; simp only [Act.put, List.setIfInBounds_toArray, List.set_cons_zero, List.set_cons_succ]
  refine wpS_alloc (some 9) { dst := some 9, op := Op.box 61 (Operand.tmp 8), type := _, pos := _, after := _, guard := none } _ _ rfl rfl (by rfl) (by go_simp; try rfl) (fun _ h => h) ?_ trivial
  intro b w6 hb e6 K6
  have gb : w2.heap.size ≤ b := Nat.le_of_eq hb.symm
  clear hb
  simp only [Act.put, List.setIfInBounds_toArray, List.set_cons_zero, List.set_cons_succ]
  refine wpS_quiet (some 2) { dst := some 2, op := Op.assign (Operand.tmp 9), type := _, pos := _, after := _, guard := none } _ rfl rfl (by rfl) (fun wE hE => by (go_simp; try with_reducible rfl)) ?_; simp only [Act.put, List.setIfInBounds_toArray, List.set_cons_zero, List.set_cons_succ]
  change Exit.then _ _ _ _ _
  go_wp2
  go_ret
  exact ⟨b, db, rfl, ⟨by simpa using K6, K2.ext e6, by have := K2.lt; omega, holds_empty n, by simp; omega⟩, by have := e2.size; omega, hd, e2.trans e6⟩

set_option maxHeartbeats 1000000 in
theorem newRing (n m : Nat) (hn : n ≤ 1000) (w : World) :
    Calls Try.prog 11 #[.agg #[.int .i64 n, .int .i64 m]] w fun e w' => ∃ b db, e = .returned (.pointer (some ⟨b, 0, none⟩)) ∧ RingI w' b 63 [.int .i64 m] db (List.replicate n 0) 0 [] ∧ w.heap.size ≤ b ∧ w.heap.size ≤ db ∧ Ext w w' := by
  go_enter Try.func11, Try.ntmps11
  go_wp2
  have e1 : Ext w (w.alloc (.cells #[.int .i64 n, .int .i64 m] 50)) := (Ext.refl w).alloc _
  have K1 : Blk (w.alloc (.cells #[.int .i64 n, .int .i64 m] 50)) w.heap.size 50 [.int .i64 n, .int .i64 m] := Blk.new _ _ _
  generalize (w.alloc (.cells #[.int .i64 n, .int .i64 m] 50)) = w1 at *
  generalize w.heap.size = p at K1 ⊢
  have c0 : w1.cell? ⟨p, 0, none⟩ = some (.int .i64 n) := K1.cell rfl
  have c1 : w1.cell? ⟨p, 1, none⟩ = some (.int .i64 m) := K1.cell rfl
  refine wp_region_sched (ops := ops_11_1) Ext [] (.quiet 0 (.quiet 1 (.quiet 2 (.quiet 6 (.quiet 7 (.loud 3 (.quiet 4 (.quiet 5 (.quiet 8 (.loud 9 (.quiet 10 (.done)) (.stop))))) (.stop))))))) (by kernel_rfl) ext_refl ext_trans (by kernel_rfl) (fun _ _ d _ _ h => by cases d <;> exact h) ?_
  refine wpS_quiet (some 3) { dst := some 3, op := Op.fieldAddr 50 (Operand.tmp 1) 0, type := _, pos := _, after := _, guard := none } _ rfl rfl (by rfl) (fun wE hE => by (go_simp; try with_reducible rfl)) ?_; simp only [Act.put, List.setIfInBounds_toArray, List.set_cons_zero, List.set_cons_succ]
  refine wpS_quiet (some 4) { dst := some 4, op := Op.load 3 (Operand.tmp 3), type := _, pos := _, after := _, guard := none } _ rfl rfl (by rfl) (fun wE hE => by (have k0 := hE.cellS c0; have k1 := hE.cellS c1; go_simp; try with_reducible rfl)) ?_; simp only [Act.put, List.setIfInBounds_toArray, List.set_cons_zero, List.set_cons_succ]
  refine wpS_quiet (some 5) { dst := some 5, op := Op.build 44 #[(0, Operand.tmp 4)], type := _, pos := _, after := _, guard := none } _ rfl rfl (by rfl) (fun wE hE => by (go_simp; try with_reducible rfl)) ?_; simp only [Act.put, List.setIfInBounds_toArray, List.set_cons_zero, List.set_cons_succ]
  refine wpS_quiet (some 9) { dst := some 9, op := Op.fieldAddr 50 (Operand.tmp 1) 1, type := _, pos := _, after := _, guard := none } _ rfl rfl (by rfl) (fun wE hE => by (go_simp; try with_reducible rfl)) ?_; simp only [Act.put, List.setIfInBounds_toArray, List.set_cons_zero, List.set_cons_succ]
  refine wpS_quiet (some 10) { dst := some 10, op := Op.load 3 (Operand.tmp 9), type := _, pos := _, after := _, guard := none } _ rfl rfl (by rfl) (fun wE hE => by (have k0 := hE.cellS c0; have k1 := hE.cellS c1; go_simp; try with_reducible rfl)) ?_; simp only [Act.put, List.setIfInBounds_toArray, List.set_cons_zero, List.set_cons_succ]
  refine wpS_call (some 6) { dst := some 6, op := Op.call { callee := Callee.value (Operand.func 10), args := #[Operand.tmp 5], argTypes := #[44] }, type := _, pos := _, after := _, guard := none } 10 _ rfl rfl (by rfl) (by go_simp; try with_reducible rfl) ?_
  refine (newGrowing n hn _).mono ?_; rintro e w2 ⟨g, db, rfl, hr, hg, hd, e2⟩; refine ⟨_, rfl, e2, ?_⟩; simp only [Act.put, List.setIfInBounds_toArray, List.set_cons_zero, List.set_cons_succ]
  have d0 : w2.cell? ⟨g, 0, none⟩ = some (.slice (some ⟨db, 0, none⟩) n n) := by have := hr.1.cell (o := 0) rfl; simpa using this
  have d1 : w2.cell? ⟨g, 1, none⟩ = some (.int .i64 n) := by have := hr.1.cell (o := 1) rfl; simpa using this
  have d2 : w2.cell? ⟨g, 2, none⟩ = some (.int .i64 0) := hr.1.cell (o := 2) rfl
  have d3 : w2.cell? ⟨g, 3, none⟩ = some (.int .i64 0) := hr.1.cell (o := 3) rfl
  have e3 : Ext w w2 := e1.trans e2
  refine wpS_quiet (some 7) { dst := some 7, op := Op.nilCheck (Operand.tmp 6), type := _, pos := _, after := _, guard := none } _ rfl rfl (by rfl) (fun wE hE => by (go_simp; try with_reducible rfl)) ?_; simp only [Act.put, List.setIfInBounds_toArray, List.set_cons_zero, List.set_cons_succ]
  refine wpS_quiet (some 8) { dst := some 8, op := Op.load 61 (Operand.tmp 7), type := _, pos := _, after := _, guard := none } _ rfl rfl (by rfl) (fun wE hE => by (have k0 := hE.cellS d0; have k1 := hE.cellS d1; have k2 := hE.cellS d2; have k3 := hE.cellS d3; go_simp; try with_reducible rfl)) ?_; simp only [Act.put, List.setIfInBounds_toArray, List.set_cons_zero, List.set_cons_succ]
  refine wpS_quiet (some 11) { dst := some 11, op := Op.build 63 #[(0, Operand.tmp 8), (1, Operand.tmp 10)], type := _, pos := _, after := _, guard := none } _ rfl rfl (by rfl) (fun wE hE => by (go_simp; try with_reducible rfl)) ?_; simp only [Act.put, List.setIfInBounds_toArray, List.set_cons_zero, List.set_cons_succ]
  refine wpS_alloc (some 12) { dst := some 12, op := Op.box 63 (Operand.tmp 11), type := _, pos := _, after := _, guard := none } _ _ rfl rfl (by rfl) (by go_simp; try rfl) (fun _ h => h) ?_ trivial
  intro b w6 hb e6 K6
  have gb : w2.heap.size ≤ b := Nat.le_of_eq hb.symm
  clear hb
  simp only [Act.put, List.setIfInBounds_toArray, List.set_cons_zero, List.set_cons_succ]
  refine wpS_quiet (some 2) { dst := some 2, op := Op.assign (Operand.tmp 12), type := _, pos := _, after := _, guard := none } _ rfl rfl (by rfl) (fun wE hE => by (go_simp; try with_reducible rfl)) ?_; simp only [Act.put, List.setIfInBounds_toArray, List.set_cons_zero, List.set_cons_succ]
  change Exit.then _ _ _ _ _
  go_wp2
  go_ret
  have s1 : w.heap.size ≤ w1.heap.size := e1.size
  have s2 : w1.heap.size ≤ db := hd
  exact ⟨b, db, rfl, ⟨by simpa using K6, hr.2.1.ext e6, by have := hr.2.1.lt; omega, holds_empty n, by simp; omega⟩, by have := e3.size; omega, by omega, e3.trans e6⟩

/-- what a read answers, and leaves -/
def ReadQ (w : World) (b : Nat) (T : TypeId) (ex : List Value) (db : Nat) (q : List Int) (e : Ending) (w' : World) : Prop :=
  e = .returned (.tuple #[.int .i64 (q.head?.getD 0), .bool (!q.isEmpty)]) ∧ ∃ db' ds' beg', RingI w' b T ex db' ds' beg' q.tail ∧ (db' = db ∨ w.heap.size ≤ db') ∧ ExtX (fun k => k = b ∨ k = db) w w'

theorem readOne (b : Nat) (T : TypeId) (ex : List Value) (db : Nat) (ds : List Int) (beg : Nat) (q : List Int) (w : World) (h : RingI w b T ex db ds beg q) :
    Calls Try.prog 37 #[.pointer (some ⟨b, 0, none⟩)] w (ReadQ w b T ex db q) := by
  cases q with
  | nil =>
    refine (readOne_none b T ex db ds beg w h).mono ?_
    rintro e w' ⟨rfl, rfl⟩
    exact ⟨rfl, db, ds, beg, h, .inl rfl, ExtX.refl _ _⟩
  | cons x q =>
    refine (readOne_some b T ex db ds beg x q w h).mono ?_
    rintro e w' ⟨rfl, ds', beg', h', _, e1⟩
    exact ⟨rfl, db, ds', beg', h', .inl rfl, e1⟩

theorem Holds.none {ds : List Int} {beg : Nat} {q : List Int} (h : Holds ds beg q) : (beg : Int) ≥ 0 := by omega

noncomputable def ops_41_2 : Array Oper := opsAt Try.f41 2
set_option maxHeartbeats 2000000 in
theorem ringRead (b : Nat) (m : Nat) (hm : m ≤ 1000000) (db : Nat) (ds : List Int) (beg : Nat) (q : List Int) (w : World) (h : RingI w b 63 [.int .i64 m] db ds beg q) :
    Calls Try.prog 41 #[.pointer (some ⟨b, 0, none⟩)] w (ReadQ w b 63 [.int .i64 m] db q) := by
  have hmk : ∀ w : World, (Instr.makeSlice 22 (.int .i64 (m : Int)) (.int .i64 (m : Int))).run Try.prog w = .ok (.slice (some ⟨w.heap.size, 0, none⟩) m m) (w.alloc (.cells (zeros m) 3)) := make_ints m (by omega)
  go_enter Try.func41, Try.ntmps41
  go_wp2_with fail
  refine (readOne b _ _ db ds beg q _ h).mono ?_
  rintro e w1 ⟨rfl, db1, ds1, beg1, h1, hdb1, e1⟩
  go_wp2
  have M0 : ∀ k, k < w.heap.size → (k = b ∨ k = db1) → (k = b ∨ k = db) := fun k hk h => h.elim .inl fun h => by rcases hdb1 with hd | hd; exact .inr (h.trans hd); omega
  obtain ⟨K1, K2, hne, hh, hle⟩ := h1
  generalize hq1 : q.tail = q1 at *
  have HQ := Lib.hid hq1
  clear hq1
  have HH := Lib.hid hh
  have HD := Lib.hid hdb1
  have hnn : (ds1.length : Int) ≥ 0 := by omega
  clear hh hdb1
  have c1 : w1.cell? ⟨b, 1, none⟩ = some (.int .i64 ds1.length) := K1.cell rfl
  have c3 : w1.cell? ⟨b, 3, none⟩ = some (.int .i64 q1.length) := K1.cell rfl
  have c4 : w1.cell? ⟨b, 4, none⟩ = some (.int .i64 m) := K1.cell rfl
  by_cases hz : q1.length = 0
  · have hz1 : ((q1.length : Int) == 0) = true := by simpa using hz
    have HZ := Lib.hid hz
    clear hz
    by_cases hgt : m < ds1.length
    · have hg1 : decide ((ds1.length : Int) > (m : Int)) = true := by simp; omega
      have KA : ∀ n : Nat, Blk ((w1.drewN n).alloc (.cells (zeros m) 3)) b 63 _ := fun n => K1.extX (M := fun _ => False) ((ExtX.refl _ w1).alloc _) (fun h => h)
      have KD : ∀ n : Nat, Blk ((w1.drewN n).alloc (.cells (zeros m) 3)) w1.heap.size 3 ((List.replicate m (0 : Int)).map (Value.int .i64)) := fun n => by rw [List.map_replicate]; exact Blk.new (w1.drewN n) 3 _
      have E3 : ∀ n : Nat, ExtX (fun k => k = b ∨ k = db) w ((w1.drewN n).alloc (.cells (zeros m) 3)) := fun n => (e1.drewN n).alloc _
      have g0 := fun n => (KA n).cell (o := 0) rfl
      have g1 := fun n => (KA n).cell (o := 1) rfl
      have g2 := fun n => (KA n).cell (o := 2) rfl
      have g4 := fun n => (KA n).cell (o := 4) rfl
      have f0 := fun n => (KA n).frozen 0
      have f1 := fun n => (KA n).frozen 1
      have f2 := fun n => (KA n).frozen 2
      go_quiet (fail)
      go_wp2
      go_ret2
      clear hmk
      have KB := (((KA nq).setCell 0 (.slice (some ⟨w1.heap.size, 0, none⟩) m m)).setCell 1 (.int .i64 (m : Int))).setCell 2 (.int .i64 0)
      have hnb : b ≠ w1.heap.size := by have := K1.lt; omega
      have hs : w.heap.size ≤ w1.heap.size := e1.size
      have KC := (((KD nq).setCell_ne (p := ⟨b, 0, none⟩) hnb (.slice (some ⟨w1.heap.size, 0, none⟩) m m)).setCell_ne (p := ⟨b, 1, none⟩) hnb (.int .i64 (m : Int))).setCell_ne (p := ⟨b, 2, none⟩) hnb (.int .i64 0)
      obtain rfl := List.eq_nil_of_length_eq_zero HZ.out
      refine ⟨rfl, w1.heap.size, List.replicate m 0, 0, ?_, .inr hs, ((((E3 nq).setCell (p := ⟨b, 0, none⟩) (.inl rfl) _).setCell (p := ⟨b, 1, none⟩) (.inl rfl) _).setCell (p := ⟨b, 2, none⟩) (.inl rfl) _)⟩
      rw [HQ.out]
      exact ⟨by simpa using KB, KC, Ne.symm hnb, holds_empty m, by simp; omega⟩
    · have hg1 : decide ((ds1.length : Int) > (m : Int)) = false := by simp; omega
      go_quiet (fail)
      go_wp2
      go_ret2
      exact ⟨rfl, db1, ds1, beg1, by rw [HQ.out]; exact ⟨K1, K2, hne, HH.out, hle⟩, HD.out, e1⟩
  · have hz1 : ((q1.length : Int) == 0) = false := by simpa using hz
    go_quiet (fail)
    go_wp2
    go_ret2
    exact ⟨rfl, db1, ds1, beg1, by rw [HQ.out]; exact ⟨K1, K2, hne, HH.out, hle⟩, HD.out, e1⟩

set_option maxHeartbeats 1000000 in
theorem ringWrite (b : Nat) (ex : List Value) (db : Nat) (ds : List Int) (beg : Nat) (x : Int) (q : List Int) (hq : q.length ≤ 1000000) (w : World) (h : RingI w b 63 ex db ds beg q) :
    Calls Try.prog 42 #[.pointer (some ⟨b, 0, none⟩), .int .i64 x] w (WritePost w b 63 ex db (q ++ [x])) := by
  go_enter Try.func42, Try.ntmps42
  go_wp2_with fail
  refine (writeOne b _ ex db ds beg x q hq _ h).mono ?_
  rintro e w1 ⟨rfl, h1⟩
  go_wp2
  go_end0
  exact ⟨rfl, h1⟩
end Go.Proofs.Ytgebafnbkglmaaa
