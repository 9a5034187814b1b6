/-
  A growing ring (package buffer): what it holds, and what its methods do to it.
-/
import Derived.Test.YtgebafnbkglmaaaOwn
namespace Go.Proofs.Ytgebafnbkglmaaa
open Go.RowKit
set_option linter.unusedSimpArgs false
set_option linter.unusedVariables false

/-- what waits in a ring of the places ds, from beg on -/
def Holds (ds : List Int) (beg : Nat) (q : List Int) : Prop :=
  q.length ≤ ds.length ∧ (beg < ds.length ∨ (ds = [] ∧ beg = 0)) ∧ ∀ i x, q[i]? = some x → ds[(beg + i) % ds.length]? = some x

/-- the ring at block b (its four cells, then others), its places at block db -/
def RingI (w : World) (b : Nat) (T : TypeId) (ex : List Value) (db : Nat) (ds : List Int) (beg : Nat) (q : List Int) : Prop :=
  Blk w b T ([.slice (some ⟨db, 0, none⟩) ds.length ds.length, .int .i64 ds.length, .int .i64 beg, .int .i64 q.length] ++ ex) ∧
  Blk w db 3 (ds.map (Value.int .i64)) ∧ db ≠ b ∧ Holds ds beg q ∧ ds.length ≤ 4611686018427387903

theorem RingI.extX {M : Nat → Prop} {w w' : World} {b : Nat} {T : TypeId} {ex : List Value} {db : Nat} {ds : List Int} {beg : Nat} {q : List Int} (h : RingI w b T ex db ds beg q) (e : ExtX M w w') (hb : ¬ M b) (hd : ¬ M db) :
    RingI w' b T ex db ds beg q := ⟨h.1.extX e hb, h.2.1.extX e hd, h.2.2⟩

theorem Holds.read {ds : List Int} {beg : Nat} {x : Int} {q : List Int} (h : Holds ds beg (x :: q)) :
    beg < ds.length ∧ ds[beg]? = some x ∧ Holds (ds.set beg 0) (if beg + 1 = ds.length then 0 else beg + 1) q := by
  obtain ⟨h1, h2, h3⟩ := h
  simp only [List.length_cons] at h1
  have hb : beg < ds.length := by
    rcases h2 with h2 | ⟨h2, _⟩
    · exact h2
    · simp [h2] at h1
  have hx : ds[beg]? = some x := by have := h3 0 x rfl; rwa [Nat.add_zero, Nat.mod_eq_of_lt hb] at this
  refine ⟨hb, hx, by simp; omega, .inl ?_, fun i y hy => ?_⟩
  · rw [List.length_set]; split <;> omega
  · have hi : i < q.length := (List.getElem?_eq_some_iff.1 hy).1
    have h4 := h3 (i + 1) y (by simpa using hy)
    rw [List.length_set]
    have he : ((if beg + 1 = ds.length then 0 else beg + 1) + i) % ds.length = (beg + (i + 1)) % ds.length := by
      split
      · rename_i h
        rw [show beg + (i + 1) = ds.length + i by omega, Nat.zero_add, Nat.add_mod_left]
      · congr 1; omega
    rw [he, List.getElem?_set_ne, h4]
    intro hc
    by_cases hlt : beg + (i + 1) < ds.length
    · rw [Nat.mod_eq_of_lt hlt] at hc; omega
    · rw [show beg + (i + 1) = ds.length + (beg + (i + 1) - ds.length) by omega, Nat.add_mod_left, Nat.mod_eq_of_lt (by omega)] at hc
      omega

/-- what a read leaves -/
def ReadPost (w : World) (b : Nat) (T : TypeId) (ex : List Value) (db : Nat) (n : Nat) (x : Int) (q : List Int) (e : Ending) (w' : World) : Prop :=
  e = .returned (.tuple #[.int .i64 x, .bool true]) ∧ ∃ ds' beg', RingI w' b T ex db ds' beg' q ∧ ds'.length = n ∧ ExtX (fun k => k = b ∨ k = db) w w'

set_option maxHeartbeats 1000000 in
theorem readOne_none (b : Nat) (T : TypeId) (ex : List Value) (db : Nat) (ds : List Int) (beg : Nat) (w : World) (h : RingI w b T ex db ds beg []) :
    Calls Try.prog 37 #[.pointer (some ⟨b, 0, none⟩)] w fun e w' => e = .returned (.tuple #[.int .i64 0, .bool false]) ∧ w' = w := by
  obtain ⟨K1, K2, hne, hh, hle⟩ := h
  have c3 : w.cell? ⟨b, 3, none⟩ = some (.int .i64 0) := K1.cell rfl
  go_enter Try.func37, Try.ntmps37
  go_wp2
  go_ret2
  exact ⟨rfl, rfl⟩

noncomputable def ops_37_5 : Array Oper := opsAt Try.f37 5
set_option maxHeartbeats 1000000 in
theorem readOne_some (b : Nat) (T : TypeId) (ex : List Value) (db : Nat) (ds : List Int) (beg : Nat) (x : Int) (q : List Int) (w : World) (h : RingI w b T ex db ds beg (x :: q)) :
    Calls Try.prog 37 #[.pointer (some ⟨b, 0, none⟩)] w (ReadPost w b T ex db ds.length x q) := by
  obtain ⟨K1, K2, hne, hh, hle⟩ := h
  obtain ⟨hb, hx, hh'⟩ := hh.read
  have c0 : w.cell? ⟨b, 0, none⟩ = some (.slice (some ⟨db, 0, none⟩) ds.length ds.length) := K1.cell rfl
  have c1 : w.cell? ⟨b, 1, none⟩ = some (.int .i64 ds.length) := K1.cell rfl
  have c2 : w.cell? ⟨b, 2, none⟩ = some (.int .i64 beg) := K1.cell rfl
  have c3 : w.cell? ⟨b, 3, none⟩ = some (.int .i64 ((q.length : Int) + 1)) := K1.cell (by simp)
  have d0 : w.cell? ⟨db, beg, none⟩ = some (.int .i64 x) := K2.cell (by simp [hx])
  have f2 := K1.frozen 2
  have f3 := K1.frozen 3
  have f4 := K2.frozen beg
  have hql : q.length + 1 ≤ ds.length := by have := hh.1; simpa using this
  have HX := Lib.hid hx
  clear hx
  go_enter Try.func37, Try.ntmps37
  go_wp2
  go_quiet (fail)
  go_wp2
  have hw1 : ∃ w1 : World, w1 = (w.setCell ⟨b, 3, none⟩ (.int .i64 q.length)).drewN nq := ⟨_, rfl⟩
  obtain ⟨w1, hw1⟩ := hw1
  have e1 : ExtX (fun k => k = b ∨ k = db) w w1 := by rw [hw1]; exact (ExtX.refl _ w).setCell (p := ⟨b, 3, none⟩) (.inl rfl) _
  have K1 : Blk w1 b T ([.slice (some ⟨db, 0, none⟩) ds.length ds.length, .int .i64 ds.length, .int .i64 beg, .int .i64 q.length] ++ ex) := by rw [hw1]; exact K1.setCell 3 (.int .i64 q.length)
  have K2 : Blk w1 db 3 (ds.map (Value.int .i64)) := by rw [hw1]; exact K2.setCell_ne (p := ⟨b, 3, none⟩) (Ne.symm hne) _
  rw [← hw1]
  clear hw1 c0 c1 c2 c3 d0 f2 f3 f4
  have c0 : w1.cell? ⟨b, 0, none⟩ = some (.slice (some ⟨db, 0, none⟩) ds.length ds.length) := K1.cell rfl
  have c1 : w1.cell? ⟨b, 1, none⟩ = some (.int .i64 ds.length) := K1.cell rfl
  have c2 : w1.cell? ⟨b, 2, none⟩ = some (.int .i64 beg) := K1.cell rfl
  have d0 : w1.cell? ⟨db, beg, none⟩ = some (.int .i64 x) := K2.cell (by simp [HX.out])
  have f2 := K1.frozen 2
  have f4 := K2.frozen beg
  refine wp_region_sched (ops := ops_37_5) Ext [10] (.quiet 0 (.quiet 1 (.quiet 2 (.quiet 3 (.quiet 4 (.quiet 5 (.quiet 6 (.quiet 7 (.quiet 8 (.quiet 9 (.last 10 (.done)))))))))))) (by kernel_rfl) ext_refl ext_trans (by kernel_rfl) (fun _ _ d _ _ h => by cases d <;> exact h) ?_
  refine wpS_quiet (some 28) { dst := some 28, op := Op.move (Operand.tmp 0), type := _, pos := _, after := _, guard := none } _ rfl rfl (by rfl) (fun wE hE => by (go_simp; try with_reducible rfl)) ?_; simp only [Act.put, List.setIfInBounds_toArray, List.set_cons_zero, List.set_cons_succ]
  refine wpS_quiet (some 29) { dst := some 29, op := Op.nilCheck (Operand.tmp 28), type := _, pos := _, after := _, guard := none } _ rfl rfl (by rfl) (fun wE hE => by (go_simp; try with_reducible rfl)) ?_; simp only [Act.put, List.setIfInBounds_toArray, List.set_cons_zero, List.set_cons_succ]
  refine wpS_quiet (some 30) { dst := some 30, op := Op.fieldAddr 61 (Operand.tmp 29) 0, type := _, pos := _, after := _, guard := none } _ rfl rfl (by rfl) (fun wE hE => by (go_simp; try with_reducible rfl)) ?_; simp only [Act.put, List.setIfInBounds_toArray, List.set_cons_zero, List.set_cons_succ]
  refine wpS_quiet (some 31) { dst := some 31, op := Op.load 22 (Operand.tmp 30), type := _, pos := _, after := _, guard := none } _ rfl rfl (by rfl) (fun wE hE => by (have k0 := hE.cellS c0; have k1 := hE.cellS c1; have k2 := hE.cellS c2; go_simp; try with_reducible rfl)) ?_; simp only [Act.put, List.setIfInBounds_toArray, List.set_cons_zero, List.set_cons_succ]
  refine wpS_quiet (some 32) { dst := some 32, op := Op.move (Operand.tmp 0), type := _, pos := _, after := _, guard := none } _ rfl rfl (by rfl) (fun wE hE => by (go_simp; try with_reducible rfl)) ?_; simp only [Act.put, List.setIfInBounds_toArray, List.set_cons_zero, List.set_cons_succ]
  refine wpS_quiet (some 33) { dst := some 33, op := Op.nilCheck (Operand.tmp 32), type := _, pos := _, after := _, guard := none } _ rfl rfl (by rfl) (fun wE hE => by (go_simp; try with_reducible rfl)) ?_; simp only [Act.put, List.setIfInBounds_toArray, List.set_cons_zero, List.set_cons_succ]
  refine wpS_quiet (some 34) { dst := some 34, op := Op.fieldAddr 61 (Operand.tmp 33) 2, type := _, pos := _, after := _, guard := none } _ rfl rfl (by rfl) (fun wE hE => by (go_simp; try with_reducible rfl)) ?_; simp only [Act.put, List.setIfInBounds_toArray, List.set_cons_zero, List.set_cons_succ]
  refine wpS_quiet (some 35) { dst := some 35, op := Op.load 3 (Operand.tmp 34), type := _, pos := _, after := _, guard := none } _ rfl rfl (by rfl) (fun wE hE => by (have k0 := hE.cellS c0; have k1 := hE.cellS c1; have k2 := hE.cellS c2; go_simp; try with_reducible rfl)) ?_; simp only [Act.put, List.setIfInBounds_toArray, List.set_cons_zero, List.set_cons_succ]
  refine wpS_quiet (some 36) { dst := some 36, op := Op.move (Operand.tmp 5), type := _, pos := _, after := _, guard := none } _ rfl rfl (by rfl) (fun wE hE => by (go_simp; try with_reducible rfl)) ?_; simp only [Act.put, List.setIfInBounds_toArray, List.set_cons_zero, List.set_cons_succ]
  refine wpS_quiet (some 37) { dst := some 37, op := Op.indexAddr 22 (Operand.tmp 31) (Operand.tmp 35), type := _, pos := _, after := _, guard := none } _ rfl rfl (by rfl) (fun wE hE => by (go_simp; try with_reducible rfl)) ?_; simp only [Act.put, List.setIfInBounds_toArray, List.set_cons_zero, List.set_cons_succ]
  refine wpS_last none { dst := none, op := Op.store 3 (Operand.tmp 37) (Operand.tmp 36), type := _, pos := _, after := _, guard := none } undef (World.setCell w1.drew ⟨db, beg, none⟩ (.int .i64 0)) rfl rfl (by rfl) (.inr ⟨rfl, by (go_simp; try rfl)⟩) ?_
  simp only [Act.put]
  change Exit.then _ _ _ _ _
  go_wp2
  obtain ⟨w2, hw2⟩ : ∃ u : World, u = World.setCell w1.drew ⟨db, beg, none⟩ (.int .i64 0) := ⟨_, rfl⟩
  have e2 : ExtX (fun k => k = b ∨ k = db) w w2 := by rw [hw2]; exact e1.drew.setCell (p := ⟨db, beg, none⟩) (.inr rfl) _
  have K1 : Blk w2 b T ([.slice (some ⟨db, 0, none⟩) ds.length ds.length, .int .i64 ds.length, .int .i64 beg, .int .i64 q.length] ++ ex) := by rw [hw2]; exact K1.drew.setCell_ne (p := ⟨db, beg, none⟩) hne _
  have K2 : Blk w2 db 3 ((ds.set beg 0).map (Value.int .i64)) := by
    rw [hw2, List.map_set]; exact K2.drew.setCell beg (.int .i64 0)
  rw [← hw2]
  clear hw2 c0 c1 c2 d0 f2 f4 e1
  have c1 : w2.cell? ⟨b, 1, none⟩ = some (.int .i64 ds.length) := K1.cell rfl
  have c2 : w2.cell? ⟨b, 2, none⟩ = some (.int .i64 beg) := K1.cell rfl
  have f2 := K1.frozen 2
  have HH := Lib.hid hh'
  have HH0 := Lib.hid hh
  clear hh hh'
  go_quiet (fail)
  by_cases hend : beg + 1 = ds.length
  · have he : ((beg : Int) == (ds.length : Int) - 1) = true := by simp; omega
    go_wp2
    go_ret2
    refine ⟨rfl, ds.set beg 0, 0, ⟨?_, ?_, hne, ?_, by simpa using hle⟩, by simp, ?_⟩
    · rw [List.length_set]; exact K1.setCell 2 (.int .i64 0)
    · exact K2.setCell_ne (p := ⟨b, 2, none⟩) (Ne.symm hne) _
    · have := HH.out; rwa [if_pos hend] at this
    · exact e2.setCell (p := ⟨b, 2, none⟩) (.inl rfl) _
  · have he : ((beg : Int) == (ds.length : Int) - 1) = false := by simp; omega
    go_wp2
    go_ret2
    refine ⟨rfl, ds.set beg 0, beg + 1, ⟨?_, ?_, hne, ?_, by simpa using hle⟩, by simp, ?_⟩
    · rw [List.length_set]; exact K1.setCell 2 (.int .i64 ((beg + 1 : Nat) : Int))
    · exact K2.setCell_ne (p := ⟨b, 2, none⟩) (Ne.symm hne) _
    · have := HH.out; rwa [if_neg hend] at this
    · exact e2.setCell (p := ⟨b, 2, none⟩) (.inl rfl) _

theorem Holds.write {ds : List Int} {beg : Nat} {q : List Int} (h : Holds ds beg q) (hlt : q.length < ds.length) (x : Int) :
    Holds (ds.set ((q.length + beg) % ds.length) x) beg (q ++ [x]) := by
  obtain ⟨h1, h2, h3⟩ := h
  have hb : beg < ds.length := by
    rcases h2 with h2 | ⟨h2, _⟩
    · exact h2
    · simp [h2] at hlt
  refine ⟨by simp; omega, .inl (by rw [List.length_set]; exact hb), fun i y hy => ?_⟩
  rw [List.length_set]
  have hk : (q.length + beg) % ds.length < ds.length := Nat.mod_lt _ (by omega)
  by_cases hi : i < q.length
  · rw [List.getElem?_append_left hi] at hy
    rw [List.getElem?_set_ne, h3 i y hy]
    intro hc
    have e1 : ∀ j, j < ds.length → (beg + j) % ds.length = if beg + j < ds.length then beg + j else beg + j - ds.length := by
      intro j hj
      split
      · exact Nat.mod_eq_of_lt ‹_›
      · rw [show beg + j = ds.length + (beg + j - ds.length) by omega, Nat.add_mod_left, Nat.mod_eq_of_lt (by omega)]; omega
    rw [Nat.add_comm q.length beg, e1 _ hlt, e1 i (by omega)] at hc
    split at hc <;> split at hc <;> omega
  · have hle : i = q.length := by
      have := (List.getElem?_eq_some_iff.1 hy).1
      simp at this
      omega
    subst hle
    simp at hy
    subst hy
    rw [Nat.add_comm beg, List.getElem?_set_self hk]
theorem Holds.full {ds : List Int} {beg : Nat} {q : List Int} (h : Holds ds beg q) (hf : q.length = ds.length) : q = ds.drop beg ++ ds.take beg := by
  obtain ⟨h1, h2, h3⟩ := h
  apply List.ext_getElem?
  intro i
  by_cases hi : i < q.length
  · have hb : beg < ds.length := by
      rcases h2 with h2 | ⟨h2, _⟩
      · exact h2
      · simp [h2] at hf; simp [hf] at hi
    rw [List.getElem?_eq_getElem hi, ← h3 i _ (List.getElem?_eq_getElem hi)]
    by_cases hlt : beg + i < ds.length
    · rw [Nat.mod_eq_of_lt hlt, List.getElem?_append_left (by simp; omega), List.getElem?_drop]
    · rw [show beg + i = ds.length + (beg + i - ds.length) by omega, Nat.add_mod_left, Nat.mod_eq_of_lt (by omega), List.getElem?_append_right (by simp; omega), List.getElem?_take_of_lt (by simp; omega)]
      congr 1
      simp
      omega
  · rw [List.getElem?_eq_none (by omega), List.getElem?_eq_none (by simp; omega)]
theorem Holds.fresh (q : List Int) (m : Nat) (hm : 0 < m) (x : Int) : Holds ((q ++ List.replicate m 0).set q.length x) 0 (q ++ [x]) := by
  refine ⟨by simp; omega, .inl (by simp; omega), fun i y hy => ?_⟩
  have hi : i < q.length + 1 := by have := (List.getElem?_eq_some_iff.1 hy).1; simpa using this
  rw [Nat.zero_add, Nat.mod_eq_of_lt (by simp; omega)]
  by_cases hlt : i < q.length
  · rw [List.getElem?_append_left hlt] at hy
    rw [List.getElem?_set_ne (by omega), List.getElem?_append_left hlt, hy]
  · have hle : i = q.length := by omega
    subst hle
    simp at hy
    subst hy
    rw [List.getElem?_set_self (by simp; omega)]

/-- what a write leaves -/
def WritePost (w : World) (b : Nat) (T : TypeId) (ex : List Value) (db : Nat) (q : List Int) (e : Ending) (w' : World) : Prop :=
  e = .returned (.tuple #[]) ∧ ∃ db' ds' beg', RingI w' b T ex db' ds' beg' q ∧ (db' = db ∨ w.heap.size ≤ db') ∧ ExtX (fun k => k = b ∨ k = db) w w'

noncomputable def ops_38_13 : Array Oper := opsAt Try.f38 13
set_option maxHeartbeats 1000000 in
theorem writeOne_room (b : Nat) (T : TypeId) (ex : List Value) (db : Nat) (ds : List Int) (beg : Nat) (x : Int) (q : List Int) (w : World) (h : RingI w b T ex db ds beg q) (hlt : q.length < ds.length) :
    Calls Try.prog 38 #[.pointer (some ⟨b, 0, none⟩), .int .i64 x] w (WritePost w b T ex db (q ++ [x])) := by
  obtain ⟨K1, K2, hne, hh, hle⟩ := h
  have hw := hh.write hlt x
  have hbeg : beg < ds.length := by
    rcases hh.2.1 with h2 | ⟨h2, _⟩
    · exact h2
    · simp [h2] at hlt
  obtain ⟨k, hk⟩ : ∃ k, k = (q.length + beg) % ds.length := ⟨_, rfl⟩
  have hkl : k < ds.length := by rw [hk]; exact Nat.mod_lt _ (by omega)
  have hki : ((q.length : Int) + (beg : Int)).tmod (ds.length : Int) = (k : Int) := by
    rw [hk, Int.natCast_emod, Int.natCast_add, Int.tmod_eq_emod_of_nonneg (by omega)]
  have hds : ds ≠ [] := by intro h; simp [h] at hbeg
  have hwr : IntKind.i64.wrap ((q.length : Int) + (beg : Int)) = (q.length : Int) + (beg : Int) := IntWalk.i64_in _ (by omega)
  rw [← hk] at hw
  clear hk
  have HW := Lib.hid hw
  clear hw hh
  have c0 : w.cell? ⟨b, 0, none⟩ = some (.slice (some ⟨db, 0, none⟩) ds.length ds.length) := K1.cell rfl
  have c1 : w.cell? ⟨b, 1, none⟩ = some (.int .i64 ds.length) := K1.cell rfl
  have c2 : w.cell? ⟨b, 2, none⟩ = some (.int .i64 beg) := K1.cell rfl
  have c3 : w.cell? ⟨b, 3, none⟩ = some (.int .i64 q.length) := K1.cell rfl
  have hnq : ((q.length : Int) == (ds.length : Int)) = false := by simp; omega
  go_enter Try.func38, Try.ntmps38
  go_wp2
  go_quiet (fail)
  go_wp2
  obtain ⟨w1, hw1⟩ : ∃ u : World, u = w.drewN nq := ⟨_, rfl⟩
  have e1 : ExtX (fun k => k = b ∨ k = db) w w1 := by rw [hw1]; exact ExtX.refl _ w
  have K1 : Blk w1 b T ([.slice (some ⟨db, 0, none⟩) ds.length ds.length, .int .i64 ds.length, .int .i64 beg, .int .i64 q.length] ++ ex) := by rw [hw1]; exact K1
  have K2 : Blk w1 db 3 (ds.map (Value.int .i64)) := by rw [hw1]; exact K2
  rw [← hw1]
  clear hw1 c0 c1 c2 c3
  have c0 : w1.cell? ⟨b, 0, none⟩ = some (.slice (some ⟨db, 0, none⟩) ds.length ds.length) := K1.cell rfl
  have c1 : w1.cell? ⟨b, 1, none⟩ = some (.int .i64 ds.length) := K1.cell rfl
  have c2 : w1.cell? ⟨b, 2, none⟩ = some (.int .i64 beg) := K1.cell rfl
  have c3 : w1.cell? ⟨b, 3, none⟩ = some (.int .i64 q.length) := K1.cell rfl
  have d0 : w1.cell? ⟨db, k, none⟩ = some (.int .i64 ds[k]) := K2.cell (by simp [hkl])
  have f4 := K2.frozen k
  refine wp_region_sched (ops := ops_38_13) Ext [20] (.quiet 0 (.quiet 1 (.quiet 2 (.quiet 3 (.quiet 4 (.quiet 5 (.quiet 6 (.quiet 7 (.quiet 8 (.quiet 9 (.quiet 10 (.quiet 11 (.quiet 12 (.quiet 13 (.quiet 14 (.quiet 15 (.quiet 16 (.quiet 17 (.quiet 18 (.quiet 19 (.last 20 (.done)))))))))))))))))))))) (by kernel_rfl) ext_refl ext_trans (by kernel_rfl) (fun _ _ d _ _ h => by cases d <;> exact h) ?_
  refine wpS_quiet (some 90) { dst := some 90, op := Op.move (Operand.tmp 0), type := _, pos := _, after := _, guard := none } _ rfl rfl (by rfl) (fun wE hE => by (go_simp; try with_reducible rfl)) ?_; simp only [Act.put, List.setIfInBounds_toArray, List.set_cons_zero, List.set_cons_succ]
  refine wpS_quiet (some 91) { dst := some 91, op := Op.nilCheck (Operand.tmp 90), type := _, pos := _, after := _, guard := none } _ rfl rfl (by rfl) (fun wE hE => by (go_simp; try with_reducible rfl)) ?_; simp only [Act.put, List.setIfInBounds_toArray, List.set_cons_zero, List.set_cons_succ]
  refine wpS_quiet (some 92) { dst := some 92, op := Op.fieldAddr 61 (Operand.tmp 91) 0, type := _, pos := _, after := _, guard := none } _ rfl rfl (by rfl) (fun wE hE => by (go_simp; try with_reducible rfl)) ?_; simp only [Act.put, List.setIfInBounds_toArray, List.set_cons_zero, List.set_cons_succ]
  refine wpS_quiet (some 93) { dst := some 93, op := Op.load 22 (Operand.tmp 92), type := _, pos := _, after := _, guard := none } _ rfl rfl (by rfl) (fun wE hE => by (have k0 := hE.cellS c0; have k1 := hE.cellS c1; have k2 := hE.cellS c2; have k3 := hE.cellS c3; go_simp; try with_reducible rfl)) ?_; simp only [Act.put, List.setIfInBounds_toArray, List.set_cons_zero, List.set_cons_succ]
  refine wpS_quiet (some 94) { dst := some 94, op := Op.move (Operand.tmp 0), type := _, pos := _, after := _, guard := none } _ rfl rfl (by rfl) (fun wE hE => by (go_simp; try with_reducible rfl)) ?_; simp only [Act.put, List.setIfInBounds_toArray, List.set_cons_zero, List.set_cons_succ]
  refine wpS_quiet (some 95) { dst := some 95, op := Op.nilCheck (Operand.tmp 94), type := _, pos := _, after := _, guard := none } _ rfl rfl (by rfl) (fun wE hE => by (go_simp; try with_reducible rfl)) ?_; simp only [Act.put, List.setIfInBounds_toArray, List.set_cons_zero, List.set_cons_succ]
  refine wpS_quiet (some 96) { dst := some 96, op := Op.fieldAddr 61 (Operand.tmp 95) 3, type := _, pos := _, after := _, guard := none } _ rfl rfl (by rfl) (fun wE hE => by (go_simp; try with_reducible rfl)) ?_; simp only [Act.put, List.setIfInBounds_toArray, List.set_cons_zero, List.set_cons_succ]
  refine wpS_quiet (some 97) { dst := some 97, op := Op.load 3 (Operand.tmp 96), type := _, pos := _, after := _, guard := none } _ rfl rfl (by rfl) (fun wE hE => by (have k0 := hE.cellS c0; have k1 := hE.cellS c1; have k2 := hE.cellS c2; have k3 := hE.cellS c3; go_simp; try with_reducible rfl)) ?_; simp only [Act.put, List.setIfInBounds_toArray, List.set_cons_zero, List.set_cons_succ]
  refine wpS_quiet (some 98) { dst := some 98, op := Op.move (Operand.tmp 0), type := _, pos := _, after := _, guard := none } _ rfl rfl (by rfl) (fun wE hE => by (go_simp; try with_reducible rfl)) ?_; simp only [Act.put, List.setIfInBounds_toArray, List.set_cons_zero, List.set_cons_succ]
  refine wpS_quiet (some 99) { dst := some 99, op := Op.nilCheck (Operand.tmp 98), type := _, pos := _, after := _, guard := none } _ rfl rfl (by rfl) (fun wE hE => by (go_simp; try with_reducible rfl)) ?_; simp only [Act.put, List.setIfInBounds_toArray, List.set_cons_zero, List.set_cons_succ]
  refine wpS_quiet (some 100) { dst := some 100, op := Op.fieldAddr 61 (Operand.tmp 99) 2, type := _, pos := _, after := _, guard := none } _ rfl rfl (by rfl) (fun wE hE => by (go_simp; try with_reducible rfl)) ?_; simp only [Act.put, List.setIfInBounds_toArray, List.set_cons_zero, List.set_cons_succ]
  refine wpS_quiet (some 101) { dst := some 101, op := Op.load 3 (Operand.tmp 100), type := _, pos := _, after := _, guard := none } _ rfl rfl (by rfl) (fun wE hE => by (have k0 := hE.cellS c0; have k1 := hE.cellS c1; have k2 := hE.cellS c2; have k3 := hE.cellS c3; go_simp; try with_reducible rfl)) ?_; simp only [Act.put, List.setIfInBounds_toArray, List.set_cons_zero, List.set_cons_succ]
  refine wpS_quiet (some 102) { dst := some 102, op := Op.binOp BinOp.add 3 (Operand.tmp 97) (Operand.tmp 101) 3, type := _, pos := _, after := _, guard := none } _ rfl rfl (by rfl) (fun wE hE => by (go_simp; try with_reducible rfl)) ?_; simp only [Act.put, List.setIfInBounds_toArray, List.set_cons_zero, List.set_cons_succ]
  refine wpS_quiet (some 103) { dst := some 103, op := Op.move (Operand.tmp 0), type := _, pos := _, after := _, guard := none } _ rfl rfl (by rfl) (fun wE hE => by (go_simp; try with_reducible rfl)) ?_; simp only [Act.put, List.setIfInBounds_toArray, List.set_cons_zero, List.set_cons_succ]
  refine wpS_quiet (some 104) { dst := some 104, op := Op.nilCheck (Operand.tmp 103), type := _, pos := _, after := _, guard := none } _ rfl rfl (by rfl) (fun wE hE => by (go_simp; try with_reducible rfl)) ?_; simp only [Act.put, List.setIfInBounds_toArray, List.set_cons_zero, List.set_cons_succ]
  refine wpS_quiet (some 105) { dst := some 105, op := Op.fieldAddr 61 (Operand.tmp 104) 1, type := _, pos := _, after := _, guard := none } _ rfl rfl (by rfl) (fun wE hE => by (go_simp; try with_reducible rfl)) ?_; simp only [Act.put, List.setIfInBounds_toArray, List.set_cons_zero, List.set_cons_succ]
  refine wpS_quiet (some 106) { dst := some 106, op := Op.load 3 (Operand.tmp 105), type := _, pos := _, after := _, guard := none } _ rfl rfl (by rfl) (fun wE hE => by (have k0 := hE.cellS c0; have k1 := hE.cellS c1; have k2 := hE.cellS c2; have k3 := hE.cellS c3; go_simp; try with_reducible rfl)) ?_; simp only [Act.put, List.setIfInBounds_toArray, List.set_cons_zero, List.set_cons_succ]
  refine wpS_quiet (some 107) { dst := some 107, op := Op.binOp BinOp.rem 3 (Operand.tmp 102) (Operand.tmp 106) 3, type := _, pos := _, after := _, guard := none } _ rfl rfl (by rfl) (fun wE hE => by (go_simp; try with_reducible rfl)) ?_; simp only [Act.put, List.setIfInBounds_toArray, List.set_cons_zero, List.set_cons_succ]
  refine wpS_quiet (some 108) { dst := some 108, op := Op.move (Operand.tmp 1), type := _, pos := _, after := _, guard := none } _ rfl rfl (by rfl) (fun wE hE => by (go_simp; try with_reducible rfl)) ?_; simp only [Act.put, List.setIfInBounds_toArray, List.set_cons_zero, List.set_cons_succ]
  refine wpS_quiet (some 109) { dst := some 109, op := Op.indexAddr 22 (Operand.tmp 93) (Operand.tmp 107), type := _, pos := _, after := _, guard := none } _ rfl rfl (by rfl) (fun wE hE => by (go_simp; try with_reducible rfl)) ?_; simp only [Act.put, List.setIfInBounds_toArray, List.set_cons_zero, List.set_cons_succ]
  refine wpS_last none { dst := none, op := Op.store 3 (Operand.tmp 109) (Operand.tmp 108), type := _, pos := _, after := _, guard := none } undef (World.setCell w1.drew ⟨db, k, none⟩ (.int .i64 x)) rfl rfl (by rfl) (.inr ⟨rfl, by (go_simp; try rfl)⟩) ?_
  simp only [Act.put]
  change Exit.then _ _ _ _ _
  have K1 : Blk (World.setCell w1.drew ⟨db, k, none⟩ (.int .i64 x)) b T _ := K1.drew.setCell_ne (p := ⟨db, k, none⟩) hne _
  have K2 : Blk (World.setCell w1.drew ⟨db, k, none⟩ (.int .i64 x)) db 3 ((ds.set k x).map (Value.int .i64)) := by rw [List.map_set]; exact K2.drew.setCell k (.int .i64 x)
  have e2 := e1.drew.setCell (p := ⟨db, k, none⟩) (.inr rfl) (.int .i64 x)
  clear c0 c1 c2 c3 d0 f4 e1 hwr
  generalize World.setCell w1.drew ⟨db, k, none⟩ (.int .i64 x) = w2 at *
  have c3 : w2.cell? ⟨b, 3, none⟩ = some (.int .i64 q.length) := K1.cell rfl
  have f3 := K1.frozen 3
  go_wp2
  go_end0
  refine ⟨rfl, db, ds.set k x, beg, ⟨?_, ?_, hne, HW.out, by simpa using hle⟩, .inl rfl, e2.setCell (p := ⟨b, 3, none⟩) (.inl rfl) _⟩
  · have := K1.setCell 3 (.int .i64 ((q ++ [x]).length : Nat))
    rw [List.length_set]
    simpa using this
  · exact K2.setCell_ne (p := ⟨b, 3, none⟩) (Ne.symm hne) _
end Go.Proofs.Ytgebafnbkglmaaa
