/-
  An operation of a ring, played (impl.rung).
-/
import Derived.Test.YtgebafnbkglmaaaRingN
import Derived.Handy
namespace Go.Proofs.Ytgebafnbkglmaaa
open Go.RowKit
set_option linter.unusedSimpArgs false
set_option linter.unusedVariables false

/-- a number, of whatever size -/
def Rp.num : Rp Int := ⟨fun _ _ n cs => cs = [.int .i64 n], 1, by decide, fun h => by rw [h]; rfl, fun _ h => h, fun _ h => h, fun h => h, fun h u hu => by rw [h] at hu; rw [List.mem_singleton.1 hu]; rfl⟩
theorem slice_num {w : World} {ok : Nat → Prop} {xs : List Int} {cs : List Value} (h : (Rp.slice (Rp.int .i64)).K w ok xs cs) : (Rp.slice Rp.num).K w ok xs cs := by
  obtain ⟨A, cap, h1, h2, h3, h4, h5⟩ := h
  refine ⟨A, cap, h1, h2, h3, h4, fun i x hx => ?_⟩
  obtain ⟨b, o, c, k1, k2, k3, k4⟩ := h5 i x hx
  exact ⟨b, o, c, k1, k2, k3, k4.1⟩
theorem slice_one {w : World} {ok : Nat → Prop} {g o : Nat} {x : Int} (hok : ok g) (h : w.cell? ⟨g, o, none⟩ = some (.int .i64 x)) : (Rp.slice Rp.num).K w ok [x] [.slice (some ⟨g, o, none⟩) 1 1] := by
  refine ⟨_, 1, rfl, Nat.le_refl _, by decide, (fun h => by cases h), fun i y hy => ?_⟩
  refine one_elem (p := fun i y => ∃ b o_1 cs, some (⟨g, o, none⟩ : Addr) = some ⟨b, o_1, none⟩ ∧ ok b ∧ (∀ j, j < Rp.num.sz → w.cell? ⟨b, o_1 + (i * Rp.num.sz + j), none⟩ = cs[j]?) ∧ Rp.num.K w ok y cs) ?_ i y hy
  refine ⟨g, o, [.int .i64 x], rfl, hok, fun j hj => ?_, rfl⟩
  have : j = 0 := by have : j < 1 := hj; omega
  subst this
  simpa using h

/-- r is a ring at block b, its places at db; q waits in it -/
def RingV (w : World) (r : Value) (b db : Nat) (q : List Int) : Prop :=
  (r = .iface 41 (.pointer (some ⟨b, 0, none⟩)) ∧ ∃ ds beg, RingI w b 61 [] db ds beg q) ∨
  (r = .iface 47 (.pointer (some ⟨b, 0, none⟩)) ∧ ∃ (m : Nat), m ≤ 1000000 ∧ ∃ ds beg, RingI w b 63 [.int .i64 m] db ds beg q)
theorem RingV.extX {M : Nat → Prop} {w w' : World} {r : Value} {b db : Nat} {q : List Int} (h : RingV w r b db q) (e : ExtX M w w') (hb : ¬ M b) (hd : ¬ M db) : RingV w' r b db q := by
  rcases h with ⟨h1, ds, beg, h2⟩ | ⟨h1, m, hm, ds, beg, h2⟩
  · exact .inl ⟨h1, ds, beg, h2.extX e hb hd⟩
  · exact .inr ⟨h1, m, hm, ds, beg, h2.extX e hb hd⟩
theorem RingV.lt {w : World} {r : Value} {b db : Nat} {q : List Int} (h : RingV w r b db q) : b < w.heap.size ∧ db < w.heap.size ∧ db ≠ b := by
  rcases h with ⟨h1, ds, beg, h2⟩ | ⟨h1, m, hm, ds, beg, h2⟩
  · exact ⟨h2.1.lt, h2.2.1.lt, h2.2.2.1⟩
  · exact ⟨h2.1.lt, h2.2.1.lt, h2.2.2.1⟩

/-- what a read's answer is -/
def ReadAns (w : World) (r : Value) (b db : Nat) (q : List Int) (e : Ending) (w' : World) : Prop :=
  ∃ v db', e = .returned (.agg #[.bool (!q.isEmpty), .int .i64 0, v]) ∧ (Rp.slice Rp.num).K w' (fun k => w.heap.size ≤ k ∧ k ≠ db') (q.head?.toList) [v] ∧
    RingV w' r b db' q.tail ∧ (db' = db ∨ w.heap.size ≤ db') ∧ ExtX (fun k => k = b ∨ k = db) w w'



set_option maxHeartbeats 1000000 in
theorem rungReadG (b db : Nat) (q : List Int) (vs : Value) (hvs : vs.cells.size = 1) (ds : List Int) (beg : Nat) (w : World) (h : RingI w b 61 [] db ds beg q) :
    Calls Try.prog 12 #[.iface 41 (.pointer (some ⟨b, 0, none⟩)), .agg #[.int .i64 2, vs]] w (ReadAns w (.iface 41 (.pointer (some ⟨b, 0, none⟩))) b db q) := by
  go_enter Try.func12, Try.ntmps12
  go_wp2_with fail
  obtain ⟨W, hW⟩ : ∃ u : World, u = ((w.alloc (.cells #[.int .i64 2, vs] 26)).alloc (.cells #[.bool false, .int .i64 0, .slice none 0 0] 31)).alloc (.cells #[.bool false, .int .i64 0, .slice none 0 0] 31) := ⟨_, rfl⟩
  have e0 : Ext w W := by rw [hW]; exact (((Ext.refl w).alloc _).alloc _).alloc _
  have KR : Blk W (w.heap.size + 1) 31 [.bool false, .int .i64 0, .slice none 0 0] := by
    rw [hW]
    have := (Blk.new (w.alloc (.cells #[.int .i64 2, vs] 26)) 31 [.bool false, .int .i64 0, .slice none 0 0]).ext ((Ext.refl _).alloc (.cells #[.bool false, .int .i64 0, .slice none 0 0] 31))
    simpa using this
  have KO : Blk W (w.heap.size + 1 + 1) 31 [.bool false, .int .i64 0, .slice none 0 0] := by
    rw [hW]
    have := (Blk.new ((w.alloc (.cells #[.int .i64 2, vs] 26)).alloc (.cells #[.bool false, .int .i64 0, .slice none 0 0] 31)) 31 [.bool false, .int .i64 0, .slice none 0 0])
    simpa using this
  have sW : W.heap.size = w.heap.size + 1 + 1 + 1 := by rw [hW]; simp
  rw [← hW]
  clear hW
  have hbl : b < w.heap.size := h.1.lt
  have hdl : db < w.heap.size := h.2.1.lt
  have h := h.extX (e0.toX (fun _ => False)) (fun h => h) (fun h => h)
  refine (readOne b _ _ db ds beg q _ h).mono ?_
  rintro e w1 ⟨rfl, db1, ds1, beg1, h1, hdb1, e1⟩
  have KR := KR.extX e1 (by omega)
  have KO := KO.extX e1 (by omega)
  have s0 := e0.size
  have s1 := e1.size
  have c0 := KR.cell (o := 0) rfl
  have c1 := KR.cell (o := 1) rfl
  have c2 := KR.cell (o := 2) rfl
  have d0 := KO.cell (o := 0) rfl
  have d1 := KO.cell (o := 1) rfl
  have d2 := KO.cell (o := 2) rfl
  have f0 := KR.frozen 0
  have f1 := KR.frozen 1
  have f2 := KR.frozen 2
  have g0 := KO.frozen 0
  have g1 := KO.frozen 1
  have g2 := KO.frozen 2
  cases q with
  | nil =>
    go_wp2
    clear c0 c1 c2 d0 d1 d2 f0 f1 f2 g0 g1 g2
    skip
    obtain ⟨w5, hw5⟩ : ∃ u : World, u = set3 (w1.setCell ⟨w.heap.size + 1 + 1, 0, none⟩ (.bool false)) (w.heap.size + 1) (.bool false) (.int .i64 0) (.slice none 0 0) := ⟨_, rfl⟩
    have KR5 := (KR.setCell_ne (p := ⟨w.heap.size + 1 + 1, 0, none⟩) (by simp) (.bool false)).set3 (.bool false) (.int .i64 0) (.slice none 0 0)
    have E5 : ExtX (fun k => k = b ∨ k = db) w w5 := by
      rw [hw5]
      exact ((((((e0.toX (fun k => k = b ∨ k = db ∨ k = w.heap.size + 1 ∨ k = w.heap.size + 1 + 1)).trans' e1 (fun k _ h => h.elim .inl (fun h => .inr (.inl h))))).setCell (p := ⟨w.heap.size + 1 + 1, 0, none⟩) (by simp) _).setCell (p := ⟨w.heap.size + 1, 0, none⟩) (by simp) _).setCell (p := ⟨w.heap.size + 1, 1, none⟩) (by simp) _).setCell (p := ⟨w.heap.size + 1, 2, none⟩) (by simp) _ |>.mono (fun k hk h => by omega)
    have M5 : ExtX (fun k => k = w.heap.size + 1 ∨ k = w.heap.size + 1 + 1) w1 w5 := by
      rw [hw5]
      exact (((((ExtX.refl _ w1).setCell (p := ⟨w.heap.size + 1 + 1, 0, none⟩) (by simp) _).setCell (p := ⟨w.heap.size + 1, 0, none⟩) (by simp) _).setCell (p := ⟨w.heap.size + 1, 1, none⟩) (by simp) _).setCell (p := ⟨w.heap.size + 1, 2, none⟩) (by simp) _)
    have D5 : ¬ (db1 = w.heap.size + 1 ∨ db1 = w.heap.size + 1 + 1) := by omega
    have h5 := h1.extX M5 (by omega) D5
    change bodyPost _ _ _ _ _ (set3 (w1.setCell ⟨w.heap.size + 1 + 1, 0, none⟩ (.bool false)) (w.heap.size + 1) (.bool false) (.int .i64 0) (.slice none 0 0))
    rw [← hw5] at KR5 ⊢
    have c0 := KR5.cell (o := 0) rfl
    have c1 := KR5.cell (o := 1) rfl
    have c2 := KR5.cell (o := 2) rfl
    refine bodyPost_ret (by simp [results, Try.results12, go_sem, c0, c1, c2]; try rfl) rfl ?_
    exact ⟨.slice none 0 0, db1, rfl, ⟨none, 0, rfl, Nat.le_refl _, by decide, fun _ => rfl, fun i y hy => by simp at hy⟩, .inl ⟨rfl, ds1, beg1, h5⟩, hdb1.imp id (fun h => by omega), E5⟩
  | cons x q =>
    have KO3 := (KO.setCell 0 (.bool true)).ext ((Ext.refl _).alloc (.cells #[.int .i64 x] 3))
    have KR3 := (KR.setCell_ne (p := ⟨w.heap.size + 1 + 1, 0, none⟩) (by simp) (.bool true)).ext ((Ext.refl _).alloc (.cells #[.int .i64 x] 3))
    have KV3 := (Blk.new (w1.setCell ⟨w.heap.size + 1 + 1, 0, none⟩ (.bool true)) 3 [.int .i64 x])
    have KV3' : Blk ((w1.setCell ⟨w.heap.size + 1 + 1, 0, none⟩ (.bool true)).alloc (.cells #[.int .i64 x] 3)) w1.heap.size 3 [.int .i64 x] := by simpa using KV3
    have E3 : ExtX (fun k => k = b ∨ k = db ∨ k = w.heap.size + 1 ∨ k = w.heap.size + 1 + 1) w ((w1.setCell ⟨w.heap.size + 1 + 1, 0, none⟩ (.bool true)).alloc (.cells #[.int .i64 x] 3)) := by
      refine ExtX.alloc ?_ _
      exact (((e0.toX _).trans' e1 (fun k _ h => h.elim .inl (fun h => .inr (.inl h))))).setCell (p := ⟨w.heap.size + 1 + 1, 0, none⟩) (by simp) _
    have c0' := KR3.cell (o := 0) rfl
    have c1' := KR3.cell (o := 1) rfl
    have c2' := KR3.cell (o := 2) rfl
    have d0' := KO3.cell (o := 0) rfl
    have d1' := KO3.cell (o := 1) rfl
    have d2' := KO3.cell (o := 2) rfl
    have f0' := KR3.frozen 0
    have f1' := KR3.frozen 1
    have f2' := KR3.frozen 2
    have g2' := KO3.frozen 2
    go_wp2
    clear c0 c1 c2 d0 d1 d2 f0 f1 f2 g0 g1 g2
    clear c0' c1' c2' d0' d1' d2' f0' f1' f2' g2'
    obtain ⟨w5, hw5⟩ : ∃ u : World, u = set3 ((((w1.setCell ⟨w.heap.size + 1 + 1, 0, none⟩ (.bool true)).alloc (.cells #[.int .i64 x] 3)).setCell ⟨w.heap.size + 1 + 1, 2, none⟩ (.slice (some ⟨w1.heap.size, 0, none⟩) 1 1))) (w.heap.size + 1) (.bool true) (.int .i64 0) (.slice (some ⟨w1.heap.size, 0, none⟩) 1 1) := ⟨_, rfl⟩
    have KR5 := (KR3.setCell_ne (p := ⟨w.heap.size + 1 + 1, 2, none⟩) (by simp) (.slice (some ⟨w1.heap.size, 0, none⟩) 1 1)).set3 (.bool true) (.int .i64 0) (.slice (some ⟨w1.heap.size, 0, none⟩) 1 1)
    have E5 : ExtX (fun k => k = b ∨ k = db) w w5 := by
      rw [hw5]
      exact (((E3.setCell (p := ⟨w.heap.size + 1 + 1, 2, none⟩) (by simp) _).setCell (p := ⟨w.heap.size + 1, 0, none⟩) (by simp) _).setCell (p := ⟨w.heap.size + 1, 1, none⟩) (by simp) _).setCell (p := ⟨w.heap.size + 1, 2, none⟩) (by simp) _ |>.mono (fun k hk h => by omega)
    have M5 : ExtX (fun k => k = w.heap.size + 1 ∨ k = w.heap.size + 1 + 1) w1 w5 := by
      rw [hw5]
      exact (((((ExtX.refl _ w1).setCell (p := ⟨w.heap.size + 1 + 1, 0, none⟩) (by simp) _ |>.alloc _ |>.setCell (p := ⟨w.heap.size + 1 + 1, 2, none⟩) (by simp) _).setCell (p := ⟨w.heap.size + 1, 0, none⟩) (by simp) _).setCell (p := ⟨w.heap.size + 1, 1, none⟩) (by simp) _).setCell (p := ⟨w.heap.size + 1, 2, none⟩) (by simp) _)
    have D5 : ¬ (db1 = w.heap.size + 1 ∨ db1 = w.heap.size + 1 + 1) := by omega
    have h5 := h1.extX M5 (by omega) D5
    have V5 : w5.cell? ⟨w1.heap.size, 0, none⟩ = some (.int .i64 x) := by
      rw [hw5]
      have s5 := KO.lt
      exact ((((KV3'.setCell_ne (p := ⟨w.heap.size + 1 + 1, 2, none⟩) (show w.heap.size + 1 + 1 ≠ _ by omega) (.slice (some ⟨w1.heap.size, 0, none⟩) 1 1)).setCell_ne (p := ⟨w.heap.size + 1, 0, none⟩) (show w.heap.size + 1 ≠ _ by omega) (.bool true)).setCell_ne (p := ⟨w.heap.size + 1, 1, none⟩) (show w.heap.size + 1 ≠ _ by omega) (.int .i64 0)).setCell_ne (p := ⟨w.heap.size + 1, 2, none⟩) (show w.heap.size + 1 ≠ _ by omega) (.slice (some ⟨w1.heap.size, 0, none⟩) 1 1)).cell (o := 0) rfl
    change bodyPost _ _ _ _ _ (set3 ((((w1.setCell ⟨w.heap.size + 1 + 1, 0, none⟩ (.bool true)).alloc (.cells #[.int .i64 x] 3)).setCell ⟨w.heap.size + 1 + 1, 2, none⟩ (.slice (some ⟨w1.heap.size, 0, none⟩) 1 1))) (w.heap.size + 1) (.bool true) (.int .i64 0) (.slice (some ⟨w1.heap.size, 0, none⟩) 1 1))
    rw [← hw5] at KR5 ⊢
    have c0 := KR5.cell (o := 0) rfl
    have c1 := KR5.cell (o := 1) rfl
    have c2 := KR5.cell (o := 2) rfl
    refine bodyPost_ret (by simp [results, Try.results12, go_sem, c0, c1, c2]; try rfl) rfl ?_
    exact ⟨.slice (some ⟨w1.heap.size, 0, none⟩) 1 1, db1, rfl, slice_one (show w.heap.size ≤ w1.heap.size ∧ w1.heap.size ≠ db1 by have := h1.2.1.lt; omega) V5, .inl ⟨rfl, ds1, beg1, h5⟩, hdb1.imp id (fun h => by omega), E5⟩

set_option maxHeartbeats 1000000 in
theorem rungReadR (b db : Nat) (m : Nat) (hm : m ≤ 1000000) (q : List Int) (vs : Value) (hvs : vs.cells.size = 1) (ds : List Int) (beg : Nat) (w : World) (h : RingI w b 63 [.int .i64 m] db ds beg q) :
    Calls Try.prog 12 #[.iface 47 (.pointer (some ⟨b, 0, none⟩)), .agg #[.int .i64 2, vs]] w (ReadAns w (.iface 47 (.pointer (some ⟨b, 0, none⟩))) b db q) := by
  go_enter Try.func12, Try.ntmps12
  go_wp2_with fail
  obtain ⟨W, hW⟩ : ∃ u : World, u = ((w.alloc (.cells #[.int .i64 2, vs] 26)).alloc (.cells #[.bool false, .int .i64 0, .slice none 0 0] 31)).alloc (.cells #[.bool false, .int .i64 0, .slice none 0 0] 31) := ⟨_, rfl⟩
  have e0 : Ext w W := by rw [hW]; exact (((Ext.refl w).alloc _).alloc _).alloc _
  have KR : Blk W (w.heap.size + 1) 31 [.bool false, .int .i64 0, .slice none 0 0] := by
    rw [hW]
    have := (Blk.new (w.alloc (.cells #[.int .i64 2, vs] 26)) 31 [.bool false, .int .i64 0, .slice none 0 0]).ext ((Ext.refl _).alloc (.cells #[.bool false, .int .i64 0, .slice none 0 0] 31))
    simpa using this
  have KO : Blk W (w.heap.size + 1 + 1) 31 [.bool false, .int .i64 0, .slice none 0 0] := by
    rw [hW]
    have := (Blk.new ((w.alloc (.cells #[.int .i64 2, vs] 26)).alloc (.cells #[.bool false, .int .i64 0, .slice none 0 0] 31)) 31 [.bool false, .int .i64 0, .slice none 0 0])
    simpa using this
  have sW : W.heap.size = w.heap.size + 1 + 1 + 1 := by rw [hW]; simp
  rw [← hW]
  clear hW
  have hbl : b < w.heap.size := h.1.lt
  have hdl : db < w.heap.size := h.2.1.lt
  have h := h.extX (e0.toX (fun _ => False)) (fun h => h) (fun h => h)
  refine (ringRead b m hm db ds beg q _ h).mono ?_
  rintro e w1 ⟨rfl, db1, ds1, beg1, h1, hdb1, e1⟩
  have KR := KR.extX e1 (by omega)
  have KO := KO.extX e1 (by omega)
  have s0 := e0.size
  have s1 := e1.size
  have c0 := KR.cell (o := 0) rfl
  have c1 := KR.cell (o := 1) rfl
  have c2 := KR.cell (o := 2) rfl
  have d0 := KO.cell (o := 0) rfl
  have d1 := KO.cell (o := 1) rfl
  have d2 := KO.cell (o := 2) rfl
  have f0 := KR.frozen 0
  have f1 := KR.frozen 1
  have f2 := KR.frozen 2
  have g0 := KO.frozen 0
  have g1 := KO.frozen 1
  have g2 := KO.frozen 2
  cases q with
  | nil =>
    go_wp2
    clear c0 c1 c2 d0 d1 d2 f0 f1 f2 g0 g1 g2
    skip
    obtain ⟨w5, hw5⟩ : ∃ u : World, u = set3 (w1.setCell ⟨w.heap.size + 1 + 1, 0, none⟩ (.bool false)) (w.heap.size + 1) (.bool false) (.int .i64 0) (.slice none 0 0) := ⟨_, rfl⟩
    have KR5 := (KR.setCell_ne (p := ⟨w.heap.size + 1 + 1, 0, none⟩) (by simp) (.bool false)).set3 (.bool false) (.int .i64 0) (.slice none 0 0)
    have E5 : ExtX (fun k => k = b ∨ k = db) w w5 := by
      rw [hw5]
      exact ((((((e0.toX (fun k => k = b ∨ k = db ∨ k = w.heap.size + 1 ∨ k = w.heap.size + 1 + 1)).trans' e1 (fun k _ h => h.elim .inl (fun h => .inr (.inl h))))).setCell (p := ⟨w.heap.size + 1 + 1, 0, none⟩) (by simp) _).setCell (p := ⟨w.heap.size + 1, 0, none⟩) (by simp) _).setCell (p := ⟨w.heap.size + 1, 1, none⟩) (by simp) _).setCell (p := ⟨w.heap.size + 1, 2, none⟩) (by simp) _ |>.mono (fun k hk h => by omega)
    have M5 : ExtX (fun k => k = w.heap.size + 1 ∨ k = w.heap.size + 1 + 1) w1 w5 := by
      rw [hw5]
      exact (((((ExtX.refl _ w1).setCell (p := ⟨w.heap.size + 1 + 1, 0, none⟩) (by simp) _).setCell (p := ⟨w.heap.size + 1, 0, none⟩) (by simp) _).setCell (p := ⟨w.heap.size + 1, 1, none⟩) (by simp) _).setCell (p := ⟨w.heap.size + 1, 2, none⟩) (by simp) _)
    have D5 : ¬ (db1 = w.heap.size + 1 ∨ db1 = w.heap.size + 1 + 1) := by omega
    have h5 := h1.extX M5 (by omega) D5
    change bodyPost _ _ _ _ _ (set3 (w1.setCell ⟨w.heap.size + 1 + 1, 0, none⟩ (.bool false)) (w.heap.size + 1) (.bool false) (.int .i64 0) (.slice none 0 0))
    rw [← hw5] at KR5 ⊢
    have c0 := KR5.cell (o := 0) rfl
    have c1 := KR5.cell (o := 1) rfl
    have c2 := KR5.cell (o := 2) rfl
    refine bodyPost_ret (by simp [results, Try.results12, go_sem, c0, c1, c2]; try rfl) rfl ?_
    exact ⟨.slice none 0 0, db1, rfl, ⟨none, 0, rfl, Nat.le_refl _, by decide, fun _ => rfl, fun i y hy => by simp at hy⟩, .inr ⟨rfl, m, hm, ds1, beg1, h5⟩, hdb1.imp id (fun h => by omega), E5⟩
  | cons x q =>
    have KO3 := (KO.setCell 0 (.bool true)).ext ((Ext.refl _).alloc (.cells #[.int .i64 x] 3))
    have KR3 := (KR.setCell_ne (p := ⟨w.heap.size + 1 + 1, 0, none⟩) (by simp) (.bool true)).ext ((Ext.refl _).alloc (.cells #[.int .i64 x] 3))
    have KV3 := (Blk.new (w1.setCell ⟨w.heap.size + 1 + 1, 0, none⟩ (.bool true)) 3 [.int .i64 x])
    have KV3' : Blk ((w1.setCell ⟨w.heap.size + 1 + 1, 0, none⟩ (.bool true)).alloc (.cells #[.int .i64 x] 3)) w1.heap.size 3 [.int .i64 x] := by simpa using KV3
    have E3 : ExtX (fun k => k = b ∨ k = db ∨ k = w.heap.size + 1 ∨ k = w.heap.size + 1 + 1) w ((w1.setCell ⟨w.heap.size + 1 + 1, 0, none⟩ (.bool true)).alloc (.cells #[.int .i64 x] 3)) := by
      refine ExtX.alloc ?_ _
      exact (((e0.toX _).trans' e1 (fun k _ h => h.elim .inl (fun h => .inr (.inl h))))).setCell (p := ⟨w.heap.size + 1 + 1, 0, none⟩) (by simp) _
    have c0' := KR3.cell (o := 0) rfl
    have c1' := KR3.cell (o := 1) rfl
    have c2' := KR3.cell (o := 2) rfl
    have d0' := KO3.cell (o := 0) rfl
    have d1' := KO3.cell (o := 1) rfl
    have d2' := KO3.cell (o := 2) rfl
    have f0' := KR3.frozen 0
    have f1' := KR3.frozen 1
    have f2' := KR3.frozen 2
    have g2' := KO3.frozen 2
    go_wp2
    clear c0 c1 c2 d0 d1 d2 f0 f1 f2 g0 g1 g2
    clear c0' c1' c2' d0' d1' d2' f0' f1' f2' g2'
    obtain ⟨w5, hw5⟩ : ∃ u : World, u = set3 ((((w1.setCell ⟨w.heap.size + 1 + 1, 0, none⟩ (.bool true)).alloc (.cells #[.int .i64 x] 3)).setCell ⟨w.heap.size + 1 + 1, 2, none⟩ (.slice (some ⟨w1.heap.size, 0, none⟩) 1 1))) (w.heap.size + 1) (.bool true) (.int .i64 0) (.slice (some ⟨w1.heap.size, 0, none⟩) 1 1) := ⟨_, rfl⟩
    have KR5 := (KR3.setCell_ne (p := ⟨w.heap.size + 1 + 1, 2, none⟩) (by simp) (.slice (some ⟨w1.heap.size, 0, none⟩) 1 1)).set3 (.bool true) (.int .i64 0) (.slice (some ⟨w1.heap.size, 0, none⟩) 1 1)
    have E5 : ExtX (fun k => k = b ∨ k = db) w w5 := by
      rw [hw5]
      exact (((E3.setCell (p := ⟨w.heap.size + 1 + 1, 2, none⟩) (by simp) _).setCell (p := ⟨w.heap.size + 1, 0, none⟩) (by simp) _).setCell (p := ⟨w.heap.size + 1, 1, none⟩) (by simp) _).setCell (p := ⟨w.heap.size + 1, 2, none⟩) (by simp) _ |>.mono (fun k hk h => by omega)
    have M5 : ExtX (fun k => k = w.heap.size + 1 ∨ k = w.heap.size + 1 + 1) w1 w5 := by
      rw [hw5]
      exact (((((ExtX.refl _ w1).setCell (p := ⟨w.heap.size + 1 + 1, 0, none⟩) (by simp) _ |>.alloc _ |>.setCell (p := ⟨w.heap.size + 1 + 1, 2, none⟩) (by simp) _).setCell (p := ⟨w.heap.size + 1, 0, none⟩) (by simp) _).setCell (p := ⟨w.heap.size + 1, 1, none⟩) (by simp) _).setCell (p := ⟨w.heap.size + 1, 2, none⟩) (by simp) _)
    have D5 : ¬ (db1 = w.heap.size + 1 ∨ db1 = w.heap.size + 1 + 1) := by omega
    have h5 := h1.extX M5 (by omega) D5
    have V5 : w5.cell? ⟨w1.heap.size, 0, none⟩ = some (.int .i64 x) := by
      rw [hw5]
      have s5 := KO.lt
      exact ((((KV3'.setCell_ne (p := ⟨w.heap.size + 1 + 1, 2, none⟩) (show w.heap.size + 1 + 1 ≠ _ by omega) (.slice (some ⟨w1.heap.size, 0, none⟩) 1 1)).setCell_ne (p := ⟨w.heap.size + 1, 0, none⟩) (show w.heap.size + 1 ≠ _ by omega) (.bool true)).setCell_ne (p := ⟨w.heap.size + 1, 1, none⟩) (show w.heap.size + 1 ≠ _ by omega) (.int .i64 0)).setCell_ne (p := ⟨w.heap.size + 1, 2, none⟩) (show w.heap.size + 1 ≠ _ by omega) (.slice (some ⟨w1.heap.size, 0, none⟩) 1 1)).cell (o := 0) rfl
    change bodyPost _ _ _ _ _ (set3 ((((w1.setCell ⟨w.heap.size + 1 + 1, 0, none⟩ (.bool true)).alloc (.cells #[.int .i64 x] 3)).setCell ⟨w.heap.size + 1 + 1, 2, none⟩ (.slice (some ⟨w1.heap.size, 0, none⟩) 1 1))) (w.heap.size + 1) (.bool true) (.int .i64 0) (.slice (some ⟨w1.heap.size, 0, none⟩) 1 1))
    rw [← hw5] at KR5 ⊢
    have c0 := KR5.cell (o := 0) rfl
    have c1 := KR5.cell (o := 1) rfl
    have c2 := KR5.cell (o := 2) rfl
    refine bodyPost_ret (by simp [results, Try.results12, go_sem, c0, c1, c2]; try rfl) rfl ?_
    exact ⟨.slice (some ⟨w1.heap.size, 0, none⟩) 1 1, db1, rfl, slice_one (show w.heap.size ≤ w1.heap.size ∧ w1.heap.size ≠ db1 by have := h1.2.1.lt; omega) V5, .inr ⟨rfl, m, hm, ds1, beg1, h5⟩, hdb1.imp id (fun h => by omega), E5⟩
theorem rungRead (r : Value) (b db : Nat) (q : List Int) (vs : Value) (hvs : vs.cells.size = 1) (w : World) (h : RingV w r b db q) :
    Calls Try.prog 12 #[r, .agg #[.int .i64 2, vs]] w (ReadAns w r b db q) := by
  rcases h with ⟨rfl, ds, beg, h⟩ | ⟨rfl, m, hm, ds, beg, h⟩
  · exact rungReadG b db q vs hvs ds beg w h
  · exact rungReadR b db m hm q vs hvs ds beg w h

/-- what a write leaves -/
def WriteAns (w : World) (r : Value) (b db : Nat) (q : List Int) (e : Ending) (w' : World) : Prop :=
  e = .returned (.agg #[.bool true, .int .i64 0, .slice none 0 0]) ∧ ∃ db', RingV w' r b db' q ∧ (db' = db ∨ w.heap.size ≤ db') ∧ ExtX (fun k => k = b ∨ k = db) w w'

noncomputable def ops_12_7 : Array Oper := opsAt Try.f12 7

set_option maxHeartbeats 1000000 in
theorem rungWriteG (b db : Nat) (q : List Int) (x : Int) (hq : q.length ≤ 1000000) (vb vo : Nat) (w : World) (hv : w.cell? ⟨vb, vo, none⟩ = some (.int .i64 x)) (hvb : vb ≠ b) (hvd : vb ≠ db) (ds : List Int) (beg : Nat) (h : RingI w b 61 [] db ds beg q) :
    Calls Try.prog 12 #[.iface 41 (.pointer (some ⟨b, 0, none⟩)), .agg #[.int .i64 1, .slice (some ⟨vb, vo, none⟩) 1 1]] w (WriteAns w (.iface 41 (.pointer (some ⟨b, 0, none⟩))) b db (q ++ [x])) := by
  go_enter Try.func12, Try.ntmps12
  go_wp2_with fail
  refine wp_loop_rounds 2 ?_
  rw [rounds_succ]
  go_wp2_with fail
  obtain ⟨W, hW⟩ : ∃ u : World, u = ((w.alloc (.cells #[.int .i64 1, .slice (some ⟨vb, vo, none⟩) 1 1] 26)).alloc (.cells #[.bool false, .int .i64 0, .slice none 0 0] 31)).alloc (.cells #[.bool false, .int .i64 0, .slice none 0 0] 31) := ⟨_, rfl⟩
  have e0 : Ext w W := by rw [hW]; exact (((Ext.refl w).alloc _).alloc _).alloc _
  have KI : Blk W w.heap.size 26 [.int .i64 1, .slice (some ⟨vb, vo, none⟩) 1 1] := by
    rw [hW]; exact ((Blk.new w 26 _).ext (((Ext.refl _).alloc _).alloc _))
  have KR : Blk W (w.heap.size + 1) 31 [.bool false, .int .i64 0, .slice none 0 0] := by
    rw [hW]
    have := (Blk.new (w.alloc (.cells #[.int .i64 1, .slice (some ⟨vb, vo, none⟩) 1 1] 26)) 31 [.bool false, .int .i64 0, .slice none 0 0]).ext ((Ext.refl _).alloc (.cells #[.bool false, .int .i64 0, .slice none 0 0] 31))
    simpa using this
  have KO : Blk W (w.heap.size + 1 + 1) 31 [.bool false, .int .i64 0, .slice none 0 0] := by
    rw [hW]
    have := (Blk.new ((w.alloc (.cells #[.int .i64 1, .slice (some ⟨vb, vo, none⟩) 1 1] 26)).alloc (.cells #[.bool false, .int .i64 0, .slice none 0 0] 31)) 31 [.bool false, .int .i64 0, .slice none 0 0])
    simpa using this
  have sW : W.heap.size = w.heap.size + 1 + 1 + 1 := by rw [hW]; simp
  rw [← hW]
  clear hW
  have hbl : b < w.heap.size := h.1.lt
  have hdl : db < w.heap.size := h.2.1.lt
  have h := h.extX (e0.toX (fun _ => False)) (fun h => h) (fun h => h)
  have hv := e0.cellS hv
  have i0 := KI.cell (o := 0) rfl
  have i1 := KI.cell (o := 1) rfl
  have hna : ∀ w : World, (nilAhead 183 41 (.pointer (some ⟨b, 0, none⟩)) "WriteOne").run Try.prog w = .ok (some false) w := fun _ => by kernel_rfl
  have hme : ∀ w : World, (method 183 41 (.pointer (some ⟨b, 0, none⟩)) "WriteOne").run Try.prog w = .ok (38, .pointer (some ⟨b, 0, none⟩)) w := fun _ => by kernel_rfl
  refine wp_region_sched (ops := ops_12_7) (ExtX (fun k => k = b ∨ k = db)) [] (.quiet 0 (.quiet 1 (.quiet 2 (.quiet 3 (.quiet 4 (.quiet 5 (.quiet 6 (.quiet 7 (.quiet 8 (.loud 9 (.done) (.stop))))))))))) (by kernel_rfl) (ExtX.refl (fun k => k = b ∨ k = db)) (fun _ _ _ => ExtX.trans) (by kernel_rfl) (fun _ _ d _ _ h => by cases d <;> exact h) ?_
  refine wpS_quiet (some 21) { dst := some 21, op := Op.move (Operand.tmp 0), type := _, pos := _, after := _, guard := none } _ rfl rfl (by rfl) (fun wE hE => by (go_simp; try with_reducible rfl)) ?_; simp only [Act.put, List.setIfInBounds_toArray, List.set_cons_zero, List.set_cons_succ]
  refine wpS_quiet (some 22) { dst := some 22, op := Op.fieldAddr 26 (Operand.tmp 3) 1, type := _, pos := _, after := _, guard := none } _ rfl rfl (by rfl) (fun wE hE => by (go_simp; try with_reducible rfl)) ?_; simp only [Act.put, List.setIfInBounds_toArray, List.set_cons_zero, List.set_cons_succ]
  refine wpS_quiet (some 23) { dst := some 23, op := Op.load 22 (Operand.tmp 22), type := _, pos := _, after := _, guard := none } _ rfl rfl (by rfl) (fun wE hE => by (have k0 := hE.cellS (by show ¬ (_ = b ∨ _ = db); simp only []; omega) i0; have k1 := hE.cellS (by show ¬ (_ = b ∨ _ = db); simp only []; omega) i1; have k2 := hE.cellS (by show ¬ (_ = b ∨ _ = db); simp only []; omega) hv; go_simp; try with_reducible rfl)) ?_; simp only [Act.put, List.setIfInBounds_toArray, List.set_cons_zero, List.set_cons_succ]
  refine wpS_quiet (some 24) { dst := some 24, op := Op.move (Operand.tmp 6), type := _, pos := _, after := _, guard := none } _ rfl rfl (by rfl) (fun wE hE => by (go_simp; try with_reducible rfl)) ?_; simp only [Act.put, List.setIfInBounds_toArray, List.set_cons_zero, List.set_cons_succ]
  refine wpS_quiet (some 25) { dst := some 25, op := Op.indexAddr 22 (Operand.tmp 23) (Operand.tmp 24), type := _, pos := _, after := _, guard := none } _ rfl rfl (by rfl) (fun wE hE => by (go_simp; try with_reducible rfl)) ?_; simp only [Act.put, List.setIfInBounds_toArray, List.set_cons_zero, List.set_cons_succ]
  refine wpS_quiet (some 26) { dst := some 26, op := Op.load 3 (Operand.tmp 25), type := _, pos := _, after := _, guard := none } _ rfl rfl (by rfl) (fun wE hE => by (have k0 := hE.cellS (by show ¬ (_ = b ∨ _ = db); simp only []; omega) i0; have k1 := hE.cellS (by show ¬ (_ = b ∨ _ = db); simp only []; omega) i1; have k2 := hE.cellS (by show ¬ (_ = b ∨ _ = db); simp only []; omega) hv; go_simp; try with_reducible rfl)) ?_; simp only [Act.put, List.setIfInBounds_toArray, List.set_cons_zero, List.set_cons_succ]
  refine wpS_quiet (some 27) { dst := some 27, op := Op.makeFunc (Fn.method "WriteOne") #[Operand.tmp 21] #[], type := _, pos := _, after := _, guard := none } _ rfl rfl (by rfl) (fun wE hE => by (go_simp; try with_reducible rfl)) ?_; simp only [Act.put, List.setIfInBounds_toArray, List.set_cons_zero, List.set_cons_succ]
  refine wpS_quiet (some 28) { dst := some 28, op := Op.nilCheck (Operand.tmp 27), type := _, pos := _, after := _, guard := none } _ rfl rfl (by rfl) (fun wE hE => by (go_simp; try with_reducible rfl)) ?_; simp only [Act.put, List.setIfInBounds_toArray, List.set_cons_zero, List.set_cons_succ]
  refine wpS_quiet (some 29) { dst := some 29, op := Op.move (Operand.tmp 21), type := _, pos := _, after := _, guard := none } _ rfl rfl (by rfl) (fun wE hE => by (go_simp; try with_reducible rfl)) ?_; simp only [Act.put, List.setIfInBounds_toArray, List.set_cons_zero, List.set_cons_succ]
  refine wpS_call (some 30) { dst := some 30, op := Op.call { callee := Callee.invoke (Operand.tmp 29) "WriteOne", args := #[Operand.tmp 26], argTypes := #[3] }, type := _, pos := _, after := _, guard := none } _ _ rfl rfl (by rfl) (by go_simp; try first | with_reducible rfl | exact ⟨rfl, rfl⟩) ?_
  refine (writeOne b _ _ db ds beg x q hq W.drew h).mono ?_; rintro e w1 ⟨rfl, db1, ds1, beg1, h1, hdb1, e1⟩; refine ⟨_, rfl, e1, ?_⟩; simp only [Act.put, List.setIfInBounds_toArray, List.set_cons_zero, List.set_cons_succ]
  change Exit.inBlock _ _ _ _ _
  clear hna hme
  have KI := KI.extX e1 (by omega)
  have KR := KR.extX e1 (by omega)
  have KO := KO.extX e1 (by omega)
  have s1 : W.heap.size ≤ w1.heap.size := e1.size
  have i1 := KI.cell (o := 1) rfl
  go_wp2_with fail
  rw [rounds_succ]
  have c0 := KR.cell (o := 0) rfl
  have c1 := KR.cell (o := 1) rfl
  have c2 := KR.cell (o := 2) rfl
  have d0 := KO.cell (o := 0) rfl
  have d1 := KO.cell (o := 1) rfl
  have d2 := KO.cell (o := 2) rfl
  have f0 := KR.frozen 0
  have f1 := KR.frozen 1
  have f2 := KR.frozen 2
  have g0 := KO.frozen 0
  go_wp2
  clear c0 c1 c2 d0 d1 d2 f0 f1 f2 g0
  obtain ⟨w5, hw5⟩ : ∃ u : World, u = set3 (w1.setCell ⟨w.heap.size + 1 + 1, 0, none⟩ (.bool true)) (w.heap.size + 1) (.bool true) (.int .i64 0) (.slice none 0 0) := ⟨_, rfl⟩
  have KR5 := (KR.setCell_ne (p := ⟨w.heap.size + 1 + 1, 0, none⟩) (by simp) (.bool true)).set3 (.bool true) (.int .i64 0) (.slice none 0 0)
  have M5 : ExtX (fun k => k = w.heap.size + 1 ∨ k = w.heap.size + 1 + 1) w1 w5 := by
    rw [hw5]
    exact (((((ExtX.refl _ w1).setCell (p := ⟨w.heap.size + 1 + 1, 0, none⟩) (by simp) _).setCell (p := ⟨w.heap.size + 1, 0, none⟩) (by simp) _).setCell (p := ⟨w.heap.size + 1, 1, none⟩) (by simp) _).setCell (p := ⟨w.heap.size + 1, 2, none⟩) (by simp) _)
  have E5 : ExtX (fun k => k = b ∨ k = db) w w5 :=
    (((e0.toX (fun k => k = b ∨ k = db ∨ k = w.heap.size + 1 ∨ k = w.heap.size + 1 + 1)).trans' e1.undrew (fun k _ h => h.elim .inl (fun h => .inr (.inl h)))).trans' M5 (fun k _ h => .inr (.inr h))).mono (fun k hk h => by omega)
  have hdb2 : db1 = db ∨ W.heap.size ≤ db1 := hdb1
  have D5 : ¬ (db1 = w.heap.size + 1 ∨ db1 = w.heap.size + 1 + 1) := by omega
  have h5 := h1.extX M5 (by omega) D5
  change bodyPost _ _ _ _ _ (set3 (w1.setCell ⟨w.heap.size + 1 + 1, 0, none⟩ (.bool true)) (w.heap.size + 1) (.bool true) (.int .i64 0) (.slice none 0 0))
  rw [← hw5] at KR5 ⊢
  have c0 := KR5.cell (o := 0) rfl
  have c1 := KR5.cell (o := 1) rfl
  have c2 := KR5.cell (o := 2) rfl
  refine bodyPost_ret (by simp [results, Try.results12, go_sem, c0, c1, c2]; try rfl) rfl ?_
  exact ⟨rfl, db1, .inl ⟨rfl, ds1, beg1, h5⟩, hdb2.imp id (fun h => by omega), E5⟩

set_option maxHeartbeats 1000000 in
theorem rungWriteR (b db : Nat) (q : List Int) (x : Int) (m : Nat) (hm : m ≤ 1000000) (hq : q.length ≤ 1000000) (vb vo : Nat) (w : World) (hv : w.cell? ⟨vb, vo, none⟩ = some (.int .i64 x)) (hvb : vb ≠ b) (hvd : vb ≠ db) (ds : List Int) (beg : Nat) (h : RingI w b 63 [.int .i64 m] db ds beg q) :
    Calls Try.prog 12 #[.iface 47 (.pointer (some ⟨b, 0, none⟩)), .agg #[.int .i64 1, .slice (some ⟨vb, vo, none⟩) 1 1]] w (WriteAns w (.iface 47 (.pointer (some ⟨b, 0, none⟩))) b db (q ++ [x])) := by
  go_enter Try.func12, Try.ntmps12
  go_wp2_with fail
  refine wp_loop_rounds 2 ?_
  rw [rounds_succ]
  go_wp2_with fail
  obtain ⟨W, hW⟩ : ∃ u : World, u = ((w.alloc (.cells #[.int .i64 1, .slice (some ⟨vb, vo, none⟩) 1 1] 26)).alloc (.cells #[.bool false, .int .i64 0, .slice none 0 0] 31)).alloc (.cells #[.bool false, .int .i64 0, .slice none 0 0] 31) := ⟨_, rfl⟩
  have e0 : Ext w W := by rw [hW]; exact (((Ext.refl w).alloc _).alloc _).alloc _
  have KI : Blk W w.heap.size 26 [.int .i64 1, .slice (some ⟨vb, vo, none⟩) 1 1] := by
    rw [hW]; exact ((Blk.new w 26 _).ext (((Ext.refl _).alloc _).alloc _))
  have KR : Blk W (w.heap.size + 1) 31 [.bool false, .int .i64 0, .slice none 0 0] := by
    rw [hW]
    have := (Blk.new (w.alloc (.cells #[.int .i64 1, .slice (some ⟨vb, vo, none⟩) 1 1] 26)) 31 [.bool false, .int .i64 0, .slice none 0 0]).ext ((Ext.refl _).alloc (.cells #[.bool false, .int .i64 0, .slice none 0 0] 31))
    simpa using this
  have KO : Blk W (w.heap.size + 1 + 1) 31 [.bool false, .int .i64 0, .slice none 0 0] := by
    rw [hW]
    have := (Blk.new ((w.alloc (.cells #[.int .i64 1, .slice (some ⟨vb, vo, none⟩) 1 1] 26)).alloc (.cells #[.bool false, .int .i64 0, .slice none 0 0] 31)) 31 [.bool false, .int .i64 0, .slice none 0 0])
    simpa using this
  have sW : W.heap.size = w.heap.size + 1 + 1 + 1 := by rw [hW]; simp
  rw [← hW]
  clear hW
  have hbl : b < w.heap.size := h.1.lt
  have hdl : db < w.heap.size := h.2.1.lt
  have h := h.extX (e0.toX (fun _ => False)) (fun h => h) (fun h => h)
  have hv := e0.cellS hv
  have i0 := KI.cell (o := 0) rfl
  have i1 := KI.cell (o := 1) rfl
  have hna : ∀ w : World, (nilAhead 183 47 (.pointer (some ⟨b, 0, none⟩)) "WriteOne").run Try.prog w = .ok (some false) w := fun _ => by kernel_rfl
  have hme : ∀ w : World, (method 183 47 (.pointer (some ⟨b, 0, none⟩)) "WriteOne").run Try.prog w = .ok (42, .pointer (some ⟨b, 0, none⟩)) w := fun _ => by kernel_rfl
  refine wp_region_sched (ops := ops_12_7) (ExtX (fun k => k = b ∨ k = db)) [] (.quiet 0 (.quiet 1 (.quiet 2 (.quiet 3 (.quiet 4 (.quiet 5 (.quiet 6 (.quiet 7 (.quiet 8 (.loud 9 (.done) (.stop))))))))))) (by kernel_rfl) (ExtX.refl (fun k => k = b ∨ k = db)) (fun _ _ _ => ExtX.trans) (by kernel_rfl) (fun _ _ d _ _ h => by cases d <;> exact h) ?_
  refine wpS_quiet (some 21) { dst := some 21, op := Op.move (Operand.tmp 0), type := _, pos := _, after := _, guard := none } _ rfl rfl (by rfl) (fun wE hE => by (go_simp; try with_reducible rfl)) ?_; simp only [Act.put, List.setIfInBounds_toArray, List.set_cons_zero, List.set_cons_succ]
  refine wpS_quiet (some 22) { dst := some 22, op := Op.fieldAddr 26 (Operand.tmp 3) 1, type := _, pos := _, after := _, guard := none } _ rfl rfl (by rfl) (fun wE hE => by (go_simp; try with_reducible rfl)) ?_; simp only [Act.put, List.setIfInBounds_toArray, List.set_cons_zero, List.set_cons_succ]
  refine wpS_quiet (some 23) { dst := some 23, op := Op.load 22 (Operand.tmp 22), type := _, pos := _, after := _, guard := none } _ rfl rfl (by rfl) (fun wE hE => by (have k0 := hE.cellS (by show ¬ (_ = b ∨ _ = db); simp only []; omega) i0; have k1 := hE.cellS (by show ¬ (_ = b ∨ _ = db); simp only []; omega) i1; have k2 := hE.cellS (by show ¬ (_ = b ∨ _ = db); simp only []; omega) hv; go_simp; try with_reducible rfl)) ?_; simp only [Act.put, List.setIfInBounds_toArray, List.set_cons_zero, List.set_cons_succ]
  refine wpS_quiet (some 24) { dst := some 24, op := Op.move (Operand.tmp 6), type := _, pos := _, after := _, guard := none } _ rfl rfl (by rfl) (fun wE hE => by (go_simp; try with_reducible rfl)) ?_; simp only [Act.put, List.setIfInBounds_toArray, List.set_cons_zero, List.set_cons_succ]
  refine wpS_quiet (some 25) { dst := some 25, op := Op.indexAddr 22 (Operand.tmp 23) (Operand.tmp 24), type := _, pos := _, after := _, guard := none } _ rfl rfl (by rfl) (fun wE hE => by (go_simp; try with_reducible rfl)) ?_; simp only [Act.put, List.setIfInBounds_toArray, List.set_cons_zero, List.set_cons_succ]
  refine wpS_quiet (some 26) { dst := some 26, op := Op.load 3 (Operand.tmp 25), type := _, pos := _, after := _, guard := none } _ rfl rfl (by rfl) (fun wE hE => by (have k0 := hE.cellS (by show ¬ (_ = b ∨ _ = db); simp only []; omega) i0; have k1 := hE.cellS (by show ¬ (_ = b ∨ _ = db); simp only []; omega) i1; have k2 := hE.cellS (by show ¬ (_ = b ∨ _ = db); simp only []; omega) hv; go_simp; try with_reducible rfl)) ?_; simp only [Act.put, List.setIfInBounds_toArray, List.set_cons_zero, List.set_cons_succ]
  refine wpS_quiet (some 27) { dst := some 27, op := Op.makeFunc (Fn.method "WriteOne") #[Operand.tmp 21] #[], type := _, pos := _, after := _, guard := none } _ rfl rfl (by rfl) (fun wE hE => by (go_simp; try with_reducible rfl)) ?_; simp only [Act.put, List.setIfInBounds_toArray, List.set_cons_zero, List.set_cons_succ]
  refine wpS_quiet (some 28) { dst := some 28, op := Op.nilCheck (Operand.tmp 27), type := _, pos := _, after := _, guard := none } _ rfl rfl (by rfl) (fun wE hE => by (go_simp; try with_reducible rfl)) ?_; simp only [Act.put, List.setIfInBounds_toArray, List.set_cons_zero, List.set_cons_succ]
  refine wpS_quiet (some 29) { dst := some 29, op := Op.move (Operand.tmp 21), type := _, pos := _, after := _, guard := none } _ rfl rfl (by rfl) (fun wE hE => by (go_simp; try with_reducible rfl)) ?_; simp only [Act.put, List.setIfInBounds_toArray, List.set_cons_zero, List.set_cons_succ]
  refine wpS_call (some 30) { dst := some 30, op := Op.call { callee := Callee.invoke (Operand.tmp 29) "WriteOne", args := #[Operand.tmp 26], argTypes := #[3] }, type := _, pos := _, after := _, guard := none } _ _ rfl rfl (by rfl) (by go_simp; try first | with_reducible rfl | exact ⟨rfl, rfl⟩) ?_
  refine (ringWrite b _ db ds beg x q hq W.drew h).mono ?_; rintro e w1 ⟨rfl, db1, ds1, beg1, h1, hdb1, e1⟩; refine ⟨_, rfl, e1, ?_⟩; simp only [Act.put, List.setIfInBounds_toArray, List.set_cons_zero, List.set_cons_succ]
  change Exit.inBlock _ _ _ _ _
  clear hna hme
  have KI := KI.extX e1 (by omega)
  have KR := KR.extX e1 (by omega)
  have KO := KO.extX e1 (by omega)
  have s1 : W.heap.size ≤ w1.heap.size := e1.size
  have i1 := KI.cell (o := 1) rfl
  go_wp2_with fail
  rw [rounds_succ]
  have c0 := KR.cell (o := 0) rfl
  have c1 := KR.cell (o := 1) rfl
  have c2 := KR.cell (o := 2) rfl
  have d0 := KO.cell (o := 0) rfl
  have d1 := KO.cell (o := 1) rfl
  have d2 := KO.cell (o := 2) rfl
  have f0 := KR.frozen 0
  have f1 := KR.frozen 1
  have f2 := KR.frozen 2
  have g0 := KO.frozen 0
  go_wp2
  clear c0 c1 c2 d0 d1 d2 f0 f1 f2 g0
  obtain ⟨w5, hw5⟩ : ∃ u : World, u = set3 (w1.setCell ⟨w.heap.size + 1 + 1, 0, none⟩ (.bool true)) (w.heap.size + 1) (.bool true) (.int .i64 0) (.slice none 0 0) := ⟨_, rfl⟩
  have KR5 := (KR.setCell_ne (p := ⟨w.heap.size + 1 + 1, 0, none⟩) (by simp) (.bool true)).set3 (.bool true) (.int .i64 0) (.slice none 0 0)
  have M5 : ExtX (fun k => k = w.heap.size + 1 ∨ k = w.heap.size + 1 + 1) w1 w5 := by
    rw [hw5]
    exact (((((ExtX.refl _ w1).setCell (p := ⟨w.heap.size + 1 + 1, 0, none⟩) (by simp) _).setCell (p := ⟨w.heap.size + 1, 0, none⟩) (by simp) _).setCell (p := ⟨w.heap.size + 1, 1, none⟩) (by simp) _).setCell (p := ⟨w.heap.size + 1, 2, none⟩) (by simp) _)
  have E5 : ExtX (fun k => k = b ∨ k = db) w w5 :=
    (((e0.toX (fun k => k = b ∨ k = db ∨ k = w.heap.size + 1 ∨ k = w.heap.size + 1 + 1)).trans' e1.undrew (fun k _ h => h.elim .inl (fun h => .inr (.inl h)))).trans' M5 (fun k _ h => .inr (.inr h))).mono (fun k hk h => by omega)
  have hdb2 : db1 = db ∨ W.heap.size ≤ db1 := hdb1
  have D5 : ¬ (db1 = w.heap.size + 1 ∨ db1 = w.heap.size + 1 + 1) := by omega
  have h5 := h1.extX M5 (by omega) D5
  change bodyPost _ _ _ _ _ (set3 (w1.setCell ⟨w.heap.size + 1 + 1, 0, none⟩ (.bool true)) (w.heap.size + 1) (.bool true) (.int .i64 0) (.slice none 0 0))
  rw [← hw5] at KR5 ⊢
  have c0 := KR5.cell (o := 0) rfl
  have c1 := KR5.cell (o := 1) rfl
  have c2 := KR5.cell (o := 2) rfl
  refine bodyPost_ret (by simp [results, Try.results12, go_sem, c0, c1, c2]; try rfl) rfl ?_
  exact ⟨rfl, db1, .inr ⟨rfl, m, hm, ds1, beg1, h5⟩, hdb2.imp id (fun h => by omega), E5⟩

theorem rungWrite (r : Value) (b db : Nat) (q : List Int) (x : Int) (hq : q.length ≤ 1000000) (vb vo : Nat) (w : World) (hv : w.cell? ⟨vb, vo, none⟩ = some (.int .i64 x)) (hvb : vb ≠ b) (hvd : vb ≠ db) (h : RingV w r b db q) :
    Calls Try.prog 12 #[r, .agg #[.int .i64 1, .slice (some ⟨vb, vo, none⟩) 1 1]] w (WriteAns w r b db (q ++ [x])) := by
  rcases h with ⟨rfl, ds, beg, h⟩ | ⟨rfl, m, hm, ds, beg, h⟩
  · exact rungWriteG b db q x hq vb vo w hv hvb hvd ds beg h
  · exact rungWriteR b db q x m hm hq vb vo w hv hvb hvd ds beg h
end Go.Proofs.Ytgebafnbkglmaaa
