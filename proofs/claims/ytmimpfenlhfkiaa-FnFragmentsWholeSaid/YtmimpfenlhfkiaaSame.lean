/-
  Responses and events compared (frBare, frSame, slices.Equal).
-/
import Derived.Test.YtmimpfenlhfkiaaAdds
namespace Go.Proofs.Ytmimpfenlhfkiaa
open Go.RowKit
set_option linter.unusedSimpArgs false
set_option linter.unusedVariables false

noncomputable def ops_12_6 : Array Oper := opsAt Try.f12 6
set_option maxHeartbeats 1000000 in
set_option maxRecDepth 20000 in
theorem evsSame (xs : List EvD) (A B : Option Addr) (n m a b : Nat) (w : World) (hn : xs.length = n) (hnm : n = m) (hb : n ≤ 9223372036854775807) (h1 : (Rp.slice Rp.evx).K w any xs [.slice A n a]) (h2 : (Rp.slice Rp.evx).K w any xs [.slice B m b]) :
    Calls Try.prog 12 #[.slice A n a, .slice B m b] w fun e w' => e = .returned (.bool true) ∧ Ext w w' := by
  subst hnm
  subst hn
  obtain ⟨A', a', hv, p1, p2, p3, hrow⟩ := h1
  simp only [List.cons.injEq, Value.slice.injEq, and_true] at hv
  obtain ⟨rfl, _, rfl⟩ := hv
  obtain ⟨B', b', hv, q1, q2, q3, hrow2⟩ := h2
  simp only [List.cons.injEq, Value.slice.injEq, and_true] at hv
  obtain ⟨rfl, _, rfl⟩ := hv
  have HR1 := Lib.hid hrow
  have HR2 := Lib.hid hrow2
  clear hrow hrow2
  go_enter Try.func12, Try.ntmps12
  go_wp2_with fail
  go_loopw [13] (fun i wr => ∃ k : Nat, i = .int .i64 k ∧ k ≤ xs.length ∧ Ext w wr) (fun i _ => xs.length - (intOf i).toNat)
  case atStart => exact ⟨0, rfl, Nat.zero_le _, Ext.refl _⟩
  case round =>
    obtain ⟨k, rfl, hk, hE⟩ := hrel
    by_cases hlt : k < xs.length
    · obtain ⟨y, hy⟩ : ∃ y, xs[k]? = some y := ⟨_, List.getElem?_eq_getElem hlt⟩
      obtain ⟨ba, o, rfl, _⟩ := HR1.out.addr (List.ne_nil_of_length_pos (by omega))
      obtain ⟨bb, o', rfl, _⟩ := HR2.out.addr (List.ne_nil_of_length_pos (by omega))
      obtain ⟨g0, g1, g2, g3, g4, g5, g6, g7, g8, g9, g10, g11, g12, g13⟩ := evx_at HR1.out hy hE
      obtain ⟨k0, k1, k2, k3, k4, k5, k6, k7, k8, k9, k10, k11, k12, k13⟩ := evx_at HR2.out hy hE
      have i0 : (0 : Int) ≤ (k : Int) := by omega
      have i1 : (k : Int) < (xs.length : Int) := by omega
      clear hy
      go_wp2_with fail
      refine wp_region_sched (ops := ops_12_6) Ext [] (.quiet 0 (.quiet 1 (.quiet 2 (.quiet 3 (.quiet 4 (.quiet 5 (.quiet 6 (.quiet 7 (.quiet 8 (.done)))))))))) (by kernel_rfl) ext_refl ext_trans (by kernel_rfl) (fun _ _ d _ _ h => by cases d <;> exact h) ?_
      refine wpS_quiet (some 16) { dst := some 16, op := Op.move (Operand.tmp 0), type := _, pos := _, after := _, guard := none } _ rfl rfl (by rfl) (fun wE hE => by (go_simp; try with_reducible rfl)) ?_; simp only [Act.put, List.setIfInBounds_toArray, List.set_cons_zero, List.set_cons_succ]
      refine wpS_quiet (some 17) { dst := some 17, op := Op.move (Operand.tmp 5), type := _, pos := _, after := _, guard := none } _ rfl rfl (by rfl) (fun wE hE => by (go_simp; try with_reducible rfl)) ?_; simp only [Act.put, List.setIfInBounds_toArray, List.set_cons_zero, List.set_cons_succ]
      refine wpS_quiet (some 18) { dst := some 18, op := Op.indexAddr 22 (Operand.tmp 16) (Operand.tmp 17), type := _, pos := _, after := _, guard := none } _ rfl rfl (by rfl) (fun wE hE => by (go_simp; try with_reducible rfl)) ?_; simp only [Act.put, List.setIfInBounds_toArray, List.set_cons_zero, List.set_cons_succ]
      refine wpS_quiet (some 19) { dst := some 19, op := Op.load 37 (Operand.tmp 18), type := _, pos := _, after := _, guard := none } _ rfl rfl (by rfl) (fun wE hE => by (have zk0 := hE.cellS g0; have zk1 := hE.cellS g1; have zk2 := hE.cellS g2; have zk3 := hE.cellS g3; have zk4 := hE.cellS g4; have zk5 := hE.cellS g5; have zk6 := hE.cellS g6; have zk7 := hE.cellS g7; have zk8 := hE.cellS g8; have zk9 := hE.cellS g9; have zk10 := hE.cellS g10; have zk11 := hE.cellS g11; have zk12 := hE.cellS g12; have zk13 := hE.cellS g13; have zk14 := hE.cellS k0; have zk15 := hE.cellS k1; have zk16 := hE.cellS k2; have zk17 := hE.cellS k3; have zk18 := hE.cellS k4; have zk19 := hE.cellS k5; have zk20 := hE.cellS k6; have zk21 := hE.cellS k7; have zk22 := hE.cellS k8; have zk23 := hE.cellS k9; have zk24 := hE.cellS k10; have zk25 := hE.cellS k11; have zk26 := hE.cellS k12; have zk27 := hE.cellS k13; go_simp; try with_reducible rfl)) ?_; simp only [Act.put, List.setIfInBounds_toArray, List.set_cons_zero, List.set_cons_succ]
      refine wpS_quiet (some 20) { dst := some 20, op := Op.move (Operand.tmp 1), type := _, pos := _, after := _, guard := none } _ rfl rfl (by rfl) (fun wE hE => by (go_simp; try with_reducible rfl)) ?_; simp only [Act.put, List.setIfInBounds_toArray, List.set_cons_zero, List.set_cons_succ]
      refine wpS_quiet (some 21) { dst := some 21, op := Op.move (Operand.tmp 5), type := _, pos := _, after := _, guard := none } _ rfl rfl (by rfl) (fun wE hE => by (go_simp; try with_reducible rfl)) ?_; simp only [Act.put, List.setIfInBounds_toArray, List.set_cons_zero, List.set_cons_succ]
      refine wpS_quiet (some 22) { dst := some 22, op := Op.indexAddr 22 (Operand.tmp 20) (Operand.tmp 21), type := _, pos := _, after := _, guard := none } _ rfl rfl (by rfl) (fun wE hE => by (go_simp; try with_reducible rfl)) ?_; simp only [Act.put, List.setIfInBounds_toArray, List.set_cons_zero, List.set_cons_succ]
      refine wpS_quiet (some 23) { dst := some 23, op := Op.load 37 (Operand.tmp 22), type := _, pos := _, after := _, guard := none } _ rfl rfl (by rfl) (fun wE hE => by (have zk0 := hE.cellS g0; have zk1 := hE.cellS g1; have zk2 := hE.cellS g2; have zk3 := hE.cellS g3; have zk4 := hE.cellS g4; have zk5 := hE.cellS g5; have zk6 := hE.cellS g6; have zk7 := hE.cellS g7; have zk8 := hE.cellS g8; have zk9 := hE.cellS g9; have zk10 := hE.cellS g10; have zk11 := hE.cellS g11; have zk12 := hE.cellS g12; have zk13 := hE.cellS g13; have zk14 := hE.cellS k0; have zk15 := hE.cellS k1; have zk16 := hE.cellS k2; have zk17 := hE.cellS k3; have zk18 := hE.cellS k4; have zk19 := hE.cellS k5; have zk20 := hE.cellS k6; have zk21 := hE.cellS k7; have zk22 := hE.cellS k8; have zk23 := hE.cellS k9; have zk24 := hE.cellS k10; have zk25 := hE.cellS k11; have zk26 := hE.cellS k12; have zk27 := hE.cellS k13; go_simp; try with_reducible rfl)) ?_; simp only [Act.put, List.setIfInBounds_toArray, List.set_cons_zero, List.set_cons_succ]
      refine wpS_quiet (some 24) { dst := some 24, op := Op.binOp BinOp.neq 37 (Operand.tmp 19) (Operand.tmp 23) 37, type := _, pos := _, after := _, guard := none } _ rfl rfl (by rfl) (fun wE hE => by (go_simp; try with_reducible rfl)) ?_; simp only [Act.put, List.setIfInBounds_toArray, List.set_cons_zero, List.set_cons_succ]
      change Exit.then _ _ _ _ _
      go_wp2
      go_roundw
      case rel => exact ⟨k + 1, by go_num, by omega, hE.drew⟩
      case measure => simp [intOf]; omega
    · go_wp2
      go_ret
      exact ⟨rfl, hE⟩

theorem bare_any (x : RespD) (A : Option Addr) (n cap : Nat) (w : World) :
    Calls Try.prog 11 #[.agg (sentN x A n cap).toArray] w fun e w' => e = .returned (.agg (sentN { x with fragment := false } none 0 0).toArray) ∧ Ext w w' := by
  go_enter Try.func11, Try.ntmps11
  go_wp2
  refine bodyPost_ret (by simp [results, Try.results11, go_sem]; try rfl) rfl ⟨rfl, ?_⟩
  exact ((Ext.refl w).alloc _).alloc _

theorem nil_evx (w : World) : (Rp.slice Rp.evx).K w any [] [.slice none 0 0] := ⟨none, 0, rfl, Nat.le_refl _, by decide, fun _ => rfl, fun i y hy => by simp at hy⟩
set_option maxHeartbeats 1000000 in
set_option maxRecDepth 20000 in
theorem same_any (x : RespD) (w : World) :
    Calls Try.prog 10 #[.agg (sentN x none 0 0).toArray, .agg (sentN x none 0 0).toArray] w fun e w' => e = .returned (.bool true) ∧ Ext w w' := by
  go_enter Try.func10, Try.ntmps10
  go_wp2_with fail
  refine (evsSame [] none none 0 0 0 0 _ rfl rfl (by omega) (nil_evx _) (nil_evx _)).mono ?_
  rintro e w1 ⟨rfl, E1⟩
  go_wp2
  go_ret
  exact ⟨rfl, (((Ext.refl w).alloc _).alloc _).trans E1⟩

/-- what a fragment says of itself -/
theorem FragsOf.flag {x : RespD} {m : Nat} {rs : List RespD} (h : FragsOf x m rs) (hx : x.fragment = false) {k : Nat} {r : RespD} (hr : rs[k]? = some r) : ∃ f, r = part x (decide (k + 1 < rs.length)) f := by
  rcases h with ⟨_, rfl⟩ | ⟨_, _, fs, l, _, _, rfl⟩
  · have hk : k = 0 := by have := (List.getElem?_eq_some_iff.1 hr).1; simp at this; exact this
    subst hk
    have : x = r := by simpa using hr
    subst this
    exact ⟨x.events, by obtain ⟨a, b, c, d, e, f, g, h⟩ := x; simp only at hx; subst hx; rfl⟩
  · have hlen : (fs.map (part x true) ++ [part x false l]).length = fs.length + 1 := by simp
    rw [hlen]
    by_cases hk : k < fs.length
    · rw [List.getElem?_append_left (by simpa using hk), List.getElem?_map] at hr
      obtain ⟨f, _, rfl⟩ := Option.map_eq_some_iff.1 hr
      exact ⟨f, by rw [decide_eq_true (by omega)]⟩
    · have hk2 : k = fs.length := by have := (List.getElem?_eq_some_iff.1 hr).1; simp at this; omega
      subst hk2
      rw [List.getElem?_append_right (by simp)] at hr
      have : part x false l = r := by simpa using hr
      exact ⟨l, by rw [← this, decide_eq_false (by omega)]⟩
theorem FragsOf.all {x : RespD} {m : Nat} {rs : List RespD} (h : FragsOf x m rs) : rs.flatMap (·.events) = x.events ∧ 0 < rs.length ∧ (x.events.length < 2 ∨ x.size < m → rs.length = 1) := by
  rcases h with ⟨_, rfl⟩ | ⟨h1, h2, fs, l, hf, _, rfl⟩
  · exact ⟨by simp, by simp, fun _ => by simp⟩
  · refine ⟨?_, by simp, fun h => by omega⟩
    rw [List.flatMap_append]
    simp only [List.flatMap_cons, List.flatMap_nil, List.append_nil]
    rw [← hf]
    congr 1
    rw [List.flatMap_map]
    show fs.flatMap (fun f => f) = _
    simp [List.flatMap]
end Go.Proofs.Ytmimpfenlhfkiaa
