/-
  FnRingQueue: walked, and its row closed.
-/
import Derived.Test.YtgebafnbkglmaaaRingS
namespace Go.Proofs.Ytgebafnbkglmaaa
open Go.RowKit
set_option linter.unusedSimpArgs false
set_option linter.unusedVariables false

theorem infoOp : (Try.prog.info? 26).map (fun i => (i.zero, i.size, i.bytes)) = some (some (.agg #[.int .i64 0, .slice none 0 0]), 2, 32) := by kernel_rfl

theorem ext_app {w W w2 : World} {v : Value} (e : Ext w W) (g : W.grownBy w2 v.ownBlock) (h : ∀ k, v.ownBlock = some k → w.heap.size ≤ k) : Ext w w2 :=
  ((e.toX (fun j => some j = v.ownBlock)).grown g (fun j hj => hj.symm)).toExt (fun j hj => h j hj.symm)
theorem op_at {w wx : World} {ok : Nat → Prop} {A : Option Addr} {ops : List ROp} (h : kOp.row w ok A ops) {b o : Nat} (hA : A = some ⟨b, o, none⟩) {k : Nat} (hk : k < ops.length) (he : Ext w wx) :
    ∃ X n c, wx.cell? ⟨b, o + k * 2, none⟩ = some (.int .i64 (if ops[k].isSome then 1 else 2)) ∧ wx.cell? ⟨b, o + k * 2 + 1, none⟩ = some (.slice X n c) := by
  obtain ⟨cs, hl, hK, hc⟩ := h.at hA (List.getElem?_eq_getElem hk)
  have c0 := he.cellS (v := cs[0]'(by rw [hl]; decide)) (by rw [hc 0 (by decide)]; exact List.getElem?_eq_getElem _)
  have c1 := he.cellS (v := cs[1]'(by rw [hl]; decide)) (by rw [hc 1 (by decide)]; exact List.getElem?_eq_getElem _)
  generalize ops[k] = op at *
  cases op with
  | none =>
    have hcs : cs = [Value.int .i64 2, Value.slice none 0 0] := hK
    subst hcs
    exact ⟨none, 0, 0, c0, by rw [Nat.add_assoc]; exact c1⟩
  | some x =>
    obtain ⟨g, c, rfl, _⟩ := hK
    exact ⟨_, _, _, c0, by rw [Nat.add_assoc]; exact c1⟩
theorem writes_snoc (ops : List ROp) (x : Int) : writes (ops ++ [some x]) = writes ops ++ [x] := by simp [writes]
theorem writes_read (ops : List ROp) : writes (ops ++ [none]) = writes ops := by simp [writes]

theorem reads_le (ops : List ROp) : (reads [] ops).length ≤ ops.length := by
  have h := congrArg List.length (reads_state [] ops)
  have h2 : (writes ops).length ≤ ops.length := List.length_filterMap_le _ _
  simp only [List.length_append, List.nil_append] at h
  omega







set_option maxHeartbeats 8000000 in
set_option maxRecDepth 20000 in
theorem walk_FnRingQueue (sh : Bool) (n m : Int) (v1 v2 : Value) (vals rs : List Int) (w : World) (h1 : (Rp.slice Rp.num).K w any vals [v1]) (h2 : (Rp.slice Rp.num).K w any rs [v2]) :
    Calls Try.prog 3 #[.bool sh, .int .i64 n, .int .i64 m, v1, v2] w fun e w' => e = .returned (.bool true) ∧ Ext w w' := by
  obtain ⟨i0, hi, hz0, hz1, hz2⟩ := info_parts infoOp
  have H1 := Lib.hid h1
  obtain ⟨A1, k1, hv1, p1, q1, r1, hrow1⟩ := h1
  obtain ⟨A2, k2, hv2, p2, q2, r2, hrow2⟩ := h2
  simp only [List.cons.injEq, and_true] at hv1 hv2
  subst hv1 hv2
  have HROW1 := Lib.hid hrow1
  have HROW2 := Lib.hid hrow2
  clear hrow1 hrow2
  by_cases hb1 : (2147483647 : Int) < (vals.length : Int)
  · go_enter Try.func3, Try.ntmps3
    go_wp2
    go_ret
    exact ⟨rfl, Ext.refl _⟩
  by_cases hb2 : (2147483647 : Int) < (rs.length : Int)
  · go_enter Try.func3, Try.ntmps3
    go_wp2
    go_ret
    exact ⟨rfl, Ext.refl _⟩
  by_cases a1 : n < 0
  · go_enter Try.func3, Try.ntmps3
    go_wp2_with (go_at_call 4; refine (live_any _).mono ?_; rintro e w1 ⟨rfl, e1⟩)
    go_ret
    exact ⟨rfl, e1⟩
  by_cases a2 : 200 < n
  · go_enter Try.func3, Try.ntmps3
    go_wp2_with (go_at_call 4; refine (live_any _).mono ?_; rintro e w1 ⟨rfl, e1⟩)
    go_ret
    exact ⟨rfl, e1⟩
  by_cases a3 : m < 0
  · go_enter Try.func3, Try.ntmps3
    go_wp2_with (go_at_call 4; refine (live_any _).mono ?_; rintro e w1 ⟨rfl, e1⟩)
    go_ret
    exact ⟨rfl, e1⟩
  by_cases a4 : 200 < m
  · go_enter Try.func3, Try.ntmps3
    go_wp2_with (go_at_call 4; refine (live_any _).mono ?_; rintro e w1 ⟨rfl, e1⟩)
    go_ret
    exact ⟨rfl, e1⟩
  by_cases a5 : (600 : Int) < (vals.length : Int)
  · go_enter Try.func3, Try.ntmps3
    go_wp2_with (go_at_call 4; refine (live_any _).mono ?_; rintro e w1 ⟨rfl, e1⟩)
    go_ret
    exact ⟨rfl, e1⟩
  by_cases a6 : (vals.length : Int) < (rs.length : Int)
  · go_enter Try.func3, Try.ntmps3
    go_wp2_with (go_at_call 4; refine (live_any _).mono ?_; rintro e w1 ⟨rfl, e1⟩)
    go_ret
    exact ⟨rfl, e1⟩
  obtain ⟨n, rfl⟩ : ∃ k : Nat, n = k := ⟨n.toNat, by omega⟩
  obtain ⟨m, rfl⟩ : ∃ k : Nat, m = k := ⟨m.toNat, by omega⟩
  cases sh with
  | false =>
    go_enter Try.func3, Try.ntmps3
    go_wp2_with fail
    go_loopw [12, 58] (fun out i wr => ∃ (k : Nat) (ops : List ROp), k ≤ vals.length ∧ i = .int .i64 k ∧ Ext w wr ∧ OwnP kOp wr (fun j => w.heap.size ≤ j) w.heap.size 26 out ops ∧ Hid (writes ops = vals.take k) ∧ ops.length ≤ 6 * k) (fun _ i _ => vals.length - (intOf i).toNat)
    case atStart => exact ⟨0, [], Nat.zero_le _, rfl, Ext.refl _, OwnP.nil _ _ _ _ _, Lib.hid rfl, Nat.le_refl _⟩
    case round =>
      obtain ⟨k, ops, hk, rfl, he, hown, hwr, hol⟩ := hrel
      by_cases hlt : k < vals.length
      · obtain ⟨b1, o1, rfl, _⟩ := HROW1.out.addr (by intro h; simp [h] at hlt)
        have c1 := num_at HROW1.out rfl hlt he
        have HT : Hid (vals.take (k + 1) = vals.take k ++ [vals[k]]) := Lib.hid (List.take_succ_eq_append_getElem hlt)
        generalize vals[k] = x at *
        have e2 : Ext w ((wr.alloc (.cells #[.int .i64 x] 3)).alloc (.cells #[.int .i64 1, .slice (some ⟨wr.heap.size, 0, none⟩) 1 1] 26)) := (he.alloc _).alloc _
        have z0 : w.heap.size ≤ wr.heap.size := he.size
        have own2 : OwnP kOp ((wr.alloc (.cells #[.int .i64 x] 3)).alloc (.cells [.int .i64 1, .slice (some ⟨wr.heap.size, 0, none⟩) 1 1].toArray 26)) (fun j => w.heap.size ≤ j) w.heap.size 26 u12 ops := hown.ext (((Ext.refl wr).alloc _).alloc _)
        have hK : ∀ i y, [(some x : ROp)][i]? = some y → kOp.K ((wr.alloc (.cells #[.int .i64 x] 3)).alloc (.cells [.int .i64 1, .slice (some ⟨wr.heap.size, 0, none⟩) 1 1].toArray 26)) (fun j => w.heap.size ≤ j ∧ some j ≠ u12.ownBlock) y (([Value.int .i64 1, Value.slice (some ⟨wr.heap.size, 0, none⟩) 1 1].drop (i * kOp.sz)).take kOp.sz) := by
          refine one_elem (p := fun i y => kOp.K ((wr.alloc (.cells #[.int .i64 x] 3)).alloc (.cells [.int .i64 1, .slice (some ⟨wr.heap.size, 0, none⟩) 1 1].toArray 26)) (fun j => w.heap.size ≤ j ∧ some j ≠ u12.ownBlock) y (([Value.int .i64 1, Value.slice (some ⟨wr.heap.size, 0, none⟩) 1 1].drop (i * kOp.sz)).take kOp.sz)) ?_
          exact ⟨wr.heap.size, 0, rfl, ⟨z0, hown.notOwn (.inl (Nat.le_refl _))⟩, ((Blk.new wr 3 [.int .i64 x]).ext ((Ext.refl _).alloc _)).cell rfl⟩
        have h63 : ops.length + [(some x : ROp)].length ≤ maxLen := by simp [maxLen]; omega
        have hby : (ops.length + [(some x : ROp)].length) * 32 ≤ 140737488355328 := by simp; omega
        have hbs := e2.size
        have hnews := lit_cells (wr.alloc (.cells #[.int .i64 x] 3)) 26 [.int .i64 1, .slice (some ⟨wr.heap.size, 0, none⟩) 1 1]
        rw [World.size_alloc] at hnews
        have HKK := Lib.hid hK
        have HNW := Lib.hid hnews
        clear hK hnews
        have HW2 : Hid (writes (ops ++ [some x]) = vals.take (k + 1)) := Lib.hid (by rw [writes_snoc, hwr.out, HT.out])
        have hol2 : (ops ++ [some x]).length ≤ 6 * k + 1 := by simp; omega
        by_cases hr : k < rs.length
        · obtain ⟨b2, o2, rfl, _⟩ := HROW2.out.addr (by intro h; simp [h] at hr)
          have CR : Hid (∀ w2, Ext w w2 → w2.cell? ⟨b2, o2 + k, none⟩ = some (.int .i64 rs[k])) := Lib.hid (fun w2 h => num_at HROW2.out rfl hr h)
          generalize rs[k] = r at *
          by_cases r0 : r < 0
          ·
            go_wp2_with (at_builtin; refine wpList_app (d := kOp) (base := w.heap.size) rfl (.tmp 63) (.tmp 67) 24 rfl 26 i0 _ 32 Try.underlying24 hi hz0 hz1 hz2 rfl (v := u12) rfl own2 (fun j hj => by omega) ⟨wr.heap.size + 1, 0, none⟩ 1 _ [(some x : ROp)] rfl rfl HNW.out HKK.out h63 hby hbs ?_; intro v2 w2 own3 g2 f2; have E2 := ext_app e2 g2 (fun k hk => (hown.own k hk).1); have c2 := CR.out w2 E2)
            go_loopw [12, 79] (fun out i wr => ∃ (j : Nat) (ops : List ROp), j ≤ 0 ∧ i = .int .i64 j ∧ Ext w wr ∧ OwnP kOp wr (fun j => w.heap.size ≤ j) w.heap.size 26 out ops ∧ Hid (writes ops = vals.take (k + 1)) ∧ ops.length ≤ 6 * k + 1 + j) (fun _ i _ => 0 - (intOf i).toNat)
            case atStart => exact ⟨0, ops ++ [some x], Nat.zero_le _, rfl, E2, own3, HW2, by omega⟩
            case round =>
              clear own2 HKK HNW h63 hby hbs own3 g2 f2 E2
              clear hown he hwr hol c1
              obtain ⟨j, ops, hj, rfl, he, hown, hwr, hol⟩ := hrel
              by_cases hjc : j < 0
              ·
                exact absurd hjc (Nat.not_lt_zero _)
              · go_wp2
                go_roundw
                case rel => exact ⟨k + 1, ops, by omega, by go_num, he, hown, hwr, by omega⟩
                case measure => (first | (simp [intOf]; done) | (simp [intOf]; omega))
          obtain ⟨c, rfl⟩ : ∃ c : Nat, r = c := ⟨r.toNat, by omega⟩
          by_cases r5 : 5 < c
          ·
            go_wp2_with (at_builtin; refine wpList_app (d := kOp) (base := w.heap.size) rfl (.tmp 63) (.tmp 67) 24 rfl 26 i0 _ 32 Try.underlying24 hi hz0 hz1 hz2 rfl (v := u12) rfl own2 (fun j hj => by omega) ⟨wr.heap.size + 1, 0, none⟩ 1 _ [(some x : ROp)] rfl rfl HNW.out HKK.out h63 hby hbs ?_; intro v2 w2 own3 g2 f2; have E2 := ext_app e2 g2 (fun k hk => (hown.own k hk).1); have c2 := CR.out w2 E2)
            go_loopw [12, 79] (fun out i wr => ∃ (j : Nat) (ops : List ROp), j ≤ 5 ∧ i = .int .i64 j ∧ Ext w wr ∧ OwnP kOp wr (fun j => w.heap.size ≤ j) w.heap.size 26 out ops ∧ Hid (writes ops = vals.take (k + 1)) ∧ ops.length ≤ 6 * k + 1 + j) (fun _ i _ => 5 - (intOf i).toNat)
            case atStart => exact ⟨0, ops ++ [some x], Nat.zero_le _, rfl, E2, own3, HW2, by omega⟩
            case round =>
              clear own2 HKK HNW h63 hby hbs own3 g2 f2 E2
              clear hown he hwr hol c1
              obtain ⟨j, ops, hj, rfl, he, hown, hwr, hol⟩ := hrel
              by_cases hjc : j < 5
              ·
                have z0 : w.heap.size ≤ wr.heap.size := he.size
                have own2 : OwnP kOp (wr.alloc (.cells [.int .i64 2, .slice none 0 0].toArray 26)) (fun j => w.heap.size ≤ j) w.heap.size 26 u12 ops := hown.ext (((Ext.refl wr).alloc _))
                have hK : ∀ i y, [(none : ROp)][i]? = some y → kOp.K (wr.alloc (.cells [.int .i64 2, .slice none 0 0].toArray 26)) (fun j => w.heap.size ≤ j ∧ some j ≠ u12.ownBlock) y (([Value.int .i64 2, Value.slice none 0 0].drop (i * kOp.sz)).take kOp.sz) := by
                  refine one_elem (p := fun i y => kOp.K (wr.alloc (.cells [.int .i64 2, .slice none 0 0].toArray 26)) (fun j => w.heap.size ≤ j ∧ some j ≠ u12.ownBlock) y (([Value.int .i64 2, Value.slice none 0 0].drop (i * kOp.sz)).take kOp.sz)) ?_
                  exact rfl
                have h63 : ops.length + [(none : ROp)].length ≤ maxLen := by simp [maxLen]; omega
                have hby : (ops.length + [(none : ROp)].length) * 32 ≤ 140737488355328 := by simp; omega
                have hbs : w.heap.size ≤ (wr.alloc (.cells [.int .i64 2, .slice none 0 0].toArray 26)).heap.size := (he.alloc _).size
                have HKK := Lib.hid hK
                clear hK
                go_wp2_with (at_builtin; refine wpList_app (d := kOp) (base := w.heap.size) rfl (.tmp 81) (.tmp 83) 24 rfl 26 i0 _ 32 Try.underlying24 hi hz0 hz1 hz2 rfl (v := u12) rfl own2 (fun j hj => by omega) ⟨wr.heap.size, 0, none⟩ 1 _ [(none : ROp)] rfl rfl (lit_cells wr _ _) HKK.out h63 hby hbs ?_; intro v2 w2 own3 g2 f2; have E2 := ext_app (he.alloc _) g2 (fun k hk => (hown.own k hk).1))
                go_roundw
                case rel => exact ⟨j + 1, ops ++ [none], by omega, by go_num, E2, own3, Lib.hid (by rw [writes_read]; exact hwr.out), by simp; omega⟩
                case measure => (first | (simp [intOf]; done) | (simp [intOf]; omega))
              · go_wp2
                go_roundw
                case rel => exact ⟨k + 1, ops, by omega, by go_num, he, hown, hwr, by omega⟩
                case measure => (first | (simp [intOf]; done) | (simp [intOf]; omega))
          go_wp2_with (at_builtin; refine wpList_app (d := kOp) (base := w.heap.size) rfl (.tmp 63) (.tmp 67) 24 rfl 26 i0 _ 32 Try.underlying24 hi hz0 hz1 hz2 rfl (v := u12) rfl own2 (fun j hj => by omega) ⟨wr.heap.size + 1, 0, none⟩ 1 _ [(some x : ROp)] rfl rfl HNW.out HKK.out h63 hby hbs ?_; intro v2 w2 own3 g2 f2; have E2 := ext_app e2 g2 (fun k hk => (hown.own k hk).1); have c2 := CR.out w2 E2)
          go_loopw [12, 79] (fun out i wr => ∃ (j : Nat) (ops : List ROp), j ≤ c ∧ i = .int .i64 j ∧ Ext w wr ∧ OwnP kOp wr (fun j => w.heap.size ≤ j) w.heap.size 26 out ops ∧ Hid (writes ops = vals.take (k + 1)) ∧ ops.length ≤ 6 * k + 1 + j) (fun _ i _ => c - (intOf i).toNat)
          case atStart => exact ⟨0, ops ++ [some x], Nat.zero_le _, rfl, E2, own3, HW2, by omega⟩
          case round =>
            clear own2 HKK HNW h63 hby hbs own3 g2 f2 E2
            clear hown he hwr hol c1
            obtain ⟨j, ops, hj, rfl, he, hown, hwr, hol⟩ := hrel
            by_cases hjc : j < c
            ·
              have z0 : w.heap.size ≤ wr.heap.size := he.size
              have own2 : OwnP kOp (wr.alloc (.cells [.int .i64 2, .slice none 0 0].toArray 26)) (fun j => w.heap.size ≤ j) w.heap.size 26 u12 ops := hown.ext (((Ext.refl wr).alloc _))
              have hK : ∀ i y, [(none : ROp)][i]? = some y → kOp.K (wr.alloc (.cells [.int .i64 2, .slice none 0 0].toArray 26)) (fun j => w.heap.size ≤ j ∧ some j ≠ u12.ownBlock) y (([Value.int .i64 2, Value.slice none 0 0].drop (i * kOp.sz)).take kOp.sz) := by
                refine one_elem (p := fun i y => kOp.K (wr.alloc (.cells [.int .i64 2, .slice none 0 0].toArray 26)) (fun j => w.heap.size ≤ j ∧ some j ≠ u12.ownBlock) y (([Value.int .i64 2, Value.slice none 0 0].drop (i * kOp.sz)).take kOp.sz)) ?_
                exact rfl
              have h63 : ops.length + [(none : ROp)].length ≤ maxLen := by simp [maxLen]; omega
              have hby : (ops.length + [(none : ROp)].length) * 32 ≤ 140737488355328 := by simp; omega
              have hbs : w.heap.size ≤ (wr.alloc (.cells [.int .i64 2, .slice none 0 0].toArray 26)).heap.size := (he.alloc _).size
              have HKK := Lib.hid hK
              clear hK
              go_wp2_with (at_builtin; refine wpList_app (d := kOp) (base := w.heap.size) rfl (.tmp 81) (.tmp 83) 24 rfl 26 i0 _ 32 Try.underlying24 hi hz0 hz1 hz2 rfl (v := u12) rfl own2 (fun j hj => by omega) ⟨wr.heap.size, 0, none⟩ 1 _ [(none : ROp)] rfl rfl (lit_cells wr _ _) HKK.out h63 hby hbs ?_; intro v2 w2 own3 g2 f2; have E2 := ext_app (he.alloc _) g2 (fun k hk => (hown.own k hk).1))
              go_roundw
              case rel => exact ⟨j + 1, ops ++ [none], by omega, by go_num, E2, own3, Lib.hid (by rw [writes_read]; exact hwr.out), by simp; omega⟩
              case measure => (first | (simp [intOf]; done) | (simp [intOf]; omega))
            · go_wp2
              go_roundw
              case rel => exact ⟨k + 1, ops, by omega, by go_num, he, hown, hwr, by omega⟩
              case measure => (first | (simp [intOf]; done) | (simp [intOf]; omega))
        · go_wp2_with (at_builtin; refine wpList_app (d := kOp) (base := w.heap.size) rfl (.tmp 63) (.tmp 67) 24 rfl 26 i0 _ 32 Try.underlying24 hi hz0 hz1 hz2 rfl (v := u12) rfl own2 (fun j hj => by omega) ⟨wr.heap.size + 1, 0, none⟩ 1 _ [(some x : ROp)] rfl rfl HNW.out HKK.out h63 hby hbs ?_; intro v2 w2 own3 g2 f2; have E2 := ext_app e2 g2 (fun k hk => (hown.own k hk).1))
          go_roundw
          case rel => exact ⟨k + 1, ops ++ [some x], by omega, by go_num, E2, own3, HW2, by omega⟩
          case measure => simp [intOf]; omega
      · have hkl : vals.take k = vals := List.take_of_length_le (by omega)
        rw [hkl] at hwr
        obtain rfl : k = vals.length := by omega
        have hol6 : ops.length ≤ 3600 := by omega
        generalize ops = pre at *
        go_wp2_with fail
        go_loopw [12, 90] (fun out i wr => ∃ (j : Nat), j ≤ vals.length + 1 ∧ i = .int .i64 j ∧ Ext w wr ∧ OwnP kOp wr (fun j => w.heap.size ≤ j) w.heap.size 26 out (pre ++ List.replicate j none)) (fun _ i _ => vals.length + 1 - (intOf i).toNat)
        case atStart => exact ⟨0, Nat.zero_le _, rfl, he, by simpa using hown⟩
        case round =>
          clear hown he hol
          obtain ⟨j, hj, rfl, he, hown⟩ := hrel
          by_cases hjc : j < vals.length + 1
          · have HPR : Hid (pre ++ List.replicate (j + 1) none = pre ++ List.replicate j none ++ [(none : ROp)]) := Lib.hid (by rw [List.append_assoc, ← List.replicate_succ'])
            have hol2 : (pre ++ List.replicate j (none : ROp)).length ≤ 5000 := by simp; omega
            generalize pre ++ List.replicate j none = ops at *
            have z0 : w.heap.size ≤ wr.heap.size := he.size
            have own2 : OwnP kOp (wr.alloc (.cells [.int .i64 2, .slice none 0 0].toArray 26)) (fun j => w.heap.size ≤ j) w.heap.size 26 u12 ops := hown.ext (((Ext.refl wr).alloc _))
            have hK : ∀ i y, [(none : ROp)][i]? = some y → kOp.K (wr.alloc (.cells [.int .i64 2, .slice none 0 0].toArray 26)) (fun j => w.heap.size ≤ j ∧ some j ≠ u12.ownBlock) y (([Value.int .i64 2, Value.slice none 0 0].drop (i * kOp.sz)).take kOp.sz) := by
              refine one_elem (p := fun i y => kOp.K (wr.alloc (.cells [.int .i64 2, .slice none 0 0].toArray 26)) (fun j => w.heap.size ≤ j ∧ some j ≠ u12.ownBlock) y (([Value.int .i64 2, Value.slice none 0 0].drop (i * kOp.sz)).take kOp.sz)) ?_
              exact rfl
            have h63 : ops.length + [(none : ROp)].length ≤ maxLen := by simp [maxLen]; omega
            have hby : (ops.length + [(none : ROp)].length) * 32 ≤ 140737488355328 := by simp; omega
            have hbs : w.heap.size ≤ (wr.alloc (.cells [.int .i64 2, .slice none 0 0].toArray 26)).heap.size := (he.alloc _).size
            have HKK := Lib.hid hK
            clear hK
            go_wp2_with (at_builtin; refine wpList_app (d := kOp) (base := w.heap.size) rfl (.tmp 92) (.tmp 94) 24 rfl 26 i0 _ 32 Try.underlying24 hi hz0 hz1 hz2 rfl (v := u12) rfl own2 (fun j hj => by omega) ⟨wr.heap.size, 0, none⟩ 1 _ [(none : ROp)] rfl rfl (lit_cells wr _ _) HKK.out h63 hby hbs ?_; intro v2 w2 own3 g2 f2; have E2 := ext_app (he.alloc _) g2 (fun k hk => (hown.own k hk).1))
            go_roundw
            case rel => exact ⟨j + 1, by omega, by go_num, E2, by rw [HPR.out]; exact own3⟩
            case measure => simp [intOf]; omega
          · obtain rfl : j = vals.length + 1 := by omega
            have HQL : Hid (reads [] (pre ++ List.replicate (vals.length + 1) none) = vals) := Lib.hid (queue_law vals pre hwr.out)
            have HLA : Hid (∀ a, (answersQ [] (pre ++ List.replicate (vals.length + 1) none))[pre.length + vals.length]? = some a → a = (false, 0, [])) := Lib.hid (fun a ha => queue_last vals pre hwr.out a ha)
            have hlen : (pre ++ List.replicate (vals.length + 1) (none : ROp)).length = pre.length + vals.length + 1 := by simp; omega
            generalize pre ++ List.replicate (vals.length + 1) none = ops at *
            obtain ⟨L, hL⟩ : ∃ L, L = pre.length + vals.length := ⟨_, rfl⟩
            rw [← hL] at HLA hlen
            have hL2 : L ≤ 5000 := by omega
            clear hL hwr
            obtain ⟨A5, k5, rfl, s1, s2⟩ := hown.shape
            have HSL := Lib.hid hown.slice
            have HLN := Lib.hid hlen
            rw [hlen] at s1 ⊢
            clear hown hlen
            go_wp2_with fail
            refine (ring_any 0 n m (by decide) (by omega) (by omega) _ ops (by rw [HLN.out]; omega) _ (by rw [← HLN.out]; exact Rp.toAny _ HSL.out)).mono ?_
            rintro e w5 ⟨v5, rfl, hv5, e5⟩
            obtain ⟨A6, k6, hv6, t1, t2, t3, hans⟩ := hv5
            simp only [List.cons.injEq, and_true] at hv6
            subst hv6
            have hal : (answersQ [] ops).length = L + 1 := by rw [answersQ_length, HLN.out]
            rw [hal] at t1 ⊢
            have HANS := Lib.hid hans
            have HAL := Lib.hid hal
            clear hans hal
            go_wp2_with fail
            obtain ⟨i1, hi1, hy0, hy1, hy2⟩ := info_parts infoInt
            obtain ⟨A5', k5', hs, _, _, _, hrops⟩ := HSL.out
            simp only [List.cons.injEq, Value.slice.injEq, and_true, true_and] at hs
            obtain ⟨rfl, rfl⟩ := hs
            have HRO := Lib.hid hrops
            clear hrops
            go_loopw [17, 116] (fun out i wx => ∃ (k : Nat), k ≤ L + 1 ∧ i = .int .i64 k ∧ Ext w5 wx ∧ OwnP Rp.num wx (fun j => w5.heap.size ≤ j) w5.heap.size 3 out (reads [] (ops.take k))) (fun _ i _ => L + 1 - (intOf i).toNat)
            case atStart => exact ⟨0, Nat.zero_le _, rfl, Ext.refl _, OwnP.nil _ _ _ _ _⟩
            case round =>
              obtain ⟨k, hk, rfl, hx, hown⟩ := hrel
              by_cases hkl : k < L + 1
              · have hk1 : k < ops.length := by have := HLN.out; omega
                have hk2 : k < (answersQ [] ops).length := by have := HAL.out; omega
                obtain ⟨bo, oo, rfl, _⟩ := HRO.out.addr (by intro h; simp [h] at hk1)
                obtain ⟨ba, oa, rfl, _⟩ := HANS.out.addr (by intro h; simp [h] at hk2)
                obtain ⟨X, nX, kX, c0, c1⟩ := op_at HRO.out rfl hk1 (e5.trans hx)
                obtain ⟨v8, hv8, d0, d1, d2⟩ := ans_at HANS.out rfl hk2 hx
                have HRD : Hid (reads [] (ops.take (k + 1)) = reads [] (ops.take k) ++ readOf (stateQ [] (ops.take k)) ops[k]) := Lib.hid (by rw [List.take_succ_eq_append_getElem hk1, reads_snoc])
                have ha : (answersQ [] ops)[k] = ansQ (stateQ [] (ops.take k)) ops[k] := by
                  have := answers_get [] ops k
                  rw [List.getElem?_eq_getElem hk2, List.getElem?_eq_getElem hk1] at this
                  simpa using this
                have hrl : (reads [] (ops.take k)).length ≤ 10000 := by have := reads_le (ops.take k); have := List.length_take_le k ops; omega
                generalize (answersQ [] ops)[k] = a at *
                subst ha
                generalize ops[k] = op at *
                generalize stateQ [] (ops.take k) = q at *
                generalize reads [] (ops.take k) = rd at *
                cases op with
                | some x =>
                  have c0 : wr.cell? ⟨bo, oo + k * 2, none⟩ = some (.int .i64 1) := c0
                  go_wp2
                  go_roundw
                  case rel => exact ⟨k + 1, by omega, by go_num, hx.alloc _, by rw [HRD.out]; simpa [readOf] using hown.ext ((Ext.refl _).alloc _)⟩
                  case measure => simp [intOf]; omega
                | none =>
                  have c0 : wr.cell? ⟨bo, oo + k * 2, none⟩ = some (.int .i64 2) := c0
                  cases q with
                  | nil =>
                    have d0 : (wr.alloc (.cells #[.int .i64 2, .slice X nX kX] 26)).cell? ⟨ba, oa + k * 3, none⟩ = some (.bool false) := ((Ext.refl wr).alloc _).cellS d0
                    go_wp2
                    go_roundw
                    case rel => exact ⟨k + 1, by omega, by go_num, hx.alloc _, by rw [HRD.out]; simpa [readOf] using hown.ext ((Ext.refl _).alloc _)⟩
                    case measure => simp [intOf]; omega
                  | cons y q =>
                    have d0 : (wr.alloc (.cells #[.int .i64 2, .slice X nX kX] 26)).cell? ⟨ba, oa + k * 3, none⟩ = some (.bool true) := ((Ext.refl wr).alloc _).cellS d0
                    obtain ⟨A8, k8, hv8', w1, w2, w3, hrow8⟩ := hv8
                    simp only [List.cons.injEq, and_true] at hv8'
                    subst hv8'
                    obtain ⟨b8, o8, rfl, _⟩ := hrow8.addr (by simp [ansQ])
                    have c8 : (wr.alloc (.cells #[.int .i64 2, .slice X nX kX] 26)).cell? ⟨b8, o8, none⟩ = some (.int .i64 y) := num_at (hrow8.mono (fun _ _ => trivial)) rfl (k := 0) (by simp [ansQ]) (hx.alloc _)
                    have d2 : (wr.alloc (.cells #[.int .i64 2, .slice X nX kX] 26)).cell? ⟨ba, oa + k * 3 + 2, none⟩ = some (.slice (some ⟨b8, o8, none⟩) 1 k8) := ((Ext.refl wr).alloc _).cellS d2
                    have own2 : OwnP Rp.num (wr.alloc (.cells #[.int .i64 2, .slice X nX kX] 26)) (fun j => w5.heap.size ≤ j) w5.heap.size 3 u17 rd := hown.ext ((Ext.refl wr).alloc _)
                    have z5 := hx.size
                    have hN8 : ∀ j u, [Value.int .i64 y][j]? = some u → (wr.alloc (.cells #[.int .i64 2, .slice X nX kX] 26)).cell? ((⟨b8, o8, none⟩ : Addr).add j) = some u := by
                      intro j u hu
                      match j, hu with
                      | 0, hu => obtain rfl : Value.int .i64 y = u := by simpa using hu
                                 exact c8
                    have hK : ∀ i z, [y][i]? = some z → Rp.num.K (wr.alloc (.cells #[.int .i64 2, .slice X nX kX] 26)) (fun j => w5.heap.size ≤ j ∧ some j ≠ u17.ownBlock) z (([Value.int .i64 y].drop (i * Rp.num.sz)).take Rp.num.sz) :=
                      one_elem (p := fun i z => Rp.num.K (wr.alloc (.cells #[.int .i64 2, .slice X nX kX] 26)) (fun j => w5.heap.size ≤ j ∧ some j ≠ u17.ownBlock) z (([Value.int .i64 y].drop (i * Rp.num.sz)).take Rp.num.sz)) rfl
                    have h63 : rd.length + [y].length ≤ maxLen := by simp [maxLen]; omega
                    have hby : (rd.length + [y].length) * 8 ≤ 140737488355328 := by simp; omega
                    have hbs : w5.heap.size ≤ (wr.alloc (.cells #[.int .i64 2, .slice X nX kX] 26)).heap.size := by simp; omega
                    have HN8 := Lib.hid hN8
                    have HKK := Lib.hid hK
                    clear hN8 hK c8 hrow8
                    go_wp2_with (at_builtin; refine wpList_app (d := Rp.num) (base := w5.heap.size) rfl (.tmp 131) (.tmp 136) 22 rfl 3 i1 _ 8 Try.underlying22 hi1 hy0 hy1 hy2 rfl (v := u17) rfl own2 (fun j hj => by omega) ⟨b8, o8, none⟩ k8 [.int .i64 y] [y] rfl rfl HN8.out HKK.out h63 hby hbs ?_; intro v2 w7 own3 g2 f2; have E7 := ext_app (hx.alloc _) g2 (fun k hk => (hown.own k hk).1))
                    go_roundw
                    case rel => exact ⟨k + 1, by omega, by go_num, E7, by rw [HRD.out]; exact own3⟩
                    case measure => simp [intOf]; omega
              · have hkk : ops.take k = ops := List.take_of_length_le (by have := HLN.out; omega)
                rw [hkk, HQL.out] at hown
                have hk2 : L < (answersQ [] ops).length := by have := HAL.out; omega
                obtain ⟨ba, oa, rfl, _⟩ := HANS.out.addr (by intro h; simp [h] at hk2)
                have HO := Lib.hid hown
                obtain ⟨Ao, ko, rfl, y1, y2⟩ := hown.shape
                clear hown
                go_wp2_with fail
                refine (equal_any _ _ vals vals _ (Rp.toAny _ HO.out.slice) ((Rp.slice Rp.num).ext' ((he.trans e5).trans hx) H1.out)).mono ?_
                rintro e w8 ⟨rfl, e8⟩
                rw [show decide (vals = vals) = true from decide_eq_true rfl]
                obtain ⟨v8, _, d0, _⟩ := ans_at HANS.out rfl hk2 (hx.trans e8)
                rw [HLA.out _ (List.getElem?_eq_getElem hk2)] at d0
                have d0 : w8.cell? ⟨ba, oa + L * 3, none⟩ = some (.bool false) := d0
                have E8 := ((he.trans e5).trans hx).trans e8
                go_wp2_with fail
                refine (live_any _).mono ?_
                rintro e w9 ⟨rfl, e9⟩
                go_wp2
                go_ret
                exact ⟨rfl, E8.trans e9⟩
  | true =>
    go_enter Try.func3, Try.ntmps3
    go_wp2_with fail
    go_loopw [12, 58] (fun out i wr => ∃ (k : Nat) (ops : List ROp), k ≤ vals.length ∧ i = .int .i64 k ∧ Ext w wr ∧ OwnP kOp wr (fun j => w.heap.size ≤ j) w.heap.size 26 out ops ∧ Hid (writes ops = vals.take k) ∧ ops.length ≤ 6 * k) (fun _ i _ => vals.length - (intOf i).toNat)
    case atStart => exact ⟨0, [], Nat.zero_le _, rfl, Ext.refl _, OwnP.nil _ _ _ _ _, Lib.hid rfl, Nat.le_refl _⟩
    case round =>
      obtain ⟨k, ops, hk, rfl, he, hown, hwr, hol⟩ := hrel
      by_cases hlt : k < vals.length
      · obtain ⟨b1, o1, rfl, _⟩ := HROW1.out.addr (by intro h; simp [h] at hlt)
        have c1 := num_at HROW1.out rfl hlt he
        have HT : Hid (vals.take (k + 1) = vals.take k ++ [vals[k]]) := Lib.hid (List.take_succ_eq_append_getElem hlt)
        generalize vals[k] = x at *
        have e2 : Ext w ((wr.alloc (.cells #[.int .i64 x] 3)).alloc (.cells #[.int .i64 1, .slice (some ⟨wr.heap.size, 0, none⟩) 1 1] 26)) := (he.alloc _).alloc _
        have z0 : w.heap.size ≤ wr.heap.size := he.size
        have own2 : OwnP kOp ((wr.alloc (.cells #[.int .i64 x] 3)).alloc (.cells [.int .i64 1, .slice (some ⟨wr.heap.size, 0, none⟩) 1 1].toArray 26)) (fun j => w.heap.size ≤ j) w.heap.size 26 u12 ops := hown.ext (((Ext.refl wr).alloc _).alloc _)
        have hK : ∀ i y, [(some x : ROp)][i]? = some y → kOp.K ((wr.alloc (.cells #[.int .i64 x] 3)).alloc (.cells [.int .i64 1, .slice (some ⟨wr.heap.size, 0, none⟩) 1 1].toArray 26)) (fun j => w.heap.size ≤ j ∧ some j ≠ u12.ownBlock) y (([Value.int .i64 1, Value.slice (some ⟨wr.heap.size, 0, none⟩) 1 1].drop (i * kOp.sz)).take kOp.sz) := by
          refine one_elem (p := fun i y => kOp.K ((wr.alloc (.cells #[.int .i64 x] 3)).alloc (.cells [.int .i64 1, .slice (some ⟨wr.heap.size, 0, none⟩) 1 1].toArray 26)) (fun j => w.heap.size ≤ j ∧ some j ≠ u12.ownBlock) y (([Value.int .i64 1, Value.slice (some ⟨wr.heap.size, 0, none⟩) 1 1].drop (i * kOp.sz)).take kOp.sz)) ?_
          exact ⟨wr.heap.size, 0, rfl, ⟨z0, hown.notOwn (.inl (Nat.le_refl _))⟩, ((Blk.new wr 3 [.int .i64 x]).ext ((Ext.refl _).alloc _)).cell rfl⟩
        have h63 : ops.length + [(some x : ROp)].length ≤ maxLen := by simp [maxLen]; omega
        have hby : (ops.length + [(some x : ROp)].length) * 32 ≤ 140737488355328 := by simp; omega
        have hbs := e2.size
        have hnews := lit_cells (wr.alloc (.cells #[.int .i64 x] 3)) 26 [.int .i64 1, .slice (some ⟨wr.heap.size, 0, none⟩) 1 1]
        rw [World.size_alloc] at hnews
        have HKK := Lib.hid hK
        have HNW := Lib.hid hnews
        clear hK hnews
        have HW2 : Hid (writes (ops ++ [some x]) = vals.take (k + 1)) := Lib.hid (by rw [writes_snoc, hwr.out, HT.out])
        have hol2 : (ops ++ [some x]).length ≤ 6 * k + 1 := by simp; omega
        by_cases hr : k < rs.length
        · obtain ⟨b2, o2, rfl, _⟩ := HROW2.out.addr (by intro h; simp [h] at hr)
          have CR : Hid (∀ w2, Ext w w2 → w2.cell? ⟨b2, o2 + k, none⟩ = some (.int .i64 rs[k])) := Lib.hid (fun w2 h => num_at HROW2.out rfl hr h)
          generalize rs[k] = r at *
          by_cases r0 : r < 0
          ·
            go_wp2_with (at_builtin; refine wpList_app (d := kOp) (base := w.heap.size) rfl (.tmp 63) (.tmp 67) 24 rfl 26 i0 _ 32 Try.underlying24 hi hz0 hz1 hz2 rfl (v := u12) rfl own2 (fun j hj => by omega) ⟨wr.heap.size + 1, 0, none⟩ 1 _ [(some x : ROp)] rfl rfl HNW.out HKK.out h63 hby hbs ?_; intro v2 w2 own3 g2 f2; have E2 := ext_app e2 g2 (fun k hk => (hown.own k hk).1); have c2 := CR.out w2 E2)
            go_loopw [12, 79] (fun out i wr => ∃ (j : Nat) (ops : List ROp), j ≤ 0 ∧ i = .int .i64 j ∧ Ext w wr ∧ OwnP kOp wr (fun j => w.heap.size ≤ j) w.heap.size 26 out ops ∧ Hid (writes ops = vals.take (k + 1)) ∧ ops.length ≤ 6 * k + 1 + j) (fun _ i _ => 0 - (intOf i).toNat)
            case atStart => exact ⟨0, ops ++ [some x], Nat.zero_le _, rfl, E2, own3, HW2, by omega⟩
            case round =>
              clear own2 HKK HNW h63 hby hbs own3 g2 f2 E2
              clear hown he hwr hol c1
              obtain ⟨j, ops, hj, rfl, he, hown, hwr, hol⟩ := hrel
              by_cases hjc : j < 0
              ·
                exact absurd hjc (Nat.not_lt_zero _)
              · go_wp2
                go_roundw
                case rel => exact ⟨k + 1, ops, by omega, by go_num, he, hown, hwr, by omega⟩
                case measure => (first | (simp [intOf]; done) | (simp [intOf]; omega))
          obtain ⟨c, rfl⟩ : ∃ c : Nat, r = c := ⟨r.toNat, by omega⟩
          by_cases r5 : 5 < c
          ·
            go_wp2_with (at_builtin; refine wpList_app (d := kOp) (base := w.heap.size) rfl (.tmp 63) (.tmp 67) 24 rfl 26 i0 _ 32 Try.underlying24 hi hz0 hz1 hz2 rfl (v := u12) rfl own2 (fun j hj => by omega) ⟨wr.heap.size + 1, 0, none⟩ 1 _ [(some x : ROp)] rfl rfl HNW.out HKK.out h63 hby hbs ?_; intro v2 w2 own3 g2 f2; have E2 := ext_app e2 g2 (fun k hk => (hown.own k hk).1); have c2 := CR.out w2 E2)
            go_loopw [12, 79] (fun out i wr => ∃ (j : Nat) (ops : List ROp), j ≤ 5 ∧ i = .int .i64 j ∧ Ext w wr ∧ OwnP kOp wr (fun j => w.heap.size ≤ j) w.heap.size 26 out ops ∧ Hid (writes ops = vals.take (k + 1)) ∧ ops.length ≤ 6 * k + 1 + j) (fun _ i _ => 5 - (intOf i).toNat)
            case atStart => exact ⟨0, ops ++ [some x], Nat.zero_le _, rfl, E2, own3, HW2, by omega⟩
            case round =>
              clear own2 HKK HNW h63 hby hbs own3 g2 f2 E2
              clear hown he hwr hol c1
              obtain ⟨j, ops, hj, rfl, he, hown, hwr, hol⟩ := hrel
              by_cases hjc : j < 5
              ·
                have z0 : w.heap.size ≤ wr.heap.size := he.size
                have own2 : OwnP kOp (wr.alloc (.cells [.int .i64 2, .slice none 0 0].toArray 26)) (fun j => w.heap.size ≤ j) w.heap.size 26 u12 ops := hown.ext (((Ext.refl wr).alloc _))
                have hK : ∀ i y, [(none : ROp)][i]? = some y → kOp.K (wr.alloc (.cells [.int .i64 2, .slice none 0 0].toArray 26)) (fun j => w.heap.size ≤ j ∧ some j ≠ u12.ownBlock) y (([Value.int .i64 2, Value.slice none 0 0].drop (i * kOp.sz)).take kOp.sz) := by
                  refine one_elem (p := fun i y => kOp.K (wr.alloc (.cells [.int .i64 2, .slice none 0 0].toArray 26)) (fun j => w.heap.size ≤ j ∧ some j ≠ u12.ownBlock) y (([Value.int .i64 2, Value.slice none 0 0].drop (i * kOp.sz)).take kOp.sz)) ?_
                  exact rfl
                have h63 : ops.length + [(none : ROp)].length ≤ maxLen := by simp [maxLen]; omega
                have hby : (ops.length + [(none : ROp)].length) * 32 ≤ 140737488355328 := by simp; omega
                have hbs : w.heap.size ≤ (wr.alloc (.cells [.int .i64 2, .slice none 0 0].toArray 26)).heap.size := (he.alloc _).size
                have HKK := Lib.hid hK
                clear hK
                go_wp2_with (at_builtin; refine wpList_app (d := kOp) (base := w.heap.size) rfl (.tmp 81) (.tmp 83) 24 rfl 26 i0 _ 32 Try.underlying24 hi hz0 hz1 hz2 rfl (v := u12) rfl own2 (fun j hj => by omega) ⟨wr.heap.size, 0, none⟩ 1 _ [(none : ROp)] rfl rfl (lit_cells wr _ _) HKK.out h63 hby hbs ?_; intro v2 w2 own3 g2 f2; have E2 := ext_app (he.alloc _) g2 (fun k hk => (hown.own k hk).1))
                go_roundw
                case rel => exact ⟨j + 1, ops ++ [none], by omega, by go_num, E2, own3, Lib.hid (by rw [writes_read]; exact hwr.out), by simp; omega⟩
                case measure => (first | (simp [intOf]; done) | (simp [intOf]; omega))
              · go_wp2
                go_roundw
                case rel => exact ⟨k + 1, ops, by omega, by go_num, he, hown, hwr, by omega⟩
                case measure => (first | (simp [intOf]; done) | (simp [intOf]; omega))
          go_wp2_with (at_builtin; refine wpList_app (d := kOp) (base := w.heap.size) rfl (.tmp 63) (.tmp 67) 24 rfl 26 i0 _ 32 Try.underlying24 hi hz0 hz1 hz2 rfl (v := u12) rfl own2 (fun j hj => by omega) ⟨wr.heap.size + 1, 0, none⟩ 1 _ [(some x : ROp)] rfl rfl HNW.out HKK.out h63 hby hbs ?_; intro v2 w2 own3 g2 f2; have E2 := ext_app e2 g2 (fun k hk => (hown.own k hk).1); have c2 := CR.out w2 E2)
          go_loopw [12, 79] (fun out i wr => ∃ (j : Nat) (ops : List ROp), j ≤ c ∧ i = .int .i64 j ∧ Ext w wr ∧ OwnP kOp wr (fun j => w.heap.size ≤ j) w.heap.size 26 out ops ∧ Hid (writes ops = vals.take (k + 1)) ∧ ops.length ≤ 6 * k + 1 + j) (fun _ i _ => c - (intOf i).toNat)
          case atStart => exact ⟨0, ops ++ [some x], Nat.zero_le _, rfl, E2, own3, HW2, by omega⟩
          case round =>
            clear own2 HKK HNW h63 hby hbs own3 g2 f2 E2
            clear hown he hwr hol c1
            obtain ⟨j, ops, hj, rfl, he, hown, hwr, hol⟩ := hrel
            by_cases hjc : j < c
            ·
              have z0 : w.heap.size ≤ wr.heap.size := he.size
              have own2 : OwnP kOp (wr.alloc (.cells [.int .i64 2, .slice none 0 0].toArray 26)) (fun j => w.heap.size ≤ j) w.heap.size 26 u12 ops := hown.ext (((Ext.refl wr).alloc _))
              have hK : ∀ i y, [(none : ROp)][i]? = some y → kOp.K (wr.alloc (.cells [.int .i64 2, .slice none 0 0].toArray 26)) (fun j => w.heap.size ≤ j ∧ some j ≠ u12.ownBlock) y (([Value.int .i64 2, Value.slice none 0 0].drop (i * kOp.sz)).take kOp.sz) := by
                refine one_elem (p := fun i y => kOp.K (wr.alloc (.cells [.int .i64 2, .slice none 0 0].toArray 26)) (fun j => w.heap.size ≤ j ∧ some j ≠ u12.ownBlock) y (([Value.int .i64 2, Value.slice none 0 0].drop (i * kOp.sz)).take kOp.sz)) ?_
                exact rfl
              have h63 : ops.length + [(none : ROp)].length ≤ maxLen := by simp [maxLen]; omega
              have hby : (ops.length + [(none : ROp)].length) * 32 ≤ 140737488355328 := by simp; omega
              have hbs : w.heap.size ≤ (wr.alloc (.cells [.int .i64 2, .slice none 0 0].toArray 26)).heap.size := (he.alloc _).size
              have HKK := Lib.hid hK
              clear hK
              go_wp2_with (at_builtin; refine wpList_app (d := kOp) (base := w.heap.size) rfl (.tmp 81) (.tmp 83) 24 rfl 26 i0 _ 32 Try.underlying24 hi hz0 hz1 hz2 rfl (v := u12) rfl own2 (fun j hj => by omega) ⟨wr.heap.size, 0, none⟩ 1 _ [(none : ROp)] rfl rfl (lit_cells wr _ _) HKK.out h63 hby hbs ?_; intro v2 w2 own3 g2 f2; have E2 := ext_app (he.alloc _) g2 (fun k hk => (hown.own k hk).1))
              go_roundw
              case rel => exact ⟨j + 1, ops ++ [none], by omega, by go_num, E2, own3, Lib.hid (by rw [writes_read]; exact hwr.out), by simp; omega⟩
              case measure => (first | (simp [intOf]; done) | (simp [intOf]; omega))
            · go_wp2
              go_roundw
              case rel => exact ⟨k + 1, ops, by omega, by go_num, he, hown, hwr, by omega⟩
              case measure => (first | (simp [intOf]; done) | (simp [intOf]; omega))
        · go_wp2_with (at_builtin; refine wpList_app (d := kOp) (base := w.heap.size) rfl (.tmp 63) (.tmp 67) 24 rfl 26 i0 _ 32 Try.underlying24 hi hz0 hz1 hz2 rfl (v := u12) rfl own2 (fun j hj => by omega) ⟨wr.heap.size + 1, 0, none⟩ 1 _ [(some x : ROp)] rfl rfl HNW.out HKK.out h63 hby hbs ?_; intro v2 w2 own3 g2 f2; have E2 := ext_app e2 g2 (fun k hk => (hown.own k hk).1))
          go_roundw
          case rel => exact ⟨k + 1, ops ++ [some x], by omega, by go_num, E2, own3, HW2, by omega⟩
          case measure => simp [intOf]; omega
      · have hkl : vals.take k = vals := List.take_of_length_le (by omega)
        rw [hkl] at hwr
        obtain rfl : k = vals.length := by omega
        have hol6 : ops.length ≤ 3600 := by omega
        generalize ops = pre at *
        go_wp2_with fail
        go_loopw [12, 90] (fun out i wr => ∃ (j : Nat), j ≤ vals.length + 1 ∧ i = .int .i64 j ∧ Ext w wr ∧ OwnP kOp wr (fun j => w.heap.size ≤ j) w.heap.size 26 out (pre ++ List.replicate j none)) (fun _ i _ => vals.length + 1 - (intOf i).toNat)
        case atStart => exact ⟨0, Nat.zero_le _, rfl, he, by simpa using hown⟩
        case round =>
          clear hown he hol
          obtain ⟨j, hj, rfl, he, hown⟩ := hrel
          by_cases hjc : j < vals.length + 1
          · have HPR : Hid (pre ++ List.replicate (j + 1) none = pre ++ List.replicate j none ++ [(none : ROp)]) := Lib.hid (by rw [List.append_assoc, ← List.replicate_succ'])
            have hol2 : (pre ++ List.replicate j (none : ROp)).length ≤ 5000 := by simp; omega
            generalize pre ++ List.replicate j none = ops at *
            have z0 : w.heap.size ≤ wr.heap.size := he.size
            have own2 : OwnP kOp (wr.alloc (.cells [.int .i64 2, .slice none 0 0].toArray 26)) (fun j => w.heap.size ≤ j) w.heap.size 26 u12 ops := hown.ext (((Ext.refl wr).alloc _))
            have hK : ∀ i y, [(none : ROp)][i]? = some y → kOp.K (wr.alloc (.cells [.int .i64 2, .slice none 0 0].toArray 26)) (fun j => w.heap.size ≤ j ∧ some j ≠ u12.ownBlock) y (([Value.int .i64 2, Value.slice none 0 0].drop (i * kOp.sz)).take kOp.sz) := by
              refine one_elem (p := fun i y => kOp.K (wr.alloc (.cells [.int .i64 2, .slice none 0 0].toArray 26)) (fun j => w.heap.size ≤ j ∧ some j ≠ u12.ownBlock) y (([Value.int .i64 2, Value.slice none 0 0].drop (i * kOp.sz)).take kOp.sz)) ?_
              exact rfl
            have h63 : ops.length + [(none : ROp)].length ≤ maxLen := by simp [maxLen]; omega
            have hby : (ops.length + [(none : ROp)].length) * 32 ≤ 140737488355328 := by simp; omega
            have hbs : w.heap.size ≤ (wr.alloc (.cells [.int .i64 2, .slice none 0 0].toArray 26)).heap.size := (he.alloc _).size
            have HKK := Lib.hid hK
            clear hK
            go_wp2_with (at_builtin; refine wpList_app (d := kOp) (base := w.heap.size) rfl (.tmp 92) (.tmp 94) 24 rfl 26 i0 _ 32 Try.underlying24 hi hz0 hz1 hz2 rfl (v := u12) rfl own2 (fun j hj => by omega) ⟨wr.heap.size, 0, none⟩ 1 _ [(none : ROp)] rfl rfl (lit_cells wr _ _) HKK.out h63 hby hbs ?_; intro v2 w2 own3 g2 f2; have E2 := ext_app (he.alloc _) g2 (fun k hk => (hown.own k hk).1))
            go_roundw
            case rel => exact ⟨j + 1, by omega, by go_num, E2, by rw [HPR.out]; exact own3⟩
            case measure => simp [intOf]; omega
          · obtain rfl : j = vals.length + 1 := by omega
            have HQL : Hid (reads [] (pre ++ List.replicate (vals.length + 1) none) = vals) := Lib.hid (queue_law vals pre hwr.out)
            have HLA : Hid (∀ a, (answersQ [] (pre ++ List.replicate (vals.length + 1) none))[pre.length + vals.length]? = some a → a = (false, 0, [])) := Lib.hid (fun a ha => queue_last vals pre hwr.out a ha)
            have hlen : (pre ++ List.replicate (vals.length + 1) (none : ROp)).length = pre.length + vals.length + 1 := by simp; omega
            generalize pre ++ List.replicate (vals.length + 1) none = ops at *
            obtain ⟨L, hL⟩ : ∃ L, L = pre.length + vals.length := ⟨_, rfl⟩
            rw [← hL] at HLA hlen
            have hL2 : L ≤ 5000 := by omega
            clear hL hwr
            obtain ⟨A5, k5, rfl, s1, s2⟩ := hown.shape
            have HSL := Lib.hid hown.slice
            have HLN := Lib.hid hlen
            rw [hlen] at s1 ⊢
            clear hown hlen
            go_wp2_with fail
            refine (ring_any 1 n m (by decide) (by omega) (by omega) _ ops (by rw [HLN.out]; omega) _ (by rw [← HLN.out]; exact Rp.toAny _ HSL.out)).mono ?_
            rintro e w5 ⟨v5, rfl, hv5, e5⟩
            obtain ⟨A6, k6, hv6, t1, t2, t3, hans⟩ := hv5
            simp only [List.cons.injEq, and_true] at hv6
            subst hv6
            have hal : (answersQ [] ops).length = L + 1 := by rw [answersQ_length, HLN.out]
            rw [hal] at t1 ⊢
            have HANS := Lib.hid hans
            have HAL := Lib.hid hal
            clear hans hal
            go_wp2_with fail
            obtain ⟨i1, hi1, hy0, hy1, hy2⟩ := info_parts infoInt
            obtain ⟨A5', k5', hs, _, _, _, hrops⟩ := HSL.out
            simp only [List.cons.injEq, Value.slice.injEq, and_true, true_and] at hs
            obtain ⟨rfl, rfl⟩ := hs
            have HRO := Lib.hid hrops
            clear hrops
            go_loopw [17, 116] (fun out i wx => ∃ (k : Nat), k ≤ L + 1 ∧ i = .int .i64 k ∧ Ext w5 wx ∧ OwnP Rp.num wx (fun j => w5.heap.size ≤ j) w5.heap.size 3 out (reads [] (ops.take k))) (fun _ i _ => L + 1 - (intOf i).toNat)
            case atStart => exact ⟨0, Nat.zero_le _, rfl, Ext.refl _, OwnP.nil _ _ _ _ _⟩
            case round =>
              obtain ⟨k, hk, rfl, hx, hown⟩ := hrel
              by_cases hkl : k < L + 1
              · have hk1 : k < ops.length := by have := HLN.out; omega
                have hk2 : k < (answersQ [] ops).length := by have := HAL.out; omega
                obtain ⟨bo, oo, rfl, _⟩ := HRO.out.addr (by intro h; simp [h] at hk1)
                obtain ⟨ba, oa, rfl, _⟩ := HANS.out.addr (by intro h; simp [h] at hk2)
                obtain ⟨X, nX, kX, c0, c1⟩ := op_at HRO.out rfl hk1 (e5.trans hx)
                obtain ⟨v8, hv8, d0, d1, d2⟩ := ans_at HANS.out rfl hk2 hx
                have HRD : Hid (reads [] (ops.take (k + 1)) = reads [] (ops.take k) ++ readOf (stateQ [] (ops.take k)) ops[k]) := Lib.hid (by rw [List.take_succ_eq_append_getElem hk1, reads_snoc])
                have ha : (answersQ [] ops)[k] = ansQ (stateQ [] (ops.take k)) ops[k] := by
                  have := answers_get [] ops k
                  rw [List.getElem?_eq_getElem hk2, List.getElem?_eq_getElem hk1] at this
                  simpa using this
                have hrl : (reads [] (ops.take k)).length ≤ 10000 := by have := reads_le (ops.take k); have := List.length_take_le k ops; omega
                generalize (answersQ [] ops)[k] = a at *
                subst ha
                generalize ops[k] = op at *
                generalize stateQ [] (ops.take k) = q at *
                generalize reads [] (ops.take k) = rd at *
                cases op with
                | some x =>
                  have c0 : wr.cell? ⟨bo, oo + k * 2, none⟩ = some (.int .i64 1) := c0
                  go_wp2
                  go_roundw
                  case rel => exact ⟨k + 1, by omega, by go_num, hx.alloc _, by rw [HRD.out]; simpa [readOf] using hown.ext ((Ext.refl _).alloc _)⟩
                  case measure => simp [intOf]; omega
                | none =>
                  have c0 : wr.cell? ⟨bo, oo + k * 2, none⟩ = some (.int .i64 2) := c0
                  cases q with
                  | nil =>
                    have d0 : (wr.alloc (.cells #[.int .i64 2, .slice X nX kX] 26)).cell? ⟨ba, oa + k * 3, none⟩ = some (.bool false) := ((Ext.refl wr).alloc _).cellS d0
                    go_wp2
                    go_roundw
                    case rel => exact ⟨k + 1, by omega, by go_num, hx.alloc _, by rw [HRD.out]; simpa [readOf] using hown.ext ((Ext.refl _).alloc _)⟩
                    case measure => simp [intOf]; omega
                  | cons y q =>
                    have d0 : (wr.alloc (.cells #[.int .i64 2, .slice X nX kX] 26)).cell? ⟨ba, oa + k * 3, none⟩ = some (.bool true) := ((Ext.refl wr).alloc _).cellS d0
                    obtain ⟨A8, k8, hv8', w1, w2, w3, hrow8⟩ := hv8
                    simp only [List.cons.injEq, and_true] at hv8'
                    subst hv8'
                    obtain ⟨b8, o8, rfl, _⟩ := hrow8.addr (by simp [ansQ])
                    have c8 : (wr.alloc (.cells #[.int .i64 2, .slice X nX kX] 26)).cell? ⟨b8, o8, none⟩ = some (.int .i64 y) := num_at (hrow8.mono (fun _ _ => trivial)) rfl (k := 0) (by simp [ansQ]) (hx.alloc _)
                    have d2 : (wr.alloc (.cells #[.int .i64 2, .slice X nX kX] 26)).cell? ⟨ba, oa + k * 3 + 2, none⟩ = some (.slice (some ⟨b8, o8, none⟩) 1 k8) := ((Ext.refl wr).alloc _).cellS d2
                    have own2 : OwnP Rp.num (wr.alloc (.cells #[.int .i64 2, .slice X nX kX] 26)) (fun j => w5.heap.size ≤ j) w5.heap.size 3 u17 rd := hown.ext ((Ext.refl wr).alloc _)
                    have z5 := hx.size
                    have hN8 : ∀ j u, [Value.int .i64 y][j]? = some u → (wr.alloc (.cells #[.int .i64 2, .slice X nX kX] 26)).cell? ((⟨b8, o8, none⟩ : Addr).add j) = some u := by
                      intro j u hu
                      match j, hu with
                      | 0, hu => obtain rfl : Value.int .i64 y = u := by simpa using hu
                                 exact c8
                    have hK : ∀ i z, [y][i]? = some z → Rp.num.K (wr.alloc (.cells #[.int .i64 2, .slice X nX kX] 26)) (fun j => w5.heap.size ≤ j ∧ some j ≠ u17.ownBlock) z (([Value.int .i64 y].drop (i * Rp.num.sz)).take Rp.num.sz) :=
                      one_elem (p := fun i z => Rp.num.K (wr.alloc (.cells #[.int .i64 2, .slice X nX kX] 26)) (fun j => w5.heap.size ≤ j ∧ some j ≠ u17.ownBlock) z (([Value.int .i64 y].drop (i * Rp.num.sz)).take Rp.num.sz)) rfl
                    have h63 : rd.length + [y].length ≤ maxLen := by simp [maxLen]; omega
                    have hby : (rd.length + [y].length) * 8 ≤ 140737488355328 := by simp; omega
                    have hbs : w5.heap.size ≤ (wr.alloc (.cells #[.int .i64 2, .slice X nX kX] 26)).heap.size := by simp; omega
                    have HN8 := Lib.hid hN8
                    have HKK := Lib.hid hK
                    clear hN8 hK c8 hrow8
                    go_wp2_with (at_builtin; refine wpList_app (d := Rp.num) (base := w5.heap.size) rfl (.tmp 131) (.tmp 136) 22 rfl 3 i1 _ 8 Try.underlying22 hi1 hy0 hy1 hy2 rfl (v := u17) rfl own2 (fun j hj => by omega) ⟨b8, o8, none⟩ k8 [.int .i64 y] [y] rfl rfl HN8.out HKK.out h63 hby hbs ?_; intro v2 w7 own3 g2 f2; have E7 := ext_app (hx.alloc _) g2 (fun k hk => (hown.own k hk).1))
                    go_roundw
                    case rel => exact ⟨k + 1, by omega, by go_num, E7, by rw [HRD.out]; exact own3⟩
                    case measure => simp [intOf]; omega
              · have hkk : ops.take k = ops := List.take_of_length_le (by have := HLN.out; omega)
                rw [hkk, HQL.out] at hown
                have hk2 : L < (answersQ [] ops).length := by have := HAL.out; omega
                obtain ⟨ba, oa, rfl, _⟩ := HANS.out.addr (by intro h; simp [h] at hk2)
                have HO := Lib.hid hown
                obtain ⟨Ao, ko, rfl, y1, y2⟩ := hown.shape
                clear hown
                go_wp2_with fail
                refine (equal_any _ _ vals vals _ (Rp.toAny _ HO.out.slice) ((Rp.slice Rp.num).ext' ((he.trans e5).trans hx) H1.out)).mono ?_
                rintro e w8 ⟨rfl, e8⟩
                rw [show decide (vals = vals) = true from decide_eq_true rfl]
                obtain ⟨v8, _, d0, _⟩ := ans_at HANS.out rfl hk2 (hx.trans e8)
                rw [HLA.out _ (List.getElem?_eq_getElem hk2)] at d0
                have d0 : w8.cell? ⟨ba, oa + L * 3, none⟩ = some (.bool false) := d0
                have E8 := ((he.trans e5).trans hx).trans e8
                go_wp2_with fail
                refine (live_any _).mono ?_
                rintro e w9 ⟨rfl, e9⟩
                go_wp2
                go_ret
                exact ⟨rfl, E8.trans e9⟩
end Go.Proofs.Ytgebafnbkglmaaa
