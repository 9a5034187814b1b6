/-
  The walk of FnRollingUp.
-/
import Derived.Test.YtdokcengcekfgaaDoorRollP
namespace Go.Proofs.YtdokcengcekfgaaDoor
open Go.RowKit
set_option linter.unusedSimpArgs false
set_option linter.unusedVariables false

def iV (j : Nat) : Value := .int .i64 (j : Int)
theorem infoI : (Tryd.prog.info? 3).map (fun i => (i.zero, i.size, i.bytes)) = some (some (.int .i64 0), 1, 8) := by kernel_rfl
theorem made_ints (n : Nat) : madeCells (Value.int .i64 0).cells (n * 1) = (List.replicate n (iV 0)).toArray := by
  have hc : (Value.int .i64 0).cells = #[.int .i64 0] := rfl
  unfold madeCells
  rw [hc]
  apply Array.ext
  · simp
  · intro i h1 h2
    simp [iV, Nat.mod_one]
/-- the walk at 'make([]int, n)' -/
theorem wpList_ints {ops : Array Oper} {rest : List Oper} {o : Oper} {a : Act} {Q : Exit → Act → World → Prop} {w : World} (hgd : o.guard = none) (l c : Operand) (ho : o.op = .makeSlice 35 l c) (n : Nat) (hn : n ≤ 1000)
    (hl : a.eval l = .int .i64 (n : Int)) (hc : a.eval c = .int .i64 (n : Int)) (h : wpList Tryd.prog ops Q rest (a.put o.dst (.slice (some ⟨w.heap.size, 0, none⟩) n n)) (w.alloc (.cells (List.replicate n (iV 0)).toArray 3))) : wpList Tryd.prog ops Q (o :: rest) a w := by
  obtain ⟨i0, hi, hz0, hz1, hz2⟩ := info_parts infoI
  refine wpList_plain hgd fun K hK => ?_
  have hrun := run_make (P := Tryd.prog) w 35 3 i0 _ Tryd.underlying35 hi hz0 .i64 .i64 (n : Int) (n : Int) (by omega) (by omega) (by rw [hz2]; omega) (by omega)
  rw [hz1, Int.toNat_natCast, made_ints] at hrun
  unfold Oper.wp
  simp [execOp, ho, hl, hc, hrun, Result.andThen]
  exact hK _ _ h
def fill (k n : Nat) : List Value := (List.range k).map iV ++ List.replicate (n - k) (iV 0)
theorem fill_step {k n : Nat} (h : k < n) : over k [iV k] (fill k n) = fill (k + 1) n := by
  unfold over fill
  have hl : ((List.range k).map iV).length = k := by simp
  rw [List.take_append_of_le_length (by omega), List.take_of_length_le (by omega), List.drop_append, List.drop_of_length_le (by simp), hl, List.range_succ, List.map_append, List.nil_append]
  simp only [List.length_cons, List.length_nil, List.drop_replicate, List.map_cons, List.map_nil]
  congr 2
  omega
theorem fill_len {k n : Nat} (h : k ≤ n) : (fill k n).length = n := by unfold fill; simp; omega
theorem fill_all (n : Nat) : fill n n = (List.range n).map iV := by unfold fill; simp
/-- texts in a block, one stored -/
theorem over_strs (ms : List ByteArray) (rest : List Value) (j : Nat) (s : ByteArray) (h : j < ms.length) : over j [.string s] (ms.map Value.string ++ rest) = (ms.set j s).map Value.string ++ rest := by
  unfold over
  rw [List.take_append_of_le_length (by simp; omega), List.drop_append_of_le_length (by simp; omega), ← List.append_assoc]
  congr 1
  rw [List.set_eq_take_append_cons_drop, if_pos h]
  simp
theorem infoIsz : (Tryd.prog.info? 3).map (·.size) = some 1 := by kernel_rfl
/-- append(left[:r], left[r+1:]...): the element r is taken out, in place -/
theorem run_delete {w : World} {bl n r : Nat} {ls : List Nat} {rl : List Value} (K : Blk w bl 3 (ls.map iV ++ rl)) (hn : ls.length + rl.length = n) (hr : r < ls.length) {A2 : Option Addr} (hA : (if n = r + 1 then some (⟨bl, 0, none⟩ : Addr) else (some (⟨bl, 0, none⟩ : Addr)).map (·.add ((r + 1) * 1))) = A2) :
    ∃ w' rl', (Builtin.append_ #[35, 35] 35 #[.slice (some ⟨bl, 0, none⟩) r n, .slice A2 (ls.length - (r + 1)) (n - (r + 1))]).run Tryd.prog w = .ok (.slice (some ⟨bl, 0, none⟩) (ls.take r ++ ls.drop (r + 1)).length n) w' ∧
      Blk w' bl 3 ((ls.take r ++ ls.drop (r + 1)).map iV ++ rl') ∧ (ls.take r ++ ls.drop (r + 1)).length + rl'.length = n ∧ ExtX (fun k => k = bl) w w' := by
  obtain ⟨i0, hi, hz0, hz1, hz2⟩ := info_parts infoI
  have hlen : (ls.drop (r + 1)).length = ls.length - (r + 1) := List.length_drop
  have hL : (ls.take r ++ ls.drop (r + 1)).length = r + (ls.length - (r + 1)) := by rw [List.length_append, List.length_take, hlen]; omega
  obtain ⟨a, ha, hcell⟩ : ∃ a, A2 = some a ∧ ∀ j u, ((ls.drop (r + 1)).map iV)[j]? = some u → w.cell? (a.add j) = some u := by
    by_cases h1 : n = r + 1
    · rw [if_pos h1] at hA
      refine ⟨_, hA.symm, fun j u hu => ?_⟩
      have := (List.getElem?_eq_some_iff.1 hu).1
      rw [List.length_map, hlen] at this
      omega
    · rw [if_neg h1] at hA
      refine ⟨_, hA.symm, fun j u hu => ?_⟩
      have h2 : ((⟨bl, 0, none⟩ : Addr).add ((r + 1) * 1)).add j = ⟨bl, r + 1 + j, none⟩ := by simp [Addr.add_lit]
      rw [h2]
      refine K.cell ?_
      have h3 := (List.getElem?_eq_some_iff.1 hu).1
      rw [List.length_map, hlen] at h3
      rw [List.getElem?_append_left (by rw [List.length_map]; omega)]
      rw [List.getElem?_map, List.getElem?_drop] at hu
      rw [List.getElem?_map]
      exact hu
  subst ha
  have hrun := run_append_room (P := Tryd.prog) w 35 35 3 i0 Tryd.underlying35 hi bl r n (ls.map iV ++ rl).toArray K a (ls.length - (r + 1)) (n - (r + 1)) ((ls.drop (r + 1)).map iV) (by rw [List.length_map, hlen, hz1]; omega) hcell (fun u hu => by
    obtain ⟨j, _, rfl⟩ := List.mem_map.1 hu; rfl) (by omega) (by rw [hz1, List.length_map, hlen]; simp; omega)
  rw [hz1, ← hL] at hrun
  have hnew : (((ls.map iV ++ rl).toArray.toList.take (r * 1)) ++ (ls.drop (r + 1)).map iV ++ (ls.map iV ++ rl).toArray.toList.drop (r * 1 + ((ls.drop (r + 1)).map iV).length)) =
      (ls.take r ++ ls.drop (r + 1)).map iV ++ (ls.map iV ++ rl).drop (r + (ls.length - (r + 1))) := by
    simp only [Nat.mul_one, List.length_map, hlen]
    rw [List.take_append_of_le_length (by rw [List.length_map]; omega), List.map_append, List.map_take]
  refine ⟨_, (ls.map iV ++ rl).drop (r + (ls.length - (r + 1))), hrun, ?_, ?_, ⟨rfl, rfl, rfl, by simp [World.setRow], fun k hk hm => setRow_other w bl k _ hm⟩⟩
  · have := setRow_heap w bl _ (((ls.map iV ++ rl).toArray.toList.take (r * 1)) ++ (ls.drop (r + 1)).map iV ++ (ls.map iV ++ rl).toArray.toList.drop (r * 1 + ((ls.drop (r + 1)).map iV).length)).toArray 3 (0, 0) K
    rw [hnew] at this
    rw [hnew]
    exact this
  · rw [hL, List.length_drop, List.length_append, List.length_map]; omega
def RollSt (m : Int) (n b9 ba cap : Nat) (rm : List Value) (w wr : World) (ms : List ByteArray) (ls : List Nat) : Prop :=
  Rolling m n ms ls ∧ Blk wr b9 24 (gdCells (rollG m ms (stood m ls) (stood m ls)) (some ⟨ba, 0, none⟩) n cap) ∧ Blk wr ba 9 (ms.map Value.string ++ rm) ∧
    (∃ rl, Blk wr (b9 + 1) 3 (ls.map iV ++ rl) ∧ ls.length + rl.length = n) ∧ Ext w wr
noncomputable def ops_5_18 : Array Oper := opsAt Tryd.f5 18
noncomputable def ops_5_19 : Array Oper := opsAt Tryd.f5 19
/-- an int of a given slice -/
theorem int_at {w wr : World} {A : Option Addr} {xs : List Int} (h : (Rp.int .i64).row w any A xs) {b o : Nat} (hA : A = some ⟨b, o, none⟩) {k : Nat} {x : Int} (hx : xs[k]? = some x) (he : Ext w wr) : wr.cell? ⟨b, o + k, none⟩ = some (.int .i64 x) ∧ (Lit.int .i64 x).wf = true := by
  obtain ⟨cs, hl, hK, hc⟩ := h.at hA hx
  obtain ⟨rfl, hw⟩ : cs = [.int .i64 x] ∧ _ := hK
  exact ⟨he.cellS (by have := hc 0 (by decide); simpa [Rp.int] using this), hw⟩
set_option maxRecDepth 20000 in
set_option maxHeartbeats 8000000 in
theorem walk_RollingUp (n m : Int) (os : List Int) (vo : Value) (ps : List Int) (vp : Value) (w : World) (hn : (Lit.int .i64 n).wf = true) (hm : (Lit.int .i64 m).wf = true) (hos : (Rp.slice (Rp.int .i64)).K w any os [vo]) (hps : (Rp.slice (Rp.int .i64)).K w any ps [vp]) (hw : VarsOk w) :
    Calls Tryd.prog 5 #[.int .i64 n, .int .i64 m, vo, vp] w fun e w' => e = .returned (.bool true) ∧ Ext w w' := by
  have HW := Lib.hid hw
  have HOS := Lib.hid hos
  have HPS := Lib.hid hps
  clear hw
  obtain ⟨Ao, co, hv, o1, o2, o3, orow⟩ := hos
  simp only [List.cons.injEq, and_true] at hv
  subst hv
  obtain ⟨Ap, cp, hv, p1, p2, p3, prow⟩ := hps
  simp only [List.cons.injEq, and_true] at hv
  subst hv
  have HO := Lib.hid orow
  have HP := Lib.hid prow
  clear orow prow
  have ol : os.length ≤ 9223372036854775807 := by unfold maxLen at o2; omega
  have pl : ps.length ≤ 9223372036854775807 := by unfold maxLen at p2; omega
  clear o1 o2 o3 p1 p2 p3
  go_enter Tryd.func5, Tryd.ntmps5
  by_cases h1 : 2147483647 < os.length
  · have d1 : decide ((2147483647 : Int) < (os.length : Int)) = true := by simp; omega
    go_wp2
    go_ret
    exact ⟨rfl, Ext.refl w⟩
  have d1 : decide ((2147483647 : Int) < (os.length : Int)) = false := by simp; omega
  by_cases h2 : 2147483647 < ps.length
  · have d2 : decide ((2147483647 : Int) < (ps.length : Int)) = true := by simp; omega
    go_wp2
    go_ret
    exact ⟨rfl, Ext.refl w⟩
  have d2 : decide ((2147483647 : Int) < (ps.length : Int)) = false := by simp; omega
  by_cases h3 : n < 1
  · have d3 : decide (n < 1) = true := by simpa using h3
    go_wp2
    go_ret
    exact ⟨rfl, Ext.refl w⟩
  have d3 : decide (n < 1) = false := by simpa using h3
  by_cases h4 : 9 < n
  · have d4 : decide (9 < n) = true := by simpa using h4
    go_wp2
    go_ret
    exact ⟨rfl, Ext.refl w⟩
  have d4 : decide (9 < n) = false := by simpa using h4
  by_cases h5 : m < 1
  · have d5 : decide (m < 1) = true := by simpa using h5
    go_wp2
    go_ret
    exact ⟨rfl, Ext.refl w⟩
  have d5 : decide (m < 1) = false := by simpa using h5
  by_cases h6 : 9000 < m
  · have d6 : decide (9000 < m) = true := by simpa using h6
    go_wp2
    go_ret
    exact ⟨rfl, Ext.refl w⟩
  have d6 : decide (9000 < m) = false := by simpa using h6
  obtain ⟨n, rfl⟩ := Int.eq_ofNat_of_zero_le (by omega : 0 ≤ n)
  by_cases h7 : os.length < n
  · have d7 : decide ((os.length : Int) < (n : Int)) = true := by simp; omega
    go_wp2
    go_ret
    exact ⟨rfl, Ext.refl w⟩
  have d7 : decide ((os.length : Int) < (n : Int)) = false := by simp; omega
  by_cases h8 : ps.length < n
  · have d8 : decide ((ps.length : Int) < (n : Int)) = true := by simp; omega
    go_wp2
    go_ret
    exact ⟨rfl, Ext.refl w⟩
  have d8 : decide ((ps.length : Int) < (n : Int)) = false := by simp; omega
  go_wp2_with fail
  refine (verFirst_any n m w (by omega) (by omega) (by omega) (by omega)).mono ?_
  rintro e w1 ⟨ba, cap, rm, rfl, hba, KS, hcap, hcm, E1⟩
  clear d1 d2 d3 d4 d5 d6 d7 d8 h1 h2
  go_wp2_with (refine wpList_ints rfl (.tmp 54) (.tmp 54) rfl n (by omega) rfl rfl ?_)
  obtain ⟨w2, hw2⟩ : ∃ w2, w2 = (w1.alloc (.cells (gdCells (firstG m n) (some ⟨ba, 0, none⟩) n cap).toArray 24)).alloc (.cells (List.replicate n (iV 0)).toArray 3) := ⟨_, rfl⟩
  have E2 : Ext w1 w2 := by rw [hw2]; exact ((Ext.refl w1).alloc _).alloc _
  have KV : Blk w2 w1.heap.size 24 (gdCells (firstG m n) (some ⟨ba, 0, none⟩) n cap) := by rw [hw2]; exact (Blk.new w1 _ _).ext ((Ext.refl _).alloc _)
  have KL : Blk w2 (w1.heap.size + 1) 3 (fill 0 n) := by
    rw [hw2]
    have := Blk.new (w1.alloc (.cells (gdCells (firstG m n) (some ⟨ba, 0, none⟩) n cap).toArray 24)) 3 (List.replicate n (iV 0))
    rw [World.size_alloc] at this
    exact this
  have hs2 : w2.heap.size = w1.heap.size + 1 + 1 := by rw [hw2]; simp
  change Code.wp _ _ _ _ ((w1.alloc (.cells (gdCells (firstG m n) (some ⟨ba, 0, none⟩) n cap).toArray 24)).alloc (.cells (List.replicate n (iV 0)).toArray 3))
  rw [← hw2]
  clear hw2
  have KS2 := KS.ext E2
  have E02 := E1.trans E2
  have hb1 : w.heap.size ≤ w1.heap.size := E1.size
  have hba1 : ba < w1.heap.size := KS.lt
  generalize hb9 : w1.heap.size = b9 at *
  go_loopw [58] (fun u wr => ∃ k : Nat, u = .int .i64 k ∧ k ≤ n ∧ Hid (Blk wr (b9 + 1) 3 (fill k n)) ∧ ExtX (fun j => j = b9 + 1) w2 wr) (fun u _ => n - (intOf u).toNat)
  case atStart => exact ⟨0, rfl, Nat.zero_le _, Lib.hid KL, ExtX.refl _ _⟩
  case round =>
    obtain ⟨k, rfl, hk, hF, hE⟩ := hrel
    by_cases hlt : k < n
    · have hfl := fill_len (Nat.le_of_lt hlt)
      go_wp2_with (refine wpList_store (off := k) (b := b9 + 1) (val := iV k) (vs := [iV k]) rfl rfl (.tmp 64) (.tmp 63) 3 rfl (by first | rfl | (go_simp; try rfl)) rfl rfl hF.out rfl (by rw [hfl]; simp only [List.length_cons, List.length_nil]; omega) rfl ?_; intro w4 K4 x4)
      have K4' : Blk w4 (b9 + 1) 3 (over k [iV k] (fill k n)) := K4
      rw [fill_step hlt] at K4'
      go_roundw
      case rel => exact ⟨k + 1, by go_num, by omega, Lib.hid K4', hE.trans x4⟩
      case measure => simp [intOf]; omega
    · obtain rfl : k = n := by omega
      have K9 := KV.extX hE (by omega)
      have KS9 := KS2.extX hE (by omega)
      have E9 : Ext w wr := ((E02.toX _).trans hE).toExt (fun q hq => by have hq : q = b9 + 1 := hq; omega)
      have KL9 := hF.out
      rw [fill_all] at KL9
      clear hE hF KV KL KS KS2 E02 E1 E2
      have hst : Hid (RollSt m k b9 ba cap rm w wr (List.replicate k (old m)) (List.range k)) := by
        have hs : stood m (List.range k) = old m := by
          unfold stood
          rw [if_neg (by intro h; have := congrArg List.length h; simp at this; omega)]
        refine Lib.hid ⟨Rolling.start m k, ?_, KS9, ⟨[], by rw [List.append_nil]; exact KL9, by simp⟩, E9⟩
        rw [hs]
        exact K9
      clear K9 KS9 KL9 E9
      go_wp2_with fail
      go_loopw [10, 67] (fun l i wr => ∃ (q : Nat) (ms : List ByteArray) (ls : List Nat), l = .slice (some ⟨b9 + 1, 0, none⟩) ls.length k ∧ i = .int .i64 q ∧ q + ls.length = k ∧ Hid (RollSt m k b9 ba cap rm w wr ms ls)) (fun _ i _ => k - (intOf i).toNat)
      case atStart => exact ⟨0, _, List.range k, by rw [List.length_range], rfl, by rw [List.length_range]; omega, hst⟩
      case round =>
        clear hst
        rename_i wx _
        obtain ⟨q, ms, ls, rfl, rfl, hq, hst⟩ := hrel
        obtain ⟨hroll, hK, hS, ⟨rl, hI, hrl⟩, hE⟩ := hst.out
        clear hst
        by_cases hlt : q < k
        · have hqo : q < os.length := by omega
          have hqp : q < ps.length := by omega
          obtain ⟨o, ho⟩ : ∃ o, os[q]? = some o := ⟨_, List.getElem?_eq_getElem (by omega)⟩
          obtain ⟨p, hp⟩ : ∃ p, ps[q]? = some p := ⟨_, List.getElem?_eq_getElem (by omega)⟩
          obtain ⟨bo, oo, rfl, _⟩ := HO.out.addr (List.ne_nil_of_length_pos (by omega))
          obtain ⟨bp, op, rfl, _⟩ := HP.out.addr (List.ne_nil_of_length_pos (by omega))
          obtain ⟨c1, wo⟩ := int_at HO.out rfl ho hE
          obtain ⟨c2, wp⟩ := int_at HP.out rfl hp hE
          clear ho hp
          by_cases g1 : o < 0
          · have d1 : decide (o < 0) = true := by simpa using g1
            go_wp2
            go_ret
            exact ⟨rfl, hE⟩
          have d1 : decide (o < 0) = false := by simpa using g1
          by_cases g2 : p < 0
          · have d2 : decide (p < 0) = true := by simpa using g2
            go_wp2
            go_ret
            exact ⟨rfl, hE⟩
          have d2 : decide (p < 0) = false := by simpa using g2
          by_cases g3 : 9999 < p
          · have d3 : decide (9999 < p) = true := by simpa using g3
            go_wp2
            go_ret
            exact ⟨rfl, hE⟩
          have d3 : decide (9999 < p) = false := by simpa using g3
          obtain ⟨o, rfl⟩ := Int.eq_ofNat_of_zero_le (by omega : 0 ≤ o)
          obtain ⟨r, hr⟩ : ∃ r, o % ls.length = r := ⟨_, rfl⟩
          have hrl1 : r < ls.length := by rw [← hr]; exact Nat.mod_lt _ (by omega)
          replace hr := Lib.hid hr
          obtain ⟨j, hj⟩ : ∃ j, ls[r]? = some j := ⟨_, List.getElem?_eq_getElem hrl1⟩
          have hjk : j < k := hroll.lt (List.mem_of_getElem? hj)
          have cl : wr.cell? ⟨b9 + 1, r, none⟩ = some (.int .i64 (j : Int)) := hI.cell (by rw [List.getElem?_append_left (by rw [List.length_map]; exact hrl1), List.getElem?_map, hj]; rfl)
          have hroll2 := hroll.step hj (by omega : 0 ≤ p) (by omega)
          have hstood : stood m ls = old m := by
            unfold stood
            rw [if_neg (by intro h; rw [h] at hrl1; simp at hrl1)]
          rw [hstood] at hK
          have hms : ms.length = k := hroll.len
          obtain ⟨s0, s1, s2, s3, s4, s5⟩ := gd_load hK
          have HROLL := Lib.hid hroll
          have HJ := Lib.hid hj
          clear hroll hj hstood
          go_wp2_with fail
          change Code.wp _ _ _ _ wr
          rw [show ((o : Int) % (ls.length : Int)) = ((r : Nat) : Int) from by rw [← hr.out]; rfl]
          refine wp_region_sched (ops := ops_5_18) Ext [15] (.quiet 0 (.quiet 1 (.quiet 2 (.quiet 3 (.quiet 4 (.quiet 5 (.quiet 6 (.quiet 7 (.quiet 8 (.quiet 9 (.quiet 10 (.quiet 11 (.quiet 12 (.loud 13 (.quiet 14 (.last 15 (.done))) (.stop))))))))))))))) (by kernel_rfl) ext_refl ext_trans (by kernel_rfl) (fun _ _ d _ _ h => by cases d <;> exact h) ?_
          refine wpS_quiet (some 96) { dst := some 96, op := Op.fieldAddr 24 (Operand.tmp 9) 5, type := _, pos := _, after := _, guard := none } _ rfl rfl (by rfl) (fun wE hE => by (go_simp; try with_reducible rfl)) ?_; simp only [Act.put, List.setIfInBounds_toArray, List.set_cons_zero, List.set_cons_succ]
          refine wpS_quiet (some 97) { dst := some 97, op := Op.load 22 (Operand.tmp 96), type := _, pos := _, after := _, guard := none } _ rfl rfl (by rfl) (fun wE hE => by (have zk0 := hE.cellS s5; have zk1 := hE.cellS cl; have zk2 := hE.cellS c2; go_simp; try with_reducible rfl)) ?_; simp only [Act.put, List.setIfInBounds_toArray, List.set_cons_zero, List.set_cons_succ]
          refine wpS_quiet (some 98) { dst := some 98, op := Op.move (Operand.tmp 10), type := _, pos := _, after := _, guard := none } _ rfl rfl (by rfl) (fun wE hE => by (go_simp; try with_reducible rfl)) ?_; simp only [Act.put, List.setIfInBounds_toArray, List.set_cons_zero, List.set_cons_succ]
          refine wpS_quiet (some 99) { dst := some 99, op := Op.move (Operand.tmp 13), type := _, pos := _, after := _, guard := none } _ rfl rfl (by rfl) (fun wE hE => by (go_simp; try with_reducible rfl)) ?_; simp only [Act.put, List.setIfInBounds_toArray, List.set_cons_zero, List.set_cons_succ]
          refine wpS_quiet (some 100) { dst := some 100, op := Op.indexAddr 35 (Operand.tmp 98) (Operand.tmp 99), type := _, pos := _, after := _, guard := none } _ rfl rfl (by rfl) (fun wE hE => by (go_simp; try with_reducible rfl)) ?_; simp only [Act.put, List.setIfInBounds_toArray, List.set_cons_zero, List.set_cons_succ]
          refine wpS_quiet (some 101) { dst := some 101, op := Op.load 3 (Operand.tmp 100), type := _, pos := _, after := _, guard := none } _ rfl rfl (by rfl) (fun wE hE => by (have zk0 := hE.cellS s5; have zk1 := hE.cellS cl; have zk2 := hE.cellS c2; go_simp; try with_reducible rfl)) ?_; simp only [Act.put, List.setIfInBounds_toArray, List.set_cons_zero, List.set_cons_succ]
          refine wpS_quiet (some 102) { dst := some 102, op := Op.move (Operand.tmp 1), type := _, pos := _, after := _, guard := none } _ rfl rfl (by rfl) (fun wE hE => by (go_simp; try with_reducible rfl)) ?_; simp only [Act.put, List.setIfInBounds_toArray, List.set_cons_zero, List.set_cons_succ]
          refine wpS_quiet (some 103) { dst := some 103, op := Op.binOp BinOp.add 2 (Operand.tmp 102) (Operand.const (Value.int IntKind.i64 1)) 2, type := _, pos := _, after := _, guard := none } _ rfl rfl (by rfl) (fun wE hE => by (go_simp; try with_reducible rfl)) ?_; simp only [Act.put, List.setIfInBounds_toArray, List.set_cons_zero, List.set_cons_succ]
          refine wpS_quiet (some 104) { dst := some 104, op := Op.move (Operand.tmp 3), type := _, pos := _, after := _, guard := none } _ rfl rfl (by rfl) (fun wE hE => by (go_simp; try with_reducible rfl)) ?_; simp only [Act.put, List.setIfInBounds_toArray, List.set_cons_zero, List.set_cons_succ]
          refine wpS_quiet (some 105) { dst := some 105, op := Op.move (Operand.tmp 12), type := _, pos := _, after := _, guard := none } _ rfl rfl (by rfl) (fun wE hE => by (go_simp; try with_reducible rfl)) ?_; simp only [Act.put, List.setIfInBounds_toArray, List.set_cons_zero, List.set_cons_succ]
          refine wpS_quiet (some 106) { dst := some 106, op := Op.indexAddr 36 (Operand.tmp 104) (Operand.tmp 105), type := _, pos := _, after := _, guard := none } _ rfl rfl (by rfl) (fun wE hE => by (go_simp; try with_reducible rfl)) ?_; simp only [Act.put, List.setIfInBounds_toArray, List.set_cons_zero, List.set_cons_succ]
          refine wpS_quiet (some 107) { dst := some 107, op := Op.load 2 (Operand.tmp 106), type := _, pos := _, after := _, guard := none } _ rfl rfl (by rfl) (fun wE hE => by (have zk0 := hE.cellS s5; have zk1 := hE.cellS cl; have zk2 := hE.cellS c2; go_simp; try with_reducible rfl)) ?_; simp only [Act.put, List.setIfInBounds_toArray, List.set_cons_zero, List.set_cons_succ]
          refine wpS_quiet (some 108) { dst := some 108, op := Op.build 26 #[(0, Operand.const (Value.int IntKind.i64 3)), (1, Operand.tmp 103), (2, Operand.tmp 107)], type := _, pos := _, after := _, guard := none } _ rfl rfl (by rfl) (fun wE hE => by (go_simp; try with_reducible rfl)) ?_; simp only [Act.put, List.setIfInBounds_toArray, List.set_cons_zero, List.set_cons_succ]
          obtain ⟨tx, htx⟩ : ∃ tx, vt (newV m p) = tx := ⟨_, rfl⟩
          have hwm : IntKind.i64.wrap (m + 1) = m + 1 := by rw [IntKind.wrap_i64]; omega
          refine wpS_call (some 109) { dst := some 109, op := Op.call { callee := Callee.value (Operand.func 19), args := #[Operand.tmp 108], argTypes := #[26] }, type := _, pos := _, after := _, guard := none } 19 _ rfl rfl (by rfl) (by go_simp; try first | with_reducible rfl | exact ⟨rfl, rfl⟩) ?_
          rw [hwm]; refine (verText_any (newV m p) (newV_ok (by omega) (by omega) (by omega) (by omega)) _).mono ?_; rintro e w4 ⟨rfl, f4⟩; rw [htx]; refine ⟨_, rfl, f4, ?_⟩; simp only [Act.put, List.setIfInBounds_toArray, List.set_cons_zero, List.set_cons_succ]
          replace htx := Lib.hid htx
          refine wpS_quiet (some 110) { dst := some 110, op := Op.indexAddr 22 (Operand.tmp 97) (Operand.tmp 101), type := _, pos := _, after := _, guard := none } _ rfl rfl (by rfl) (fun wE hE => by (go_simp; try with_reducible rfl)) ?_; simp only [Act.put, List.setIfInBounds_toArray, List.set_cons_zero, List.set_cons_succ]
          have KS4 := hS.ext f4.undrew
          refine wpS_store none { dst := none, op := Op.store 9 (Operand.tmp 110) (Operand.tmp 109), type := _, pos := _, after := _, guard := none } rfl rfl (by rfl) (b := ba) (off := j) (val := .string tx) (vs := [.string tx]) (.tmp 110) (.tmp 109) 9 rfl rfl rfl rfl KS4 rfl (by simp; omega) rfl ?_
          intro w5 K5 x5
          simp only [Act.put, List.setIfInBounds_toArray, List.set_cons_zero, List.set_cons_succ]
          change Exit.then _ _ _ _ _
          rw [over_strs _ _ _ _ (by omega)] at K5
          have K5' : Blk w5 b9 24 (gdCells (rollG m ms (old m) (old m)) (some ⟨ba, 0, none⟩) k cap) := (hK.ext f4.undrew).extX x5 (by omega)
          have I5 := (hI.ext f4.undrew).extX x5 (by omega)
          have E5 : Ext w w5 := ((hE.trans f4.undrew).toX (fun q => q = ba)).trans x5 |>.toExt (fun q hq => by have hq : q = ba := hq; omega)
          rw [htx.out] at hroll2
          generalize hms' : ms.set j tx = ms' at *
          replace hms' := Lib.hid hms'
          have r1 := fun w => run_sliceAt_to (P := Tryd.prog) Tryd.underlying35 infoIsz (some ⟨b9 + 1, 0, none⟩) ls.length k r (by omega) w
          have r2 := fun w => run_sliceAt_from (P := Tryd.prog) Tryd.underlying35 infoIsz (some ⟨b9 + 1, 0, none⟩) ls.length k (r + 1) (by omega) w
          obtain ⟨A2, hA2⟩ : ∃ A2, (if k = r + 1 then some (⟨b9 + 1, 0, none⟩ : Addr) else (some (⟨b9 + 1, 0, none⟩ : Addr)).map (·.add ((r + 1) * 1))) = A2 := ⟨_, rfl⟩
          rw [hA2] at r2
          simp only [Int.natCast_add, Int.natCast_one] at r2
          obtain ⟨w7, rl', r7, I7, hl7, x7⟩ := run_delete (w := w5.drew) I5 hrl hrl1 hA2
          replace hA2 := Lib.hid hA2
          generalize hL' : ls.take r ++ ls.drop (r + 1) = L' at *
          replace hL' := Lib.hid hL'
          clear s0 s1 s2 s3 s4 s5 c1 c2 cl d1 d2 d3
          have HROLL2 := Lib.hid hroll2
          clear hroll2 hK
          go_wp2_with fail
          change Code.wp _ _ _ _ w5
          have hwr : IntKind.i64.wrap ((r : Int) + 1) = (r : Int) + 1 := by rw [IntKind.wrap_i64]; omega
          refine wp_region_sched (ops := ops_5_19) (ExtX (fun k => k = b9 + 1)) [] (.quiet 0 (.quiet 1 (.quiet 2 (.quiet 3 (.quiet 4 (.quiet 5 (.quiet 6 (.loud 7 (.quiet 8 (.done)) (.stop))))))))) (by kernel_rfl) (ExtX.refl (fun k => k = b9 + 1)) (fun _ _ _ => ExtX.trans) (by kernel_rfl) (fun _ _ d _ _ h => by cases d <;> exact h) ?_
          refine wpS_quiet (some 111) { dst := some 111, op := Op.move (Operand.tmp 10), type := _, pos := _, after := _, guard := none } _ rfl rfl (by rfl) (fun wE hE => by (go_simp; try with_reducible rfl)) ?_; simp only [Act.put, List.setIfInBounds_toArray, List.set_cons_zero, List.set_cons_succ]
          refine wpS_quiet (some 112) { dst := some 112, op := Op.move (Operand.tmp 13), type := _, pos := _, after := _, guard := none } _ rfl rfl (by rfl) (fun wE hE => by (go_simp; try with_reducible rfl)) ?_; simp only [Act.put, List.setIfInBounds_toArray, List.set_cons_zero, List.set_cons_succ]
          refine wpS_quiet (some 113) { dst := some 113, op := Op.slice 35 (Operand.tmp 111) none (some (Operand.tmp 112)) none, type := _, pos := _, after := _, guard := none } _ rfl rfl (by rfl) (fun wE hE => by (go_simp; try with_reducible rfl)) ?_; simp only [Act.put, List.setIfInBounds_toArray, List.set_cons_zero, List.set_cons_succ]
          refine wpS_quiet (some 114) { dst := some 114, op := Op.move (Operand.tmp 10), type := _, pos := _, after := _, guard := none } _ rfl rfl (by rfl) (fun wE hE => by (go_simp; try with_reducible rfl)) ?_; simp only [Act.put, List.setIfInBounds_toArray, List.set_cons_zero, List.set_cons_succ]
          refine wpS_quiet (some 115) { dst := some 115, op := Op.move (Operand.tmp 13), type := _, pos := _, after := _, guard := none } _ rfl rfl (by rfl) (fun wE hE => by (go_simp; try with_reducible rfl)) ?_; simp only [Act.put, List.setIfInBounds_toArray, List.set_cons_zero, List.set_cons_succ]
          refine wpS_quiet (some 116) { dst := some 116, op := Op.binOp BinOp.add 3 (Operand.tmp 115) (Operand.const (Value.int IntKind.i64 1)) 3, type := _, pos := _, after := _, guard := none } _ rfl rfl (by rfl) (fun wE hE => by (go_simp; try with_reducible rfl)) ?_; simp only [Act.put, List.setIfInBounds_toArray, List.set_cons_zero, List.set_cons_succ]
          refine wpS_quiet (some 117) { dst := some 117, op := Op.slice 35 (Operand.tmp 114) (some (Operand.tmp 116)) none none, type := _, pos := _, after := _, guard := none } _ rfl rfl (by rfl) (fun wE hE => by (go_simp; try with_reducible rfl)) ?_; simp only [Act.put, List.setIfInBounds_toArray, List.set_cons_zero, List.set_cons_succ]
          refine wpS_upd (some 118) { dst := some 118, op := Op.call { callee := Callee.builtin Builtin.append, args := #[Operand.tmp 113, Operand.tmp 117], argTypes := #[35, 35] }, type := _, pos := _, after := _, guard := none } rfl rfl (by rfl) ?_ trivial
          refine ⟨_, w7, exec_app (.tmp 113) (.tmp 117) 35 rfl rfl rfl r7, x7, ?_⟩
          simp only [Act.put, List.setIfInBounds_toArray, List.set_cons_zero, List.set_cons_succ]
          refine wpS_quiet (some 10) { dst := some 10, op := Op.assign (Operand.tmp 118), type := _, pos := _, after := _, guard := none } _ rfl rfl (by rfl) (fun wE hE => by (go_simp; try with_reducible rfl)) ?_; simp only [Act.put, List.setIfInBounds_toArray, List.set_cons_zero, List.set_cons_succ]
          change Exit.then _ _ _ _ _
          clear r1 r2 r7
          have K7 : Blk w7 b9 24 (gdCells (rollG m ms' (old m) (old m)) (some ⟨ba, 0, none⟩) k cap) := K5'.extX x7 (by omega)
          have S7 := K5.extX x7 (by omega)
          have E7 : Ext w w7 := ((E5.toX (fun q => q = b9 + 1)).trans x7).toExt (fun q hq => by have hq : q = b9 + 1 := hq; omega)
          obtain ⟨s0, s1, s2, s3, s4, s5⟩ := gd_load K7
          have hml : ms'.length = k := HROLL2.out.len
          have hLk : q + 1 + L'.length = k := by have := hL'.out; rw [← this, List.length_append, List.length_take, List.length_drop]; omega
          go_wp2_with fail
          refine (implDecide_any (rollG m ms' (old m) (old m)) (some ⟨ba, 0, none⟩) k cap w7 hml.symm (by have := strs_slice S7 (by rw [hml]; exact hcap) hcm (fun x hx => by obtain ⟨v, hv, rfl, _⟩ := HROLL2.out.vtx (by omega) (by omega) hx; have := (vtl_len hv); show (vtl v).length ≤ maxLen; unfold maxLen; omega); rw [hml] at this; exact this) (rollG_ok HROLL2.out (by omega) (by omega) (by omega) (old_vtx (by omega) (by omega)) (old_vtx (by omega) (by omega))) (HW.out.ext E7)).mono ?_
          rintro e w8 ⟨l, hl, rfl, E8⟩
          obtain ⟨cx, hcx, hd1, hd1'⟩ := vx_form (by omega : 1 ≤ m) (by omega) L'
          obtain ⟨cy, hcy, hd2, hd2'⟩ := vy_form (by omega : 1 ≤ m) (by omega) L'
          rw [show voteOf (decideD (verOfD (rollG m ms' (old m) (old m)).cluster) l (rollG m ms' (old m) (old m)).down (rollG m ms' (old m) (old m)).tv) = ⟨0, cx, ⟨#[]⟩, false, false, ⟨#[]⟩⟩ from (vote_x HROLL2.out (by omega) (by omega) (by omega) hl _).trans hcx]
          have HCX := Lib.hid hcx
          have HCY := Lib.hid hcy
          have K8 := K7.ext E8
          have S8 := Lib.hid (S7.ext E8)
          have I8 := Lib.hid ((show Blk w7 (b9 + 1) 3 (L'.map iV ++ rl') from I7).ext E8)
          have E08 := E7.trans E8
          obtain ⟨s0, s1, s2, s3, s4, s5⟩ := gd_load (K8.ext ((Ext.refl w8).alloc (.cells #[.int .i64 0, .string cx, .string ⟨#[]⟩, .bool false, .bool false, .string ⟨#[]⟩] 30)))
          clear hcx hcy hl I7 S7 K5 K5' I5 E5 hI hS
          by_cases hL : L' = []
          · clear hd1' hd2'
            have b1 : cx.toList.isEmpty = false := bytes_full (hd1 hL)
            have b2 : cy.toList.isEmpty = false := bytes_full (hd2 hL)
            have dl : ((L'.length : Int) == 0) = true := by (rw [hL]; rfl)
            replace hL := Lib.hid hL
            clear hd1 hd2
            go_wp2_with fail
            refine (voted_any (rollG m ms' (old m) (old m)) ⟨0, cx, ⟨#[]⟩, false, false, ⟨#[]⟩⟩ (some ⟨ba, 0, none⟩) k cap _ rfl rfl).mono ?_
            rintro e w9 ⟨rfl, E9⟩
            rw [← HCX.out, voted_x (by omega) (by omega)]
            have E89 : Ext w8 w9 := ((Ext.refl w8).alloc _).trans E9
            have K9 := K8.ext E89
            clear s0 s1 s2 s3 s4 s5
            go_wp2_with (first
              | (refine wpList_store rfl rfl (.tmp 9) (.tmp 135) 24 rfl rfl rfl rfl K9 rfl (Nat.le_of_ble_eq_true rfl) rfl ?_; intro w10 K10 x10; have K10' : Blk w10 b9 24 (gdCells (rollG m ms' (stood m L') (old m)) (some ⟨ba, 0, none⟩) k cap) := K10; have t0 := K10'.cell (o := 0) rfl; have t1 := K10'.cell (o := 1) rfl; have t2 := K10'.cell (o := 2) rfl; have t3 := K10'.cell (o := 3) rfl; have t4 := K10'.cell (o := 4) rfl; have t5 := K10'.cell (o := 5) rfl)
              | fail)
            have E810 : ExtX (fun q => q = b9) w8 w10 := (E89.toX _).trans x10
            have EW10 : Ext w w10 := ((E08.toX (fun q => q = b9)).trans E810).toExt (fun q hq => by have hq : q = b9 := hq; omega)
            refine (implStorage_any (rollG m ms' (stood m L') (old m)) (some ⟨ba, 0, none⟩) k cap w10 (rollG_ok HROLL2.out (by omega) (by omega) (by omega) (stood_vtx (by omega) (by omega) _) (old_vtx (by omega) (by omega))) (HW.out.ext EW10)).mono ?_
            rintro e w11 ⟨rfl, E11⟩
            rw [show stVote vote0 (storageD (verOfD (rollG m ms' (stood m L') (old m)).cluster) (verOfD (rollG m ms' (stood m L') (old m)).storage)) = ⟨0, ⟨#[]⟩, cy, false, false, ⟨#[]⟩⟩ from (vote_y (by omega) (by omega) L').trans HCY.out]
            have K11 := K10'.ext E11
            obtain ⟨s0, s1, s2, s3, s4, s5⟩ := gd_load (K11.ext ((Ext.refl w11).alloc (.cells #[.int .i64 0, .string ⟨#[]⟩, .string cy, .bool false, .bool false, .string ⟨#[]⟩] 30)))
            clear t0 t1 t2 t3 t4 t5
            go_wp2_with fail
            refine (voted_any (rollG m ms' (stood m L') (old m)) ⟨0, ⟨#[]⟩, cy, false, false, ⟨#[]⟩⟩ (some ⟨ba, 0, none⟩) k cap _ rfl rfl).mono ?_
            rintro e w12 ⟨rfl, E12⟩
            rw [← HCY.out, voted_y (by omega) (by omega)]
            have E1112 : Ext w11 w12 := ((Ext.refl w11).alloc _).trans E12
            have K12 := K11.ext E1112
            clear s0 s1 s2 s3 s4 s5
            go_wp2_with (first
              | (refine wpList_store rfl rfl (.tmp 9) (.tmp 147) 24 rfl rfl rfl rfl K12 rfl (Nat.le_of_ble_eq_true rfl) rfl ?_; intro w13 K13 x13; have K13' : Blk w13 b9 24 (gdCells (rollG m ms' (stood m L') (stood m L')) (some ⟨ba, 0, none⟩) k cap) := K13)
              | fail)
            have E813 : ExtX (fun q => q = b9) w8 w13 := (E810.trans ((E11.trans E1112).toX _)).trans x13
            have EW13 : Ext w w13 := ((E08.toX (fun q => q = b9)).trans E813).toExt (fun q hq => by have hq : q = b9 := hq; omega)
            go_roundw
            case rel => exact ⟨q + 1, ms', L', rfl, by go_num, by omega, Lib.hid ⟨HROLL2.out, K13', S8.out.extX E813 (by omega), ⟨rl', I8.out.extX E813 (by omega), hl7⟩, EW13⟩⟩
            case measure => simp [intOf]; omega
          · have hd1 := hd1'
            have hd2 := hd2'
            clear hd1' hd2'
            have b1 : cx.toList = [] := bytes_empty (hd1 hL)
            have b2 : cy.toList = [] := bytes_empty (hd2 hL)
            have dl : ((L'.length : Int) == 0) = false := by (have := List.length_pos_iff.2 hL; simp; exact hL)
            replace hL := Lib.hid hL
            clear hd1 hd2
            go_wp2_with fail
            refine (voted_any (rollG m ms' (old m) (old m)) ⟨0, cx, ⟨#[]⟩, false, false, ⟨#[]⟩⟩ (some ⟨ba, 0, none⟩) k cap _ rfl rfl).mono ?_
            rintro e w9 ⟨rfl, E9⟩
            rw [← HCX.out, voted_x (by omega) (by omega)]
            have E89 : Ext w8 w9 := ((Ext.refl w8).alloc _).trans E9
            have K9 := K8.ext E89
            clear s0 s1 s2 s3 s4 s5
            go_wp2_with (first
              | (refine wpList_store rfl rfl (.tmp 9) (.tmp 135) 24 rfl rfl rfl rfl K9 rfl (Nat.le_of_ble_eq_true rfl) rfl ?_; intro w10 K10 x10; have K10' : Blk w10 b9 24 (gdCells (rollG m ms' (stood m L') (old m)) (some ⟨ba, 0, none⟩) k cap) := K10; have t0 := K10'.cell (o := 0) rfl; have t1 := K10'.cell (o := 1) rfl; have t2 := K10'.cell (o := 2) rfl; have t3 := K10'.cell (o := 3) rfl; have t4 := K10'.cell (o := 4) rfl; have t5 := K10'.cell (o := 5) rfl)
              | fail)
            have E810 : ExtX (fun q => q = b9) w8 w10 := (E89.toX _).trans x10
            have EW10 : Ext w w10 := ((E08.toX (fun q => q = b9)).trans E810).toExt (fun q hq => by have hq : q = b9 := hq; omega)
            refine (implStorage_any (rollG m ms' (stood m L') (old m)) (some ⟨ba, 0, none⟩) k cap w10 (rollG_ok HROLL2.out (by omega) (by omega) (by omega) (stood_vtx (by omega) (by omega) _) (old_vtx (by omega) (by omega))) (HW.out.ext EW10)).mono ?_
            rintro e w11 ⟨rfl, E11⟩
            rw [show stVote vote0 (storageD (verOfD (rollG m ms' (stood m L') (old m)).cluster) (verOfD (rollG m ms' (stood m L') (old m)).storage)) = ⟨0, ⟨#[]⟩, cy, false, false, ⟨#[]⟩⟩ from (vote_y (by omega) (by omega) L').trans HCY.out]
            have K11 := K10'.ext E11
            obtain ⟨s0, s1, s2, s3, s4, s5⟩ := gd_load (K11.ext ((Ext.refl w11).alloc (.cells #[.int .i64 0, .string ⟨#[]⟩, .string cy, .bool false, .bool false, .string ⟨#[]⟩] 30)))
            clear t0 t1 t2 t3 t4 t5
            go_wp2_with fail
            refine (voted_any (rollG m ms' (stood m L') (old m)) ⟨0, ⟨#[]⟩, cy, false, false, ⟨#[]⟩⟩ (some ⟨ba, 0, none⟩) k cap _ rfl rfl).mono ?_
            rintro e w12 ⟨rfl, E12⟩
            rw [← HCY.out, voted_y (by omega) (by omega)]
            have E1112 : Ext w11 w12 := ((Ext.refl w11).alloc _).trans E12
            have K12 := K11.ext E1112
            clear s0 s1 s2 s3 s4 s5
            go_wp2_with (first
              | (refine wpList_store rfl rfl (.tmp 9) (.tmp 147) 24 rfl rfl rfl rfl K12 rfl (Nat.le_of_ble_eq_true rfl) rfl ?_; intro w13 K13 x13; have K13' : Blk w13 b9 24 (gdCells (rollG m ms' (stood m L') (stood m L')) (some ⟨ba, 0, none⟩) k cap) := K13)
              | fail)
            have E813 : ExtX (fun q => q = b9) w8 w13 := (E810.trans ((E11.trans E1112).toX _)).trans x13
            have EW13 : Ext w w13 := ((E08.toX (fun q => q = b9)).trans E813).toExt (fun q hq => by have hq : q = b9 := hq; omega)
            go_roundw
            case rel => exact ⟨q + 1, ms', L', rfl, by go_num, by omega, Lib.hid ⟨HROLL2.out, K13', S8.out.extX E813 (by omega), ⟨rl', I8.out.extX E813 (by omega), hl7⟩, EW13⟩⟩
            case measure => simp [intOf]; omega
        · obtain rfl : q = k := by omega
          obtain rfl : ls = [] := List.eq_nil_of_length_eq_zero (by omega)
          obtain ⟨s0, s1, s2, s3, s4, s5⟩ := gd_load hK
          have hwm : IntKind.i64.wrap (m + 1) = m + 1 := by rw [IntKind.wrap_i64]; omega
          have HE := Lib.hid hE
          clear hroll hK hS hI hrl hE
          go_wp2_with fail
          refine (verText_any ⟨3, m + 1, 0⟩ (oldV_ok (by omega) (by omega)) wr).mono ?_
          rintro e w3 ⟨rfl, E3⟩
          rw [show vt ⟨3, m + 1, 0⟩ = stood m [] from by unfold stood; rw [if_pos rfl]; rfl]
          have t0 := E3.cellS s0
          have t1 := E3.cellS s1
          have EW3 := HE.out.trans E3
          go_wp2_with fail
          refine (awake_any w3 (HW.out.ext EW3)).mono ?_
          rintro e w4 ⟨rfl, E4⟩
          go_wp2
          go_ret
          exact ⟨rfl, EW3.trans E4⟩
end Go.Proofs.YtdokcengcekfgaaDoor
