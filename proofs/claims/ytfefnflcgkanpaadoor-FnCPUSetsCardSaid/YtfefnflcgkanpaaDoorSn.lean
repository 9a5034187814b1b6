/-
  impl.CPUSets; FnCPUSets walked.
-/
import Derived.Test.YtfefnflcgkanpaaDoorSk
namespace Go.Proofs.YtfefnflcgkanpaaDoor
open Go.RowKit Go.Lib
set_option linter.unusedSimpArgs false
set_option linter.unusedVariables false

noncomputable def ops_9_14 : Array Oper := opsAt Tryd.f9 14
/-- what two sets are asked for -/
def SetsAns (kind : Int) (a b : List Int) (w : World) (e : Ending) (w' : World) : Prop :=
  ∃ v is, e = .returned (.tuple #[v, .bool is]) ∧ Ext w w' ∧
    (kind = 1 → ∃ l, (Rp.slice Rp.iv).K w' any l [v] ∧ Asc l ∧ ∀ x, x ∈ l ↔ x ∈ a ∨ x ∈ b) ∧
    (kind = 2 → ∃ l, (Rp.slice Rp.iv).K w' any l [v] ∧ Asc l ∧ ∀ x, x ∈ l ↔ x ∈ a ∧ x ∈ b) ∧
    (kind = 3 → ∃ l, (Rp.slice Rp.iv).K w' any l [v] ∧ Asc l ∧ ∀ x, x ∈ l ↔ x ∈ a ∧ x ∉ b) ∧
    (kind = 4 → (is = true ↔ ∀ x, x ∈ a ↔ x ∈ b)) ∧ (kind = 5 → (is = true ↔ ∀ x ∈ a, x ∈ b)) ∧ (kind = 6 → is = decide (b.getD 0 0 ∈ a))
set_option maxRecDepth 20000 in
set_option maxHeartbeats 1000000 in
theorem cpuSets2 (a b : List Int) (va vb : Value) (w : World) (ha : (Rp.slice Rp.iv).K w any a [va]) (hb : (Rp.slice Rp.iv).K w any b [vb]) (hna : a.length ≤ 300) (hnb : b.length ≤ 300) :
    Calls Tryd.prog 9 #[.int .i64 2, va, vb] w (SetsAns 2 a b w) := by
  have HA := Lib.hid ha
  have HB := Lib.hid hb
  obtain ⟨B, cb, rfl, _, _, hBa⟩ := slice_shape hb
  clear ha hb
  go_enter Tryd.func9, Tryd.ntmps9
  go_wp2_with fail
  refine (new_any a va _ HA.out).mono ?_
  rintro e w1 ⟨x, rfl, hx, hX, e1⟩
  have HX := Lib.hid hX
  clear hX
  go_wp2_with fail
  refine (new_any b _ _ ((Rp.slice Rp.iv).ext' e1 HB.out)).mono ?_
  rintro e w2 ⟨y, rfl, hy, hY, e2⟩
  have HM1 : Hid (∀ z, z ∈ insAll [] a ↔ z ∈ a) := Lib.hid (fun z => by rw [mem_insAll]; simp)
  have HM2 : Hid (∀ z, z ∈ insAll [] b ↔ z ∈ b) := Lib.hid (fun z => by rw [mem_insAll]; simp)
  have hl1 : (insAll [] a).length ≤ 300 := Nat.le_trans (nodup_le HX.out.nodup fun z hz => (HM1.out z).1 hz) hna
  have hl2 : (insAll [] b).length ≤ 300 := Nat.le_trans (nodup_le hY.nodup fun z hz => (HM2.out z).1 hz) hnb
  have E2 := e1.trans e2
  have E4 := (E2.alloc (.cells #[.map (some x)] 34)).alloc (.cells #[.map (some y)] 34)
  have e24 := ((Ext.refl w2).alloc (.cells #[.map (some x)] 34)).alloc (.cells #[.map (some y)] 34)
  have HX4 := Lib.hid ((HX.out.extW e2).extW e24)
  have HY4 := Lib.hid (hY.extW e24)
  clear hY HX e1 e2 E2
  go_wp2_with fail
  refine (inter_any x y _ _ _ HX4.out HY4.out).mono ?_
  rintro e w5 ⟨r, rs, rfl, hr, hR, hrs, e5⟩
  have HR := Lib.hid hR
  have HRS := Lib.hid hrs
  have hrl : rs.length ≤ 300 := Nat.le_trans (nodup_le hR.nodup fun z hz => ((hrs z).1 hz).1) hl1
  clear hR hrs
  go_wp2_with fail
  refine (list_any r rs _ HR.out (by omega)).mono ?_
  rintro e w6 ⟨v, l, rfl, hO, hA, hl, e6⟩
  have HO := Lib.hid hO.slice
  have HAs := Lib.hid hA
  have HL := Lib.hid hl
  clear hO hA hl
  go_wp2_with fail
  refine bodyPost_ret (v := .tuple #[v, .bool true]) (by simp [results, Tryd.results9, go_sem]) rfl ?_
  refine ⟨v, true, rfl, (E4.trans e5).trans e6, (fun h => by cases h), ?_⟩
  exact ⟨fun _ => ⟨l, HO.out, HAs.out, fun z => by rw [HL.out, HRS.out, HM1.out, decide_eq_true_eq, HM2.out]⟩, (fun h => by cases h), (fun h => by cases h), (fun h => by cases h), (fun h => by cases h)⟩
set_option maxRecDepth 20000 in
set_option maxHeartbeats 1000000 in
theorem cpuSets3 (a b : List Int) (va vb : Value) (w : World) (ha : (Rp.slice Rp.iv).K w any a [va]) (hb : (Rp.slice Rp.iv).K w any b [vb]) (hna : a.length ≤ 300) (hnb : b.length ≤ 300) :
    Calls Tryd.prog 9 #[.int .i64 3, va, vb] w (SetsAns 3 a b w) := by
  have HA := Lib.hid ha
  have HB := Lib.hid hb
  obtain ⟨B, cb, rfl, _, _, hBa⟩ := slice_shape hb
  clear ha hb
  go_enter Tryd.func9, Tryd.ntmps9
  go_wp2_with fail
  refine (new_any a va _ HA.out).mono ?_
  rintro e w1 ⟨x, rfl, hx, hX, e1⟩
  have HX := Lib.hid hX
  clear hX
  go_wp2_with fail
  refine (new_any b _ _ ((Rp.slice Rp.iv).ext' e1 HB.out)).mono ?_
  rintro e w2 ⟨y, rfl, hy, hY, e2⟩
  have HM1 : Hid (∀ z, z ∈ insAll [] a ↔ z ∈ a) := Lib.hid (fun z => by rw [mem_insAll]; simp)
  have HM2 : Hid (∀ z, z ∈ insAll [] b ↔ z ∈ b) := Lib.hid (fun z => by rw [mem_insAll]; simp)
  have hl1 : (insAll [] a).length ≤ 300 := Nat.le_trans (nodup_le HX.out.nodup fun z hz => (HM1.out z).1 hz) hna
  have hl2 : (insAll [] b).length ≤ 300 := Nat.le_trans (nodup_le hY.nodup fun z hz => (HM2.out z).1 hz) hnb
  have E2 := e1.trans e2
  have E4 := (E2.alloc (.cells #[.map (some x)] 34)).alloc (.cells #[.map (some y)] 34)
  have e24 := ((Ext.refl w2).alloc (.cells #[.map (some x)] 34)).alloc (.cells #[.map (some y)] 34)
  have HX4 := Lib.hid ((HX.out.extW e2).extW e24)
  have HY4 := Lib.hid (hY.extW e24)
  clear hY HX e1 e2 E2
  go_wp2_with fail
  refine (diff_any x y _ _ _ HX4.out HY4.out).mono ?_
  rintro e w5 ⟨r, rs, rfl, hr, hR, hrs, e5⟩
  have HR := Lib.hid hR
  have HRS := Lib.hid hrs
  have hrl : rs.length ≤ 300 := Nat.le_trans (nodup_le hR.nodup fun z hz => ((hrs z).1 hz).1) hl1
  clear hR hrs
  go_wp2_with fail
  refine (list_any r rs _ HR.out (by omega)).mono ?_
  rintro e w6 ⟨v, l, rfl, hO, hA, hl, e6⟩
  have HO := Lib.hid hO.slice
  have HAs := Lib.hid hA
  have HL := Lib.hid hl
  clear hO hA hl
  go_wp2_with fail
  refine bodyPost_ret (v := .tuple #[v, .bool true]) (by simp [results, Tryd.results9, go_sem]) rfl ?_
  refine ⟨v, true, rfl, (E4.trans e5).trans e6, (fun h => by cases h), ?_⟩
  exact ⟨(fun h => by cases h), fun _ => ⟨l, HO.out, HAs.out, fun z => by rw [HL.out, HRS.out, HM1.out, decide_eq_false_iff_not, HM2.out]⟩, (fun h => by cases h), (fun h => by cases h), (fun h => by cases h)⟩
set_option maxRecDepth 20000 in
set_option maxHeartbeats 1000000 in
theorem cpuSets1 (a b : List Int) (va vb : Value) (w : World) (ha : (Rp.slice Rp.iv).K w any a [va]) (hb : (Rp.slice Rp.iv).K w any b [vb]) (hna : a.length ≤ 300) (hnb : b.length ≤ 300) :
    Calls Tryd.prog 9 #[.int .i64 1, va, vb] w (SetsAns 1 a b w) := by
  have HA := Lib.hid ha
  have HB := Lib.hid hb
  obtain ⟨B, cb, rfl, _, _, hBa⟩ := slice_shape hb
  clear ha hb
  go_enter Tryd.func9, Tryd.ntmps9
  go_wp2_with fail
  refine (new_any a va _ HA.out).mono ?_
  rintro e w1 ⟨x, rfl, hx, hX, e1⟩
  have HX := Lib.hid hX
  clear hX
  go_wp2_with fail
  refine (new_any b _ _ ((Rp.slice Rp.iv).ext' e1 HB.out)).mono ?_
  rintro e w2 ⟨y, rfl, hy, hY, e2⟩
  have HM1 : Hid (∀ z, z ∈ insAll [] a ↔ z ∈ a) := Lib.hid (fun z => by rw [mem_insAll]; simp)
  have HM2 : Hid (∀ z, z ∈ insAll [] b ↔ z ∈ b) := Lib.hid (fun z => by rw [mem_insAll]; simp)
  have hl1 : (insAll [] a).length ≤ 300 := Nat.le_trans (nodup_le HX.out.nodup fun z hz => (HM1.out z).1 hz) hna
  have hl2 : (insAll [] b).length ≤ 300 := Nat.le_trans (nodup_le hY.nodup fun z hz => (HM2.out z).1 hz) hnb
  have E2 := e1.trans e2
  have E4 := (E2.alloc (.cells #[.map (some x)] 34)).alloc (.cells #[.map (some y)] 34)
  have e24 := ((Ext.refl w2).alloc (.cells #[.map (some x)] 34)).alloc (.cells #[.map (some y)] 34)
  have HX4 := Lib.hid ((HX.out.extW e2).extW e24)
  have HY4 := Lib.hid (hY.extW e24)
  clear hY HX e1 e2 E2
  go_wp2_with fail
  have hc5 := (blk_at ((w2.alloc (.cells #[.map (some x)] 34)).alloc (.cells #[.map (some y)] 34)) 34 [.map (some y)] (w2.heap.size + 1 + 1) (by rw [World.size_alloc, World.size_alloc])).cell (o := 0) rfl
  have e5a := (Ext.refl ((w2.alloc (.cells #[.map (some x)] 34)).alloc (.cells #[.map (some y)] 34))).alloc (.cells #[.map (some y)] 34)
  refine (union_any x y (insAll [] a) (insAll [] b) (w2.heap.size + 1 + 1) 0 1 _ (HX4.out.extW e5a) (HY4.out.extW e5a) hc5).mono ?_
  rintro e w5 ⟨r, rs, rfl, hr, hR, hrs, e5⟩
  have HR := Lib.hid hR
  have HRS := Lib.hid hrs
  have hrl : rs.length ≤ 600 := by
    have := nodup_le (b := insAll [] a ++ insAll [] b) hR.nodup (fun z hz => by rw [List.mem_append]; exact (hrs z).1 hz)
    rw [List.length_append] at this
    omega
  clear hR hrs
  go_wp2_with fail
  refine (list_any r rs _ HR.out (by omega)).mono ?_
  rintro e w6 ⟨v, l, rfl, hO, hA, hl, e6⟩
  have HO := Lib.hid hO.slice
  have HAs := Lib.hid hA
  have HL := Lib.hid hl
  clear hO hA hl
  go_wp2_with fail
  refine bodyPost_ret (v := .tuple #[v, .bool true]) (by simp [results, Tryd.results9, go_sem]) rfl ?_
  exact ⟨v, true, rfl, ((E4.alloc _).trans e5).trans e6, fun _ => ⟨l, HO.out, HAs.out, fun z => by rw [HL.out, HRS.out, HM1.out, HM2.out]⟩, (fun h => by cases h), (fun h => by cases h), (fun h => by cases h), (fun h => by cases h), (fun h => by cases h)⟩
set_option maxRecDepth 20000 in
set_option maxHeartbeats 1000000 in
theorem cpuSets4 (a b : List Int) (va vb : Value) (w : World) (ha : (Rp.slice Rp.iv).K w any a [va]) (hb : (Rp.slice Rp.iv).K w any b [vb]) (hna : a.length ≤ 300) (hnb : b.length ≤ 300) :
    Calls Tryd.prog 9 #[.int .i64 4, va, vb] w (SetsAns 4 a b w) := by
  have HA := Lib.hid ha
  have HB := Lib.hid hb
  obtain ⟨B, cb, rfl, _, _, hBa⟩ := slice_shape hb
  clear ha hb
  go_enter Tryd.func9, Tryd.ntmps9
  go_wp2_with fail
  refine (new_any a va _ HA.out).mono ?_
  rintro e w1 ⟨x, rfl, hx, hX, e1⟩
  have HX := Lib.hid hX
  clear hX
  go_wp2_with fail
  refine (new_any b _ _ ((Rp.slice Rp.iv).ext' e1 HB.out)).mono ?_
  rintro e w2 ⟨y, rfl, hy, hY, e2⟩
  have HM1 : Hid (∀ z, z ∈ insAll [] a ↔ z ∈ a) := Lib.hid (fun z => by rw [mem_insAll]; simp)
  have HM2 : Hid (∀ z, z ∈ insAll [] b ↔ z ∈ b) := Lib.hid (fun z => by rw [mem_insAll]; simp)
  have hl1 : (insAll [] a).length ≤ 300 := Nat.le_trans (nodup_le HX.out.nodup fun z hz => (HM1.out z).1 hz) hna
  have hl2 : (insAll [] b).length ≤ 300 := Nat.le_trans (nodup_le hY.nodup fun z hz => (HM2.out z).1 hz) hnb
  have E2 := e1.trans e2
  have E4 := (E2.alloc (.cells #[.map (some x)] 34)).alloc (.cells #[.map (some y)] 34)
  have e24 := ((Ext.refl w2).alloc (.cells #[.map (some x)] 34)).alloc (.cells #[.map (some y)] 34)
  have HX4 := Lib.hid ((HX.out.extW e2).extW e24)
  have HY4 := Lib.hid (hY.extW e24)
  clear hY HX e1 e2 E2
  go_wp2_with fail
  refine (equals_any x y _ _ _ HX4.out HY4.out).mono ?_
  rintro e w5 ⟨r, rfl, hr, e5⟩
  have HR := Lib.hid hr
  clear hr
  go_wp2_with fail
  refine bodyPost_ret (v := .tuple #[.slice none 0 0, .bool r]) (by simp [results, Tryd.results9, go_sem]) rfl ?_
  refine ⟨_, r, rfl, E4.trans e5, (fun h => by cases h), (fun h => by cases h), (fun h => by cases h), ?_⟩
  exact ⟨fun _ => by rw [HR.out]; simp only [HM1.out, HM2.out], (fun h => by cases h), (fun h => by cases h)⟩
set_option maxRecDepth 20000 in
set_option maxHeartbeats 1000000 in
theorem cpuSets5 (a b : List Int) (va vb : Value) (w : World) (ha : (Rp.slice Rp.iv).K w any a [va]) (hb : (Rp.slice Rp.iv).K w any b [vb]) (hna : a.length ≤ 300) (hnb : b.length ≤ 300) :
    Calls Tryd.prog 9 #[.int .i64 5, va, vb] w (SetsAns 5 a b w) := by
  have HA := Lib.hid ha
  have HB := Lib.hid hb
  obtain ⟨B, cb, rfl, _, _, hBa⟩ := slice_shape hb
  clear ha hb
  go_enter Tryd.func9, Tryd.ntmps9
  go_wp2_with fail
  refine (new_any a va _ HA.out).mono ?_
  rintro e w1 ⟨x, rfl, hx, hX, e1⟩
  have HX := Lib.hid hX
  clear hX
  go_wp2_with fail
  refine (new_any b _ _ ((Rp.slice Rp.iv).ext' e1 HB.out)).mono ?_
  rintro e w2 ⟨y, rfl, hy, hY, e2⟩
  have HM1 : Hid (∀ z, z ∈ insAll [] a ↔ z ∈ a) := Lib.hid (fun z => by rw [mem_insAll]; simp)
  have HM2 : Hid (∀ z, z ∈ insAll [] b ↔ z ∈ b) := Lib.hid (fun z => by rw [mem_insAll]; simp)
  have hl1 : (insAll [] a).length ≤ 300 := Nat.le_trans (nodup_le HX.out.nodup fun z hz => (HM1.out z).1 hz) hna
  have hl2 : (insAll [] b).length ≤ 300 := Nat.le_trans (nodup_le hY.nodup fun z hz => (HM2.out z).1 hz) hnb
  have E2 := e1.trans e2
  have E4 := (E2.alloc (.cells #[.map (some x)] 34)).alloc (.cells #[.map (some y)] 34)
  have e24 := ((Ext.refl w2).alloc (.cells #[.map (some x)] 34)).alloc (.cells #[.map (some y)] 34)
  have HX4 := Lib.hid ((HX.out.extW e2).extW e24)
  have HY4 := Lib.hid (hY.extW e24)
  clear hY HX e1 e2 E2
  go_wp2_with fail
  refine (subset_any x y _ _ _ HX4.out HY4.out).mono ?_
  rintro e w5 ⟨r, rfl, hr, e5⟩
  have HR := Lib.hid hr
  clear hr
  go_wp2_with fail
  refine bodyPost_ret (v := .tuple #[.slice none 0 0, .bool r]) (by simp [results, Tryd.results9, go_sem]) rfl ?_
  refine ⟨_, r, rfl, E4.trans e5, (fun h => by cases h), (fun h => by cases h), (fun h => by cases h), ?_⟩
  exact ⟨(fun h => by cases h), fun _ => by rw [HR.out]; simp only [HM1.out, HM2.out], (fun h => by cases h)⟩
set_option maxRecDepth 20000 in
set_option maxHeartbeats 1000000 in
theorem cpuSets6 (a b : List Int) (va vb : Value) (w : World) (ha : (Rp.slice Rp.iv).K w any a [va]) (hb : (Rp.slice Rp.iv).K w any b [vb]) (hna : a.length ≤ 300) (hnb : b.length ≤ 300) (hbn : b ≠ []) :
    Calls Tryd.prog 9 #[.int .i64 6, va, vb] w (SetsAns 6 a b w) := by
  have hbp : 0 < b.length := List.length_pos_iff.2 hbn
  have hKw := Lib.hid (Blk.new w 34 [])
  have HA := Lib.hid ha
  have HB := Lib.hid hb
  obtain ⟨B, cb, rfl, _, _, hBa⟩ := slice_shape hb
  clear ha hb
  go_enter Tryd.func9, Tryd.ntmps9
  go_wp2_with fail
  refine (new_any a va _ HA.out).mono ?_
  rintro e w1 ⟨x, rfl, hx, hX, e1⟩
  have HX := Lib.hid hX
  clear hX
  go_wp2_with fail
  refine (new_any b _ _ ((Rp.slice Rp.iv).ext' e1 HB.out)).mono ?_
  rintro e w2 ⟨y, rfl, hy, hY, e2⟩
  have HM1 : Hid (∀ z, z ∈ insAll [] a ↔ z ∈ a) := Lib.hid (fun z => by rw [mem_insAll]; simp)
  have HM2 : Hid (∀ z, z ∈ insAll [] b ↔ z ∈ b) := Lib.hid (fun z => by rw [mem_insAll]; simp)
  have hl1 : (insAll [] a).length ≤ 300 := Nat.le_trans (nodup_le HX.out.nodup fun z hz => (HM1.out z).1 hz) hna
  have hl2 : (insAll [] b).length ≤ 300 := Nat.le_trans (nodup_le hY.nodup fun z hz => (HM2.out z).1 hz) hnb
  have E2 := e1.trans e2
  have E4 := (E2.alloc (.cells #[.map (some x)] 34)).alloc (.cells #[.map (some y)] 34)
  have e24 := ((Ext.refl w2).alloc (.cells #[.map (some x)] 34)).alloc (.cells #[.map (some y)] 34)
  have HX4 := Lib.hid ((HX.out.extW e2).extW e24)
  have HY4 := Lib.hid (hY.extW e24)
  clear hY HX e1 e2 E2
  obtain ⟨bb, ob, rfl⟩ := hBa hbn
  have cb0 := E4.cellS ((cells_of HB.out).2 0 hbp)
  have K8 : Blk ((w2.alloc (.cells #[.map (some x)] 34)).alloc (.cells #[.map (some y)] 34)) w2.heap.size 34 [.map (some x)] := (Blk.new w2 _ _).ext ((Ext.refl _).alloc _)
  have c8 := K8.cell (o := 0) rfl
  have hd1 : decide ((0 : Int) < (b.length : Int)) = true := by simp; omega
  have hd2 : (0 : Int) < (b.length : Int) := by omega
  generalize hb0 : b.getD 0 0 = b0 at cb0
  replace hb0 := Lib.hid hb0
  obtain ⟨w4, hw4⟩ : ∃ w4, w4 = (w2.alloc (.cells #[.map (some x)] 34)).alloc (.cells #[.map (some y)] 34) := ⟨_, rfl⟩
  go_wp2_with fail
  change Code.wp _ _ _ _ ((w2.alloc (.cells #[.map (some x)] 34)).alloc (.cells #[.map (some y)] 34))
  rw [← hw4] at HX4 HY4 E4 cb0 c8 ⊢
  clear hw4 e24 K8
  simp only [Nat.add_zero] at cb0
  refine wp_region_sched (ops := ops_9_14) Ext [] (.quiet 0 (.quiet 1 (.quiet 2 (.quiet 3 (.quiet 4 (.quiet 5 (.quiet 6 (.quiet 7 (.loud 8 (.quiet 9 (.quiet 10 (.quiet 11 (.done)))) (.stop)))))))))) (by kernel_rfl) ext_refl ext_trans (by kernel_rfl) (fun _ _ d _ _ h => by cases d <;> exact h) ?_
  refine wpS_quiet (some 46) { dst := some 46, op := Op.move (Operand.tmp 2), type := _, pos := _, after := _, guard := none } _ rfl rfl (by rfl) (fun wE hE => by (go_simp; try with_reducible rfl)) ?_; simp only [Act.put, List.setIfInBounds_toArray, List.set_cons_zero, List.set_cons_succ]
  refine wpS_quiet (some 47) { dst := some 47, op := Op.call { callee := Callee.builtin Builtin.len, args := #[Operand.tmp 46], argTypes := #[22] }, type := _, pos := _, after := _, guard := none } _ rfl rfl (by rfl) (fun wE hE => by (go_simp; try with_reducible rfl)) ?_; simp only [Act.put, List.setIfInBounds_toArray, List.set_cons_zero, List.set_cons_succ]
  refine wpS_quiet (some 48) { dst := some 48, op := Op.binOp BinOp.gtr 3 (Operand.tmp 47) (Operand.const (Value.int IntKind.i64 0)) 3, type := _, pos := _, after := _, guard := none } _ rfl rfl (by rfl) (fun wE hE => by (go_simp; try with_reducible rfl)) ?_; simp only [Act.put, List.setIfInBounds_toArray, List.set_cons_zero, List.set_cons_succ]
  refine wpS_quiet (some 49) { dst := some 49, op := Op.move (Operand.tmp 48), type := _, pos := _, after := _, guard := none } _ rfl rfl (by rfl) (fun wE hE => by (go_simp; try with_reducible rfl)) ?_; simp only [Act.put, List.setIfInBounds_toArray, List.set_cons_zero, List.set_cons_succ]
  (first | refine wpS_quiet (some 50) { dst := some 50, op := Op.load 34 (Operand.tmp 8), type := _, pos := _, after := _, guard := some (3, true) } _ rfl rfl (by rfl) (fun wE hE => by (have zk0 := hE.cellS cb0; have zk1 := hE.cellS c8; go_simp; try with_reducible rfl)) ?_ | refine wpS_pass (some 50) _ rfl rfl (by rfl) ?_); simp only [Act.put, List.setIfInBounds_toArray, List.set_cons_zero, List.set_cons_succ]
  (first | refine wpS_quiet (some 51) { dst := some 51, op := Op.move (Operand.tmp 2), type := _, pos := _, after := _, guard := some (3, true) } _ rfl rfl (by rfl) (fun wE hE => by (go_simp; try with_reducible rfl)) ?_ | refine wpS_pass (some 51) _ rfl rfl (by rfl) ?_); simp only [Act.put, List.setIfInBounds_toArray, List.set_cons_zero, List.set_cons_succ]
  (first | refine wpS_quiet (some 52) { dst := some 52, op := Op.indexAddr 22 (Operand.tmp 51) (Operand.const (Value.int IntKind.i64 0)), type := _, pos := _, after := _, guard := some (3, true) } _ rfl rfl (by rfl) (fun wE hE => by (go_simp; try with_reducible rfl)) ?_ | refine wpS_pass (some 52) _ rfl rfl (by rfl) ?_); simp only [Act.put, List.setIfInBounds_toArray, List.set_cons_zero, List.set_cons_succ]
  (first | refine wpS_quiet (some 53) { dst := some 53, op := Op.load 3 (Operand.tmp 52), type := _, pos := _, after := _, guard := some (3, true) } _ rfl rfl (by rfl) (fun wE hE => by (have zk0 := hE.cellS cb0; have zk1 := hE.cellS c8; go_simp; try with_reducible rfl)) ?_ | refine wpS_pass (some 53) _ rfl rfl (by rfl) ?_); simp only [Act.put, List.setIfInBounds_toArray, List.set_cons_zero, List.set_cons_succ]
  refine wpS_call (some 54) { dst := some 54, op := Op.call { callee := Callee.value (Operand.func 24), args := #[Operand.tmp 50, Operand.tmp 53], argTypes := #[34, 3] }, type := _, pos := _, after := _, guard := some (3, true) } 24 _ rfl rfl (by rfl) (by go_simp; try first | with_reducible rfl | exact ⟨rfl, rfl⟩) ?_
  refine (contains_any x _ b0 _ (HX4.out.extW ((Ext.refl w4).drew))).mono ?_; rintro e w5 ⟨rfl, e5⟩; refine ⟨_, rfl, e5, ?_⟩; simp only [Act.put, List.setIfInBounds_toArray, List.set_cons_zero, List.set_cons_succ]
  refine wpS_quiet (some 55) { dst := some 55, op := Op.pick (Operand.tmp 49) (Operand.tmp 54) (Operand.const (Value.bool false)), type := _, pos := _, after := _, guard := none } _ rfl rfl (by rfl) (fun wE hE => by (go_simp; try with_reducible rfl)) ?_; simp only [Act.put, List.setIfInBounds_toArray, List.set_cons_zero, List.set_cons_succ]
  refine wpS_quiet (some 6) { dst := some 6, op := Op.assign (Operand.const (Value.slice none 0 0)), type := _, pos := _, after := _, guard := none } _ rfl rfl (by rfl) (fun wE hE => by (go_simp; try with_reducible rfl)) ?_; simp only [Act.put, List.setIfInBounds_toArray, List.set_cons_zero, List.set_cons_succ]
  refine wpS_quiet (some 7) { dst := some 7, op := Op.assign (Operand.tmp 55), type := _, pos := _, after := _, guard := none } _ rfl rfl (by rfl) (fun wE hE => by (go_simp; try with_reducible rfl)) ?_; simp only [Act.put, List.setIfInBounds_toArray, List.set_cons_zero, List.set_cons_succ]
  change Exit.then _ _ _ _ _
  go_wp2_with fail
  refine bodyPost_ret (v := .tuple #[.slice none 0 0, .bool (decide (b0 ∈ insAll [] a))]) (by simp [results, Tryd.results9, go_sem]) rfl ?_
  exact ⟨_, _, rfl, E4.trans e5.undrew, (fun h => by cases h), (fun h => by cases h), (fun h => by cases h), (fun h => by cases h), (fun h => by cases h), fun _ => by rw [hb0.out]; simp only [HM1.out]⟩
end Go.Proofs.YtfefnflcgkanpaaDoor
