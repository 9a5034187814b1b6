/-
  impl.Sets (1 union, 2 intersection, 3 difference, 4 symmetric difference, 6 a superset), and the law's own 'do'.
-/
import Derived.Test.YtfefnflcgkanpaaGreatDoorTf
namespace Go.Proofs.YtfefnflcgkanpaaGreatDoor
open Go.RowKit
set_option linter.unusedSimpArgs false
set_option linter.unusedVariables false

/-- what is in the set that is asked for -/
def inK (kind : Int) (a b : List Int) (x : Int) : Prop :=
  if kind = 1 then x ∈ a ∨ x ∈ b else if kind = 2 then x ∈ a ∧ x ∈ b else if kind = 3 then x ∈ a ∧ x ∉ b else (x ∈ a ∧ x ∉ b) ∨ (x ∈ b ∧ x ∉ a)
def SetsA (kind : Int) (a b : List Int) (w : World) (e : Ending) (w' : World) : Prop :=
  ∃ v l, e = .returned (.tuple #[v, .bool true]) ∧ (Rp.slice Rp.iv).K w' any l [v] ∧ Asc l ∧ (∀ x, x ∈ l ↔ inK kind a b x) ∧ Ext w w'
set_option maxRecDepth 20000 in
set_option maxHeartbeats 1000000 in
theorem sets1 (a b : List Int) (va vb : Value) (w : World) (ha : (Rp.slice Rp.iv).K w any a [va]) (hb : (Rp.slice Rp.iv).K w any b [vb]) (hna : a.length ≤ 1000) (hnb : b.length ≤ 1000) :
    Calls Tryz.prog 6 #[.int .i64 1, va, vb] w (SetsA 1 a b w) := by
  have HA := Lib.hid ha
  have HB := Lib.hid hb
  clear ha hb
  go_enter Tryz.func6, Tryz.ntmps6
  go_wp2_with fail
  refine (setNew_any a va _ HA.out).mono ?_
  rintro e w1 ⟨x, rfl, hx, hX, e1⟩
  have HX := Lib.hid hX
  clear hX
  go_wp2_with fail
  refine (setNew_any b _ _ ((Rp.slice Rp.iv).ext' e1 HB.out)).mono ?_
  rintro e w2 ⟨y, rfl, hy, hY, e2⟩
  have HM1 : Hid (∀ z, z ∈ insAll [] a ↔ z ∈ a) := Lib.hid (fun z => by rw [mem_insAll]; simp)
  have HM2 : Hid (∀ z, z ∈ insAll [] b ↔ z ∈ b) := Lib.hid (fun z => by rw [mem_insAll]; simp)
  have hl1 : (insAll [] a).length ≤ 1000 := Nat.le_trans (nodup_le HX.out.nodup fun z hz => (HM1.out z).1 hz) hna
  have hl2 : (insAll [] b).length ≤ 1000 := Nat.le_trans (nodup_le hY.nodup fun z hz => (HM2.out z).1 hz) hnb
  have E2 := e1.trans e2
  have HX4 := Lib.hid (HX.out.extW e2)
  have HY4 := Lib.hid hY
  clear hY HX e1 e2
  go_wp2_with fail
  refine (unionS_any x y _ _ _ HX4.out HY4.out (by omega) (by omega)).mono ?_
  rintro e w5 ⟨r, rs, rfl, hr, hR, hrs, e5⟩
  have HR := Lib.hid hR
  have HRS := Lib.hid hrs
  have hrl : rs.length ≤ 2000 := by
    have := nodup_le (b := insAll [] a ++ insAll [] b) hR.nodup (fun z hz => by
      have := (hrs z).1 hz
      rw [List.mem_append]
      exact this)
    rw [List.length_append] at this
    omega
  clear hR hrs
  go_wp2_with fail
  refine (sortedS_any r rs _ HR.out hrl).mono ?_
  rintro e w6 ⟨v, l, rfl, hO, hA, hl, e6⟩
  have HO := Lib.hid hO.slice
  have HAs := Lib.hid hA
  have HL := Lib.hid hl
  clear hO hA hl
  go_wp2_with fail
  refine bodyPost_ret (v := .tuple #[v, .bool true]) (by simp [results, Tryz.results6, go_sem]) rfl ?_
  exact ⟨v, l, rfl, HO.out, HAs.out, fun z => by rw [HL.out, HRS.out]; simp only [HM1.out, HM2.out, decide_eq_false_iff_not]; exact Iff.rfl, (E2.trans e5).trans e6⟩
set_option maxRecDepth 20000 in
set_option maxHeartbeats 1000000 in
theorem sets2 (a b : List Int) (va vb : Value) (w : World) (ha : (Rp.slice Rp.iv).K w any a [va]) (hb : (Rp.slice Rp.iv).K w any b [vb]) (hna : a.length ≤ 1000) (hnb : b.length ≤ 1000) :
    Calls Tryz.prog 6 #[.int .i64 2, va, vb] w (SetsA 2 a b w) := by
  have HA := Lib.hid ha
  have HB := Lib.hid hb
  clear ha hb
  go_enter Tryz.func6, Tryz.ntmps6
  go_wp2_with fail
  refine (setNew_any a va _ HA.out).mono ?_
  rintro e w1 ⟨x, rfl, hx, hX, e1⟩
  have HX := Lib.hid hX
  clear hX
  go_wp2_with fail
  refine (setNew_any b _ _ ((Rp.slice Rp.iv).ext' e1 HB.out)).mono ?_
  rintro e w2 ⟨y, rfl, hy, hY, e2⟩
  have HM1 : Hid (∀ z, z ∈ insAll [] a ↔ z ∈ a) := Lib.hid (fun z => by rw [mem_insAll]; simp)
  have HM2 : Hid (∀ z, z ∈ insAll [] b ↔ z ∈ b) := Lib.hid (fun z => by rw [mem_insAll]; simp)
  have hl1 : (insAll [] a).length ≤ 1000 := Nat.le_trans (nodup_le HX.out.nodup fun z hz => (HM1.out z).1 hz) hna
  have hl2 : (insAll [] b).length ≤ 1000 := Nat.le_trans (nodup_le hY.nodup fun z hz => (HM2.out z).1 hz) hnb
  have E2 := e1.trans e2
  have HX4 := Lib.hid (HX.out.extW e2)
  have HY4 := Lib.hid hY
  clear hY HX e1 e2
  go_wp2_with fail
  refine (interS_any x y _ _ _ HX4.out HY4.out (by omega) (by omega)).mono ?_
  rintro e w5 ⟨r, rs, rfl, hr, hR, hrs, e5⟩
  have HR := Lib.hid hR
  have HRS := Lib.hid hrs
  have hrl : rs.length ≤ 2000 := by
    have := nodup_le (b := insAll [] a ++ insAll [] b) hR.nodup (fun z hz => by
      have := (hrs z).1 hz
      rw [List.mem_append]
      exact .inl this.1)
    rw [List.length_append] at this
    omega
  clear hR hrs
  go_wp2_with fail
  refine (sortedS_any r rs _ HR.out hrl).mono ?_
  rintro e w6 ⟨v, l, rfl, hO, hA, hl, e6⟩
  have HO := Lib.hid hO.slice
  have HAs := Lib.hid hA
  have HL := Lib.hid hl
  clear hO hA hl
  go_wp2_with fail
  refine bodyPost_ret (v := .tuple #[v, .bool true]) (by simp [results, Tryz.results6, go_sem]) rfl ?_
  exact ⟨v, l, rfl, HO.out, HAs.out, fun z => by rw [HL.out, HRS.out]; simp only [HM1.out, HM2.out, decide_eq_false_iff_not]; exact Iff.rfl, (E2.trans e5).trans e6⟩
set_option maxRecDepth 20000 in
set_option maxHeartbeats 1000000 in
theorem sets3 (a b : List Int) (va vb : Value) (w : World) (ha : (Rp.slice Rp.iv).K w any a [va]) (hb : (Rp.slice Rp.iv).K w any b [vb]) (hna : a.length ≤ 1000) (hnb : b.length ≤ 1000) :
    Calls Tryz.prog 6 #[.int .i64 3, va, vb] w (SetsA 3 a b w) := by
  have HA := Lib.hid ha
  have HB := Lib.hid hb
  clear ha hb
  go_enter Tryz.func6, Tryz.ntmps6
  go_wp2_with fail
  refine (setNew_any a va _ HA.out).mono ?_
  rintro e w1 ⟨x, rfl, hx, hX, e1⟩
  have HX := Lib.hid hX
  clear hX
  go_wp2_with fail
  refine (setNew_any b _ _ ((Rp.slice Rp.iv).ext' e1 HB.out)).mono ?_
  rintro e w2 ⟨y, rfl, hy, hY, e2⟩
  have HM1 : Hid (∀ z, z ∈ insAll [] a ↔ z ∈ a) := Lib.hid (fun z => by rw [mem_insAll]; simp)
  have HM2 : Hid (∀ z, z ∈ insAll [] b ↔ z ∈ b) := Lib.hid (fun z => by rw [mem_insAll]; simp)
  have hl1 : (insAll [] a).length ≤ 1000 := Nat.le_trans (nodup_le HX.out.nodup fun z hz => (HM1.out z).1 hz) hna
  have hl2 : (insAll [] b).length ≤ 1000 := Nat.le_trans (nodup_le hY.nodup fun z hz => (HM2.out z).1 hz) hnb
  have E2 := e1.trans e2
  have HX4 := Lib.hid (HX.out.extW e2)
  have HY4 := Lib.hid hY
  clear hY HX e1 e2
  go_wp2_with fail
  refine (diffS_any x y _ _ _ HX4.out HY4.out).mono ?_
  rintro e w5 ⟨r, rs, rfl, hr, hR, hrs, e5⟩
  have HR := Lib.hid hR
  have HRS := Lib.hid hrs
  have hrl : rs.length ≤ 2000 := by
    have := nodup_le (b := insAll [] a ++ insAll [] b) hR.nodup (fun z hz => by
      have := (hrs z).1 hz
      rw [List.mem_append]
      exact .inl this.1)
    rw [List.length_append] at this
    omega
  clear hR hrs
  go_wp2_with fail
  refine (sortedS_any r rs _ HR.out hrl).mono ?_
  rintro e w6 ⟨v, l, rfl, hO, hA, hl, e6⟩
  have HO := Lib.hid hO.slice
  have HAs := Lib.hid hA
  have HL := Lib.hid hl
  clear hO hA hl
  go_wp2_with fail
  refine bodyPost_ret (v := .tuple #[v, .bool true]) (by simp [results, Tryz.results6, go_sem]) rfl ?_
  exact ⟨v, l, rfl, HO.out, HAs.out, fun z => by rw [HL.out, HRS.out]; simp only [HM1.out, HM2.out, decide_eq_false_iff_not]; exact Iff.rfl, (E2.trans e5).trans e6⟩
set_option maxRecDepth 20000 in
set_option maxHeartbeats 1000000 in
theorem sets4 (a b : List Int) (va vb : Value) (w : World) (ha : (Rp.slice Rp.iv).K w any a [va]) (hb : (Rp.slice Rp.iv).K w any b [vb]) (hna : a.length ≤ 1000) (hnb : b.length ≤ 1000) :
    Calls Tryz.prog 6 #[.int .i64 4, va, vb] w (SetsA 4 a b w) := by
  have HA := Lib.hid ha
  have HB := Lib.hid hb
  clear ha hb
  go_enter Tryz.func6, Tryz.ntmps6
  go_wp2_with fail
  refine (setNew_any a va _ HA.out).mono ?_
  rintro e w1 ⟨x, rfl, hx, hX, e1⟩
  have HX := Lib.hid hX
  clear hX
  go_wp2_with fail
  refine (setNew_any b _ _ ((Rp.slice Rp.iv).ext' e1 HB.out)).mono ?_
  rintro e w2 ⟨y, rfl, hy, hY, e2⟩
  have HM1 : Hid (∀ z, z ∈ insAll [] a ↔ z ∈ a) := Lib.hid (fun z => by rw [mem_insAll]; simp)
  have HM2 : Hid (∀ z, z ∈ insAll [] b ↔ z ∈ b) := Lib.hid (fun z => by rw [mem_insAll]; simp)
  have hl1 : (insAll [] a).length ≤ 1000 := Nat.le_trans (nodup_le HX.out.nodup fun z hz => (HM1.out z).1 hz) hna
  have hl2 : (insAll [] b).length ≤ 1000 := Nat.le_trans (nodup_le hY.nodup fun z hz => (HM2.out z).1 hz) hnb
  have E2 := e1.trans e2
  have HX4 := Lib.hid (HX.out.extW e2)
  have HY4 := Lib.hid hY
  clear hY HX e1 e2
  go_wp2_with fail
  refine (symS_any x y _ _ _ HX4.out HY4.out (by omega) (by omega)).mono ?_
  rintro e w5 ⟨r, rs, rfl, hr, hR, hrs, e5⟩
  have HR := Lib.hid hR
  have HRS := Lib.hid hrs
  have hrl : rs.length ≤ 2000 := by
    have := nodup_le (b := insAll [] a ++ insAll [] b) hR.nodup (fun z hz => by
      have := (hrs z).1 hz
      rw [List.mem_append]
      exact this.elim (fun h => .inl h.1) (fun h => .inr h.1))
    rw [List.length_append] at this
    omega
  clear hR hrs
  go_wp2_with fail
  refine (sortedS_any r rs _ HR.out hrl).mono ?_
  rintro e w6 ⟨v, l, rfl, hO, hA, hl, e6⟩
  have HO := Lib.hid hO.slice
  have HAs := Lib.hid hA
  have HL := Lib.hid hl
  clear hO hA hl
  go_wp2_with fail
  refine bodyPost_ret (v := .tuple #[v, .bool true]) (by simp [results, Tryz.results6, go_sem]) rfl ?_
  exact ⟨v, l, rfl, HO.out, HAs.out, fun z => by rw [HL.out, HRS.out]; simp only [HM1.out, HM2.out, decide_eq_false_iff_not]; exact Iff.rfl, (E2.trans e5).trans e6⟩
set_option maxRecDepth 20000 in
set_option maxHeartbeats 1000000 in
theorem sets6 (a b : List Int) (va vb : Value) (w : World) (ha : (Rp.slice Rp.iv).K w any a [va]) (hb : (Rp.slice Rp.iv).K w any b [vb]) (hna : a.length ≤ 1000) (hnb : b.length ≤ 1000) :
    Calls Tryz.prog 6 #[.int .i64 6, va, vb] w fun e w' => ∃ r : Bool, e = .returned (.tuple #[.slice none 0 0, .bool r]) ∧ (r = true ↔ ∀ x ∈ b, x ∈ a) ∧ Ext w w' := by
  have HA := Lib.hid ha
  have HB := Lib.hid hb
  clear ha hb
  go_enter Tryz.func6, Tryz.ntmps6
  go_wp2_with fail
  refine (setNew_any a va _ HA.out).mono ?_
  rintro e w1 ⟨x, rfl, hx, hX, e1⟩
  have HX := Lib.hid hX
  clear hX
  go_wp2_with fail
  refine (setNew_any b _ _ ((Rp.slice Rp.iv).ext' e1 HB.out)).mono ?_
  rintro e w2 ⟨y, rfl, hy, hY, e2⟩
  have HM1 : Hid (∀ z, z ∈ insAll [] a ↔ z ∈ a) := Lib.hid (fun z => by rw [mem_insAll]; simp)
  have HM2 : Hid (∀ z, z ∈ insAll [] b ↔ z ∈ b) := Lib.hid (fun z => by rw [mem_insAll]; simp)
  have hl1 : (insAll [] a).length ≤ 1000 := Nat.le_trans (nodup_le HX.out.nodup fun z hz => (HM1.out z).1 hz) hna
  have hl2 : (insAll [] b).length ≤ 1000 := Nat.le_trans (nodup_le hY.nodup fun z hz => (HM2.out z).1 hz) hnb
  have E2 := e1.trans e2
  have HX4 := Lib.hid (HX.out.extW e2)
  have HY4 := Lib.hid hY
  clear hY HX e1 e2
  go_wp2_with fail
  refine (superS_any x y _ _ _ HX4.out HY4.out).mono ?_
  rintro e w5 ⟨r, rfl, hr, e5⟩
  have HR := Lib.hid hr
  clear hr
  go_wp2_with fail
  refine bodyPost_ret (v := .tuple #[.slice none 0 0, .bool r]) (by simp [results, Tryz.results6, go_sem]) rfl ?_
  exact ⟨r, rfl, by rw [HR.out]; simp only [HM1.out, HM2.out], E2.trans e5⟩
set_option maxRecDepth 20000 in
theorem do1 (a b : List Int) (va vb : Value) (w : World) (ha : (Rp.slice Rp.iv).K w any a [va]) (hb : (Rp.slice Rp.iv).K w any b [vb]) (hna : a.length ≤ 1000) (hnb : b.length ≤ 1000) :
    Calls Tryz.prog 5 #[.int .i64 1, va, vb] w fun e w' => ∃ v l, e = .returned v ∧ (Rp.slice Rp.iv).K w' any l [v] ∧ Asc l ∧ (∀ x, x ∈ l ↔ inK 1 a b x) ∧ Ext w w' := by
  have HA := Lib.hid ha
  have HB := Lib.hid hb
  clear ha hb
  go_enter Tryz.func5, Tryz.ntmps5
  go_wp2_with fail
  refine (sets1 a b va vb w HA.out HB.out hna hnb).mono ?_
  rintro e w1 ⟨v, l, rfl, h1, h2, h3, e1⟩
  have H1 := Lib.hid h1
  have H2 := Lib.hid h2
  have H3 := Lib.hid h3
  clear h1 h2 h3
  go_wp2_with fail
  go_ret
  exact ⟨v, l, rfl, H1.out, H2.out, H3.out, e1⟩
set_option maxRecDepth 20000 in
theorem do2 (a b : List Int) (va vb : Value) (w : World) (ha : (Rp.slice Rp.iv).K w any a [va]) (hb : (Rp.slice Rp.iv).K w any b [vb]) (hna : a.length ≤ 1000) (hnb : b.length ≤ 1000) :
    Calls Tryz.prog 5 #[.int .i64 2, va, vb] w fun e w' => ∃ v l, e = .returned v ∧ (Rp.slice Rp.iv).K w' any l [v] ∧ Asc l ∧ (∀ x, x ∈ l ↔ inK 2 a b x) ∧ Ext w w' := by
  have HA := Lib.hid ha
  have HB := Lib.hid hb
  clear ha hb
  go_enter Tryz.func5, Tryz.ntmps5
  go_wp2_with fail
  refine (sets2 a b va vb w HA.out HB.out hna hnb).mono ?_
  rintro e w1 ⟨v, l, rfl, h1, h2, h3, e1⟩
  have H1 := Lib.hid h1
  have H2 := Lib.hid h2
  have H3 := Lib.hid h3
  clear h1 h2 h3
  go_wp2_with fail
  go_ret
  exact ⟨v, l, rfl, H1.out, H2.out, H3.out, e1⟩
set_option maxRecDepth 20000 in
theorem do3 (a b : List Int) (va vb : Value) (w : World) (ha : (Rp.slice Rp.iv).K w any a [va]) (hb : (Rp.slice Rp.iv).K w any b [vb]) (hna : a.length ≤ 1000) (hnb : b.length ≤ 1000) :
    Calls Tryz.prog 5 #[.int .i64 3, va, vb] w fun e w' => ∃ v l, e = .returned v ∧ (Rp.slice Rp.iv).K w' any l [v] ∧ Asc l ∧ (∀ x, x ∈ l ↔ inK 3 a b x) ∧ Ext w w' := by
  have HA := Lib.hid ha
  have HB := Lib.hid hb
  clear ha hb
  go_enter Tryz.func5, Tryz.ntmps5
  go_wp2_with fail
  refine (sets3 a b va vb w HA.out HB.out hna hnb).mono ?_
  rintro e w1 ⟨v, l, rfl, h1, h2, h3, e1⟩
  have H1 := Lib.hid h1
  have H2 := Lib.hid h2
  have H3 := Lib.hid h3
  clear h1 h2 h3
  go_wp2_with fail
  go_ret
  exact ⟨v, l, rfl, H1.out, H2.out, H3.out, e1⟩
set_option maxRecDepth 20000 in
theorem do4 (a b : List Int) (va vb : Value) (w : World) (ha : (Rp.slice Rp.iv).K w any a [va]) (hb : (Rp.slice Rp.iv).K w any b [vb]) (hna : a.length ≤ 1000) (hnb : b.length ≤ 1000) :
    Calls Tryz.prog 5 #[.int .i64 4, va, vb] w fun e w' => ∃ v l, e = .returned v ∧ (Rp.slice Rp.iv).K w' any l [v] ∧ Asc l ∧ (∀ x, x ∈ l ↔ inK 4 a b x) ∧ Ext w w' := by
  have HA := Lib.hid ha
  have HB := Lib.hid hb
  clear ha hb
  go_enter Tryz.func5, Tryz.ntmps5
  go_wp2_with fail
  refine (sets4 a b va vb w HA.out HB.out hna hnb).mono ?_
  rintro e w1 ⟨v, l, rfl, h1, h2, h3, e1⟩
  have H1 := Lib.hid h1
  have H2 := Lib.hid h2
  have H3 := Lib.hid h3
  clear h1 h2 h3
  go_wp2_with fail
  go_ret
  exact ⟨v, l, rfl, H1.out, H2.out, H3.out, e1⟩
end Go.Proofs.YtfefnflcgkanpaaGreatDoor
