/-
  FnCPUSets walked.
-/
import Derived.Test.YtfefnflcgkanpaaDoorSn
namespace Go.Proofs.YtfefnflcgkanpaaDoor
open Go.RowKit Go.Lib
set_option linter.unusedSimpArgs false
set_option linter.unusedVariables false

theorem both_true {a b : List Int} {f s t : Bool} {l : List Int} (hl : Asc l) (h : ∀ x, x ∈ l ↔ (x ∈ a ∨ x ∈ b) ∧ bothP a b f s t x = true) : (l == bothL a b f s t) = true := by
  rw [beq_iff_eq]
  exact asc_ext hl (bothL_asc a b f s t) fun x => by rw [h, mem_bothL]
theorem both1 {a b : List Int} {x : Int} : (x ∈ a ∨ x ∈ b) ↔ (x ∈ a ∨ x ∈ b) ∧ bothP a b true true true x = true := by
  unfold bothP
  by_cases h1 : x ∈ a <;> by_cases h2 : x ∈ b <;> simp [h1, h2]
theorem both2 {a b : List Int} {x : Int} : (x ∈ a ∧ x ∈ b) ↔ (x ∈ a ∨ x ∈ b) ∧ bothP a b false false true x = true := by
  unfold bothP
  by_cases h1 : x ∈ a <;> by_cases h2 : x ∈ b <;> simp [h1, h2]
theorem both3 {a b : List Int} {x : Int} : (x ∈ a ∧ x ∉ b) ↔ (x ∈ a ∨ x ∈ b) ∧ bothP a b true false false x = true := by
  unfold bothP
  by_cases h1 : x ∈ a <;> by_cases h2 : x ∈ b <;> simp [h1, h2]
theorem both4 {a b : List Int} : (∀ x, x ∈ a ↔ x ∈ b) ↔ ∀ x, x ∈ a ∨ x ∈ b → bothP a b true true false x = false := by
  refine forall_congr' fun x => ?_
  unfold bothP
  by_cases h1 : x ∈ a <;> by_cases h2 : x ∈ b <;> simp [h1, h2]
theorem both5 {a b : List Int} : (∀ x ∈ a, x ∈ b) ↔ ∀ x, x ∈ a ∨ x ∈ b → bothP a b true false false x = false := by
  refine forall_congr' fun x => ?_
  unfold bothP
  by_cases h1 : x ∈ a <;> by_cases h2 : x ∈ b <;> simp [h1, h2]
theorem both_len {a b : List Int} {f s t : Bool} : ((bothL a b f s t).length = 0) ↔ ∀ x, x ∈ a ∨ x ∈ b → bothP a b f s t x = false := by
  rw [List.length_eq_zero_iff, List.eq_nil_iff_forall_not_mem]
  constructor
  · intro h x hx
    cases hb : bothP a b f s t x with
    | false => rfl
    | true => exact absurd (mem_bothL.2 ⟨hx, hb⟩) (h x)
  · intro h x hx
    have := mem_bothL.1 hx
    rw [h x this.1] at this
    simp at this
theorem bothL_len {a b : List Int} {f s t : Bool} (ha : a.length ≤ 300) (hb : b.length ≤ 300) : (bothL a b f s t).length ≤ 600 := by
  unfold bothL
  refine Nat.le_trans (List.length_filter_le _ _) (Nat.le_trans (rising_length _) ?_)
  rw [List.length_append]
  omega
set_option maxRecDepth 20000 in
set_option maxHeartbeats 8000000 in
theorem walk_CPUSets (kind : Int) (a : List Int) (va : Value) (b : List Int) (vb : Value) (w : World) (ha : (Rp.slice Rp.iv).K w any a [va]) (hb : (Rp.slice Rp.iv).K w any b [vb]) (hT : TabOk w) :
    Calls Tryd.prog 4 #[.int .i64 kind, va, vb] w fun e w' => e = .returned (.bool true) ∧ Ext w w' := by
  have HA := Lib.hid ha
  have HB := Lib.hid hb
  have HT := Lib.hid hT
  obtain ⟨A, ca, rfl, hl1, hc1, _⟩ := slice_shape ha
  obtain ⟨B, cb, rfl, hl2, hc2, hBa⟩ := slice_shape hb
  have hN1 : a.length ≤ 9223372036854775807 := Nat.le_trans hl1 hc1
  have hN2 : b.length ≤ 9223372036854775807 := Nat.le_trans hl2 hc2
  clear ha hb hT
  by_cases hA1 : 2147483647 < a.length
  · have hd : decide ((2147483647 : Int) < (a.length : Int)) = true := by simp; omega
    go_enter Tryd.func4, Tryd.ntmps4
    go_wp2_with fail
    go_ret
    exact ⟨rfl, Ext.refl _⟩
  have hd1 : decide ((2147483647 : Int) < (a.length : Int)) = false := by simp; omega
  by_cases hB1 : 2147483647 < b.length
  · have hd : decide ((2147483647 : Int) < (b.length : Int)) = true := by simp; omega
    go_enter Tryd.func4, Tryd.ntmps4
    go_wp2_with fail
    go_ret
    exact ⟨rfl, Ext.refl _⟩
  have hd2 : decide ((2147483647 : Int) < (b.length : Int)) = false := by simp; omega
  cases fa : fewB a (-1099511627776) with
  | false =>
    replace fa := Lib.hid fa
    go_enter Tryd.func4, Tryd.ntmps4
    go_wp2_with fail
    refine (few_any a _ _ w HA.out).mono ?_
    rintro e w1 ⟨rfl, e1⟩
    rw [fa.out]
    go_wp2_with fail
    refine (live_any w1 (HT.out.ext e1)).mono ?_
    rintro e w9 ⟨rfl, e9⟩
    go_wp2_with fail
    go_ret
    exact ⟨rfl, (e1).trans e9⟩
  | true =>
    cases fb : fewB b (-1099511627776) with
    | false =>
      go_enter Tryd.func4, Tryd.ntmps4
      go_wp2_with fail
      refine (few_any a _ _ w HA.out).mono ?_
      rintro e w1 ⟨rfl, e1⟩
      rw [fa]
      go_wp2_with fail
      refine (few_any b _ _ w1 ((Rp.slice Rp.iv).ext' e1 HB.out)).mono ?_
      rintro e w2 ⟨rfl, e2⟩
      rw [fb]
      have E2 := e1.trans e2
      clear e1 e2
      go_wp2_with fail
      refine (live_any w2 (HT.out.ext E2)).mono ?_
      rintro e w9 ⟨rfl, e9⟩
      go_wp2_with fail
      go_ret
      exact ⟨rfl, (E2).trans e9⟩
    | true =>
      obtain ⟨hna, _⟩ := few_true fa
      obtain ⟨hnb, _⟩ := few_true fb
      by_cases k1 : kind < 1
      · have t1 : decide (kind < 1) = true := by simp [k1]
        go_enter Tryd.func4, Tryd.ntmps4
        go_wp2_with fail
        refine (few_any a _ _ w HA.out).mono ?_
        rintro e w1 ⟨rfl, e1⟩
        rw [fa]
        go_wp2_with fail
        refine (few_any b _ _ w1 ((Rp.slice Rp.iv).ext' e1 HB.out)).mono ?_
        rintro e w2 ⟨rfl, e2⟩
        rw [fb]
        have E2 := e1.trans e2
        clear e1 e2
        go_wp2_with fail
        refine (live_any w2 (HT.out.ext E2)).mono ?_
        rintro e w9 ⟨rfl, e9⟩
        go_wp2_with fail
        go_ret
        exact ⟨rfl, (E2).trans e9⟩
      have t1 : decide (kind < 1) = false := by simp [k1]
      by_cases k6 : 6 < kind
      · have t6 : decide (6 < kind) = true := by simp [k6]
        go_enter Tryd.func4, Tryd.ntmps4
        go_wp2_with fail
        refine (few_any a _ _ w HA.out).mono ?_
        rintro e w1 ⟨rfl, e1⟩
        rw [fa]
        go_wp2_with fail
        refine (few_any b _ _ w1 ((Rp.slice Rp.iv).ext' e1 HB.out)).mono ?_
        rintro e w2 ⟨rfl, e2⟩
        rw [fb]
        have E2 := e1.trans e2
        clear e1 e2
        go_wp2_with fail
        refine (live_any w2 (HT.out.ext E2)).mono ?_
        rintro e w9 ⟨rfl, e9⟩
        go_wp2_with fail
        go_ret
        exact ⟨rfl, (E2).trans e9⟩
      have t6 : decide (6 < kind) = false := by simp [k6]
      have hk : kind = 1 ∨ kind = 2 ∨ kind = 3 ∨ kind = 4 ∨ kind = 5 ∨ kind = 6 := by omega
      clear k1 k6 t1 t6
      rcases hk with rfl | rfl | rfl | rfl | rfl | rfl
      · skip
        go_enter Tryd.func4, Tryd.ntmps4
        go_wp2_with fail
        refine (few_any a _ _ w HA.out).mono ?_
        rintro e w1 ⟨rfl, e1⟩
        rw [fa]
        go_wp2_with fail
        refine (few_any b _ _ w1 ((Rp.slice Rp.iv).ext' e1 HB.out)).mono ?_
        rintro e w2 ⟨rfl, e2⟩
        rw [fb]
        have E2 := e1.trans e2
        clear e1 e2
        go_wp2_with fail
        refine (cpuSets1 a b _ _ w2 ((Rp.slice Rp.iv).ext' E2 HA.out) ((Rp.slice Rp.iv).ext' E2 HB.out) hna hnb).mono ?_
        rintro e w3 ⟨v, is, rfl, e3, k1, k2, k3, k4, k5, k6⟩
        obtain ⟨l, hl, hls, hlm⟩ := k1 rfl
        have HLs := Lib.hid hls
        have HLm := Lib.hid hlm
        have HLr := Lib.hid hl
        have E3 := E2.trans e3
        clear k1 k2 k3 k4 k5 k6 hl hls hlm e3
        go_wp2_with fail
        refine (both_any a b _ _ true true true w3 ((Rp.slice Rp.iv).ext' E3 HA.out) ((Rp.slice Rp.iv).ext' E3 HB.out) hna hnb).mono ?_
        rintro e w4 ⟨vb, rfl, hO, e4⟩
        have HO := Lib.hid hO.slice
        clear hO
        go_wp2_with fail
        refine (equal_read l _ v vb w4 ((Rp.slice Rp.iv).ext' e4 HLr.out) HO.out).mono ?_
        rintro e w5 ⟨rfl, e5⟩
        rw [both_true HLs.out (fun z => by rw [HLm.out]; exact both1)]
        go_wp2_with fail
        refine (live_any w5 (HT.out.ext ((E3.trans e4).trans e5))).mono ?_
        rintro e w6 ⟨rfl, e6⟩
        go_wp2_with fail
        go_ret
        exact ⟨rfl, ((E3.trans e4).trans e5).trans e6⟩
      · skip
        go_enter Tryd.func4, Tryd.ntmps4
        go_wp2_with fail
        refine (few_any a _ _ w HA.out).mono ?_
        rintro e w1 ⟨rfl, e1⟩
        rw [fa]
        go_wp2_with fail
        refine (few_any b _ _ w1 ((Rp.slice Rp.iv).ext' e1 HB.out)).mono ?_
        rintro e w2 ⟨rfl, e2⟩
        rw [fb]
        have E2 := e1.trans e2
        clear e1 e2
        go_wp2_with fail
        refine (cpuSets2 a b _ _ w2 ((Rp.slice Rp.iv).ext' E2 HA.out) ((Rp.slice Rp.iv).ext' E2 HB.out) hna hnb).mono ?_
        rintro e w3 ⟨v, is, rfl, e3, k1, k2, k3, k4, k5, k6⟩
        obtain ⟨l, hl, hls, hlm⟩ := k2 rfl
        have HLs := Lib.hid hls
        have HLm := Lib.hid hlm
        have HLr := Lib.hid hl
        have E3 := E2.trans e3
        clear k1 k2 k3 k4 k5 k6 hl hls hlm e3
        go_wp2_with fail
        refine (both_any a b _ _ false false true w3 ((Rp.slice Rp.iv).ext' E3 HA.out) ((Rp.slice Rp.iv).ext' E3 HB.out) hna hnb).mono ?_
        rintro e w4 ⟨vb, rfl, hO, e4⟩
        have HO := Lib.hid hO.slice
        clear hO
        go_wp2_with fail
        refine (equal_read l _ v vb w4 ((Rp.slice Rp.iv).ext' e4 HLr.out) HO.out).mono ?_
        rintro e w5 ⟨rfl, e5⟩
        rw [both_true HLs.out (fun z => by rw [HLm.out]; exact both2)]
        go_wp2_with fail
        refine (live_any w5 (HT.out.ext ((E3.trans e4).trans e5))).mono ?_
        rintro e w6 ⟨rfl, e6⟩
        go_wp2_with fail
        go_ret
        exact ⟨rfl, ((E3.trans e4).trans e5).trans e6⟩
      · skip
        go_enter Tryd.func4, Tryd.ntmps4
        go_wp2_with fail
        refine (few_any a _ _ w HA.out).mono ?_
        rintro e w1 ⟨rfl, e1⟩
        rw [fa]
        go_wp2_with fail
        refine (few_any b _ _ w1 ((Rp.slice Rp.iv).ext' e1 HB.out)).mono ?_
        rintro e w2 ⟨rfl, e2⟩
        rw [fb]
        have E2 := e1.trans e2
        clear e1 e2
        go_wp2_with fail
        refine (cpuSets3 a b _ _ w2 ((Rp.slice Rp.iv).ext' E2 HA.out) ((Rp.slice Rp.iv).ext' E2 HB.out) hna hnb).mono ?_
        rintro e w3 ⟨v, is, rfl, e3, k1, k2, k3, k4, k5, k6⟩
        obtain ⟨l, hl, hls, hlm⟩ := k3 rfl
        have HLs := Lib.hid hls
        have HLm := Lib.hid hlm
        have HLr := Lib.hid hl
        have E3 := E2.trans e3
        clear k1 k2 k3 k4 k5 k6 hl hls hlm e3
        go_wp2_with fail
        refine (both_any a b _ _ true false false w3 ((Rp.slice Rp.iv).ext' E3 HA.out) ((Rp.slice Rp.iv).ext' E3 HB.out) hna hnb).mono ?_
        rintro e w4 ⟨vb, rfl, hO, e4⟩
        have HO := Lib.hid hO.slice
        clear hO
        go_wp2_with fail
        refine (equal_read l _ v vb w4 ((Rp.slice Rp.iv).ext' e4 HLr.out) HO.out).mono ?_
        rintro e w5 ⟨rfl, e5⟩
        rw [both_true HLs.out (fun z => by rw [HLm.out]; exact both3)]
        go_wp2_with fail
        refine (live_any w5 (HT.out.ext ((E3.trans e4).trans e5))).mono ?_
        rintro e w6 ⟨rfl, e6⟩
        go_wp2_with fail
        go_ret
        exact ⟨rfl, ((E3.trans e4).trans e5).trans e6⟩
      · skip
        go_enter Tryd.func4, Tryd.ntmps4
        go_wp2_with fail
        refine (few_any a _ _ w HA.out).mono ?_
        rintro e w1 ⟨rfl, e1⟩
        rw [fa]
        go_wp2_with fail
        refine (few_any b _ _ w1 ((Rp.slice Rp.iv).ext' e1 HB.out)).mono ?_
        rintro e w2 ⟨rfl, e2⟩
        rw [fb]
        have E2 := e1.trans e2
        clear e1 e2
        go_wp2_with fail
        refine (cpuSets4 a b _ _ w2 ((Rp.slice Rp.iv).ext' E2 HA.out) ((Rp.slice Rp.iv).ext' E2 HB.out) hna hnb).mono ?_
        rintro e w3 ⟨v, is, rfl, e3, k1, k2, k3, k4, k5, k6⟩
        have HK := Lib.hid (k4 rfl)
        have E3 := E2.trans e3
        clear k1 k2 k3 k4 k5 k6 e3
        go_wp2_with fail
        refine (both_any a b _ _ true true false w3 ((Rp.slice Rp.iv).ext' E3 HA.out) ((Rp.slice Rp.iv).ext' E3 HB.out) hna hnb).mono ?_
        rintro e w4 ⟨vb, rfl, hO, e4⟩
        have hlen := bothL_len (f := true) (s := true) (t := false) hna hnb
        obtain ⟨A4, n4, cap4, hv4⟩ := own_shape hO
        obtain ⟨A5, c5, hv5, _, _, _⟩ := slice_shape hO.slice
        rw [hv5]
        have his : Hid (is = decide ((bothL a b true true false).length = 0)) := Lib.hid (by
          rw [Bool.eq_iff_iff, HK.out, decide_eq_true_eq, both_len]
          exact both4)
        obtain ⟨m, hm⟩ : ∃ m, m = (bothL a b true true false).length := ⟨_, rfl⟩
        rw [← hm] at his hlen ⊢
        replace hm := Lib.hid hm
        clear hO hv4 hv5
        have E4 := E3.trans e4
        by_cases hm0 : m = 0
        · obtain rfl : is = true := by rw [his.out]; simp [hm0]
          subst hm0
          go_wp2_with fail
          refine (live_any w4 (HT.out.ext E4)).mono ?_
          rintro e w6 ⟨rfl, e6⟩
          go_wp2_with fail
          go_ret
          exact ⟨rfl, E4.trans e6⟩
        · obtain rfl : is = false := by rw [his.out]; simp [hm0]
          have t1 : ((m : Int) == 0) = false := by simp [hm0]
          have t2 : ((m : Int) = 0) = False := by simp [hm0]
          go_wp2_with fail
          refine (live_any w4 (HT.out.ext E4)).mono ?_
          rintro e w6 ⟨rfl, e6⟩
          go_wp2_with fail
          go_ret
          exact ⟨rfl, E4.trans e6⟩
      · skip
        go_enter Tryd.func4, Tryd.ntmps4
        go_wp2_with fail
        refine (few_any a _ _ w HA.out).mono ?_
        rintro e w1 ⟨rfl, e1⟩
        rw [fa]
        go_wp2_with fail
        refine (few_any b _ _ w1 ((Rp.slice Rp.iv).ext' e1 HB.out)).mono ?_
        rintro e w2 ⟨rfl, e2⟩
        rw [fb]
        have E2 := e1.trans e2
        clear e1 e2
        go_wp2_with fail
        refine (cpuSets5 a b _ _ w2 ((Rp.slice Rp.iv).ext' E2 HA.out) ((Rp.slice Rp.iv).ext' E2 HB.out) hna hnb).mono ?_
        rintro e w3 ⟨v, is, rfl, e3, k1, k2, k3, k4, k5, k6⟩
        have HK := Lib.hid (k5 rfl)
        have E3 := E2.trans e3
        clear k1 k2 k3 k4 k5 k6 e3
        go_wp2_with fail
        refine (both_any a b _ _ true false false w3 ((Rp.slice Rp.iv).ext' E3 HA.out) ((Rp.slice Rp.iv).ext' E3 HB.out) hna hnb).mono ?_
        rintro e w4 ⟨vb, rfl, hO, e4⟩
        have hlen := bothL_len (f := true) (s := false) (t := false) hna hnb
        obtain ⟨A4, n4, cap4, hv4⟩ := own_shape hO
        obtain ⟨A5, c5, hv5, _, _, _⟩ := slice_shape hO.slice
        rw [hv5]
        have his : Hid (is = decide ((bothL a b true false false).length = 0)) := Lib.hid (by
          rw [Bool.eq_iff_iff, HK.out, decide_eq_true_eq, both_len]
          exact both5)
        obtain ⟨m, hm⟩ : ∃ m, m = (bothL a b true false false).length := ⟨_, rfl⟩
        rw [← hm] at his hlen ⊢
        replace hm := Lib.hid hm
        clear hO hv4 hv5
        have E4 := E3.trans e4
        by_cases hm0 : m = 0
        · obtain rfl : is = true := by rw [his.out]; simp [hm0]
          subst hm0
          go_wp2_with fail
          refine (live_any w4 (HT.out.ext E4)).mono ?_
          rintro e w6 ⟨rfl, e6⟩
          go_wp2_with fail
          go_ret
          exact ⟨rfl, E4.trans e6⟩
        · obtain rfl : is = false := by rw [his.out]; simp [hm0]
          have t1 : ((m : Int) == 0) = false := by simp [hm0]
          have t2 : ((m : Int) = 0) = False := by simp [hm0]
          go_wp2_with fail
          refine (live_any w4 (HT.out.ext E4)).mono ?_
          rintro e w6 ⟨rfl, e6⟩
          go_wp2_with fail
          go_ret
          exact ⟨rfl, E4.trans e6⟩
      · by_cases hbn : b = []
        · have t7 : ((b.length : Int) == 0) = true := by simp [hbn]
          have t8 : ((b.length : Int) = 0) = True := by simp [hbn]
          replace hbn := Lib.hid hbn
          go_enter Tryd.func4, Tryd.ntmps4
          go_wp2_with fail
          refine (few_any a _ _ w HA.out).mono ?_
          rintro e w1 ⟨rfl, e1⟩
          rw [fa]
          go_wp2_with fail
          refine (few_any b _ _ w1 ((Rp.slice Rp.iv).ext' e1 HB.out)).mono ?_
          rintro e w2 ⟨rfl, e2⟩
          rw [fb]
          have E2 := e1.trans e2
          clear e1 e2
          go_wp2_with fail
          refine (live_any w2 (HT.out.ext E2)).mono ?_
          rintro e w9 ⟨rfl, e9⟩
          go_wp2_with fail
          go_ret
          exact ⟨rfl, (E2).trans e9⟩
        · have hbp : 0 < b.length := List.length_pos_iff.2 hbn
          obtain ⟨bb, ob, rfl⟩ := hBa hbn
          have t7 : ((b.length : Int) == 0) = false := by simp; omega
          have t8 : ((b.length : Int) = 0) = False := by simp; omega
          go_enter Tryd.func4, Tryd.ntmps4
          go_wp2_with fail
          refine (few_any a _ _ w HA.out).mono ?_
          rintro e w1 ⟨rfl, e1⟩
          rw [fa]
          go_wp2_with fail
          refine (few_any b _ _ w1 ((Rp.slice Rp.iv).ext' e1 HB.out)).mono ?_
          rintro e w2 ⟨rfl, e2⟩
          rw [fb]
          have E2 := e1.trans e2
          clear e1 e2
          go_wp2_with fail
          refine (cpuSets6 a b _ _ w2 ((Rp.slice Rp.iv).ext' E2 HA.out) ((Rp.slice Rp.iv).ext' E2 HB.out) hna hnb hbn).mono ?_
          rintro e w3 ⟨v, is, rfl, e3, k1, k2, k3, k4, k5, k6⟩
          have HK := Lib.hid (k6 rfl)
          have E3 := E2.trans e3
          have cb0 := E3.cellS ((cells_of HB.out).2 0 hbp)
          simp only [Nat.add_zero] at cb0
          generalize hb0 : b.getD 0 0 = b0 at cb0
          rw [hb0] at HK
          replace hb0 := Lib.hid hb0
          clear k1 k2 k3 k4 k5 k6 e3
          go_wp2_with fail
          refine (contains_read a _ b0 w3 ((Rp.slice Rp.iv).ext' E3 HA.out)).mono ?_
          rintro e w4 ⟨rfl, rfl⟩
          have hca : a.contains b0 = decide (b0 ∈ a) := by simp
          rw [hca, ← HK.out]
          cases is <;> (go_wp2_with fail; refine (live_any w4 (HT.out.ext E3)).mono ?_; rintro e w9 ⟨rfl, e9⟩; go_wp2_with fail; go_ret; exact ⟨rfl, E3.trans e9⟩)
end Go.Proofs.YtfefnflcgkanpaaDoor
