/-
  FnCPUText walked.
-/
import Derived.Test.YtfefnflcgkanpaaDoorSk
namespace Go.Proofs.YtfefnflcgkanpaaDoor
open Go.RowKit Go.Lib
set_option linter.unusedSimpArgs false
set_option linter.unusedVariables false

set_option maxRecDepth 20000 in
set_option maxHeartbeats 1000000 in
theorem walk_CPUText (xs : List Int) (v : Value) (w : World) (h : (Rp.slice Rp.iv).K w any xs [v]) (hT : TabOk w) :
    Calls Tryd.prog 3 #[v] w fun e w' => e = .returned (.bool true) ∧ Ext w w' := by
  have HX := Lib.hid h
  have HT := Lib.hid hT
  obtain ⟨A, cap, rfl, hl, hc, hA⟩ := slice_shape h
  have hN : xs.length ≤ 9223372036854775807 := Nat.le_trans hl hc
  clear h hT hA
  go_enter Tryd.func3, Tryd.ntmps3
  by_cases hbig : 2147483647 < xs.length
  · have hd : decide ((2147483647 : Int) < (xs.length : Int)) = true := by simp; omega
    go_wp2_with fail
    go_ret
    exact ⟨rfl, Ext.refl _⟩
  · have hd : decide ((2147483647 : Int) < (xs.length : Int)) = false := by simp; omega
    go_wp2_with fail
    refine (few_any xs _ _ w HX.out).mono ?_
    rintro e w1 ⟨rfl, e1⟩
    cases hf : fewB xs (-1099511627776) with
    | false =>
      replace hf := Lib.hid hf
      go_wp2_with fail
      refine (live_any w1 (HT.out.ext e1)).mono ?_
      rintro e w2 ⟨rfl, e2⟩
      go_wp2_with fail
      go_ret
      exact ⟨rfl, e1.trans e2⟩
    | true =>
      obtain ⟨hn, hb⟩ := few_true hf
      have HB := Lib.hid hb
      replace hf := Lib.hid hf
      clear hb
      go_wp2_with fail
      refine (cpuText_any xs _ w1 ((Rp.slice Rp.iv).ext' e1 HX.out) hn HB.out (HT.out.ext e1)).mono ?_
      rintro e w2 ⟨rfl, e2⟩
      go_wp2_with fail
      refine (specText_any xs _ w2 ((Rp.slice Rp.iv).ext' (e1.trans e2) HX.out) hn HB.out).mono ?_
      rintro e w3 ⟨rfl, e3⟩
      go_wp2_with fail
      refine (live_any w3 (HT.out.ext ((e1.trans e2).trans e3))).mono ?_
      rintro e w4 ⟨rfl, e4⟩
      go_wp2_with fail
      go_ret
      exact ⟨rfl, ((e1.trans e2).trans e3).trans e4⟩
end Go.Proofs.YtfefnflcgkanpaaDoor
