/-
  laws.smFew, smLive; FnCPUText walked.
-/
import Derived.Test.YtfefnflcgkanpaaDoorSg
import Derived.Test.YtfefnflcgkanpaaDoorSi
namespace Go.Proofs.YtfefnflcgkanpaaDoor
open Go.RowKit Go.Lib
set_option linter.unusedSimpArgs false
set_option linter.unusedVariables false

def okN (least n : Int) : Bool := decide (least ≤ n) && decide (n ≤ 1099511627776)
def fewB (l : List Int) (least : Int) : Bool := decide (l.length ≤ 300) && l.all (okN least)
set_option maxRecDepth 20000 in
set_option maxHeartbeats 1000000 in
theorem few_any (xs : List Int) (least : Int) (v : Value) {ok : Nat → Prop} (w : World) (h : (Rp.slice Rp.iv).K w ok xs [v]) :
    Calls Tryd.prog 5 #[v, .int .i64 least] w fun e w' => e = .returned (.bool (fewB xs least)) ∧ Ext w w' := by
  obtain ⟨A, cap, rfl, hl, hc, hA⟩ := slice_shape h
  have HX := Lib.hid h
  have hN : xs.length ≤ 9223372036854775807 := Nat.le_trans hl hc
  clear h hA
  go_enter Tryd.func5, Tryd.ntmps5
  by_cases h3 : xs.length ≤ 300
  · have hd : decide ((300 : Int) < (xs.length : Int)) = false := by simp; omega
    go_wp2_with fail
    go_loopw [12] (fun u12 wr => ∃ k : Nat, u12 = .int .i64 k ∧ k ≤ xs.length ∧ Hid ((xs.take k).all (okN least) = true) ∧ wr = w) (fun i _ => xs.length - (intOf i).toNat)
    case atStart => exact ⟨0, rfl, Nat.zero_le _, Lib.hid rfl, rfl⟩
    case round =>
      obtain ⟨k, rfl, hk, hall, rfl⟩ := hrel
      by_cases hlt : k < xs.length
      · obtain ⟨ba, o, rfl, hc0⟩ := iv_at (w' := wr) HX.out hlt
        have hmem : Hid (xs.getD k 0 ∈ xs) := Lib.hid (by simp [hlt])
        have hsn : Hid ((xs.take (k + 1)).all (okN least) = ((xs.take k).all (okN least) && okN least (xs.getD k 0))) := Lib.hid (by
          rw [List.take_succ_eq_append_getElem hlt, List.all_append]
          simp [hlt])
        generalize xs.getD k 0 = x at hc0 hmem hsn
        by_cases h1 : x < least
        · have hf : Hid (fewB xs least = false) := Lib.hid (by
            have : xs.all (okN least) = false := by
              rw [List.all_eq_false]
              exact ⟨x, hmem.out, by simp [okN]; omega⟩
            simp [fewB, this])
          have t1 : decide (x < least) = true := by simp [h1]
          go_wp2_with fail
          go_ret
          exact ⟨by rw [hf.out]; rfl, Ext.refl _⟩
        · have t1 : decide (x < least) = false := by simp; omega
          by_cases h2 : 1099511627776 < x
          · have hf : Hid (fewB xs least = false) := Lib.hid (by
              have : xs.all (okN least) = false := by
                rw [List.all_eq_false]
                exact ⟨x, hmem.out, by simp [okN]; omega⟩
              simp [fewB, this])
            have t2 : decide (1099511627776 < x) = true := by simp [h2]
            go_wp2_with fail
            go_ret
            exact ⟨by rw [hf.out]; rfl, Ext.refl _⟩
          · have t2 : decide (1099511627776 < x) = false := by simp; omega
            have hall2 : Hid ((xs.take (k + 1)).all (okN least) = true) := Lib.hid (by rw [hsn.out, hall.out]; simp [okN]; omega)
            go_wp2_with fail
            go_roundw
            case rel => exact ⟨k + 1, by go_num, by omega, hall2, trivial⟩
            case measure => simp [intOf]; omega
      · obtain rfl : k = xs.length := by omega
        have hf : Hid (fewB xs least = true) := Lib.hid (by have := hall.out; rw [List.take_length] at this; simp [fewB, this, h3])
        go_wp2_with fail
        go_ret
        exact ⟨by rw [hf.out]; rfl, Ext.refl _⟩
  · have hd : decide ((300 : Int) < (xs.length : Int)) = true := by simp; omega
    have hf : Hid (fewB xs least = false) := Lib.hid (by simp [fewB, h3])
    go_wp2_with fail
    go_ret
    exact ⟨by rw [hf.out]; rfl, Ext.refl _⟩
theorem few_true {xs : List Int} {least : Int} (h : fewB xs least = true) : xs.length ≤ 300 ∧ ∀ x ∈ xs, least ≤ x ∧ x ≤ 1099511627776 := by
  unfold fewB at h
  rw [Bool.and_eq_true, decide_eq_true_eq, List.all_eq_true] at h
  exact ⟨h.1, fun x hx => by have := h.2 x hx; simpa [okN] using this⟩
theorem rising_310 : rising [3, 1, 0] = [0, 1, 3] := asc_ext (rising_asc _) (by unfold Asc; decide) (fun x => by rw [mem_rising]; simp only [List.mem_cons, List.mem_nil_iff, or_false]; omega)
theorem itoa0 : itoa 0 = [48] := by rw [itoa, if_neg (by omega), decDigits, dif_pos (by omega)]; rfl
theorem itoa1 : itoa 1 = [49] := by rw [itoa, if_neg (by omega), decDigits, dif_pos (by omega)]; rfl
theorem itoa3 : itoa 3 = [51] := by rw [itoa, if_neg (by omega), decDigits, dif_pos (by omega)]; rfl
theorem live_text : cpuT (runs (rising [3, 1, 0])) = [48, 45, 49, 44, 51] := by
  rw [rising_310, show runs [0, 1, 3] = [(0, 1), (3, 3)] from by decide]
  simp [cpuT, flat, rtext, itoa0, itoa1, itoa3]
theorem ints3 (w : World) (x y z : Int) {ok : Nat → Prop} (h : ok w.heap.size) : (Rp.slice Rp.iv).K (w.alloc (.cells #[.int .i64 x, .int .i64 y, .int .i64 z] 3)) ok [x, y, z] [.slice (some ⟨w.heap.size, 0, none⟩) 3 3] :=
  slice_of_blk (d := Rp.iv) (cap := 3) (xs := [x, y, z]) (Blk.new w 3 [.int .i64 x, .int .i64 y, .int .i64 z]) h (show 3 * 1 ≤ 3 by decide) (fun i y' hy => by
    match i, hy with
    | 0, hy => simp at hy; subst hy; exact ⟨rfl, trivial⟩
    | 1, hy => simp at hy; subst hy; exact ⟨rfl, trivial⟩
    | 2, hy => simp at hy; subst hy; exact ⟨rfl, trivial⟩
    | i + 3, hy => simp at hy) (Nat.le_refl _) (by decide)
set_option maxRecDepth 20000 in
set_option maxHeartbeats 1000000 in
theorem live_any (w : World) (hT : TabOk w) : Calls Tryd.prog 8 #[] w fun e w' => e = .returned (.bool true) ∧ Ext w w' := by
  have HT := Lib.hid hT
  clear hT
  go_enter Tryd.func8, Tryd.ntmps8
  go_wp2_with fail
  refine (cpuParse_all w).mono ?_
  rintro e w1 ⟨v, rfl, hO, e1⟩
  have HO := Lib.hid hO.slice
  clear hO
  go_wp2_with fail
  refine (equal_read [0, 1, 3] [0, 1, 3] v _ _ ((Rp.slice Rp.iv).ext' ((Ext.refl w1).alloc _) HO.out) (ints3 w1 0 1 3 (ok := any) trivial)).mono ?_
  rintro e w2 ⟨rfl, e2⟩
  have E2 := (e1.alloc _).trans e2
  go_wp2_with fail
  refine (cpuText_any [3, 1, 0] _ _ (ints3 w2 3 1 0 (ok := any) trivial) (by decide) (by decide) (HT.out.ext (E2.alloc _))).mono ?_
  rintro e w3 ⟨rfl, e3⟩
  rw [live_text]
  go_wp2_with fail
  go_ret
  refine ⟨?_, E2.trans (((Ext.refl w2).alloc _).trans e3)⟩
  show Ending.returned (.bool ((strS [48, 45, 49, 44, 51]).toList == [48, 45, 49, 44, 51])) = _
  rw [ByteArray.toList_eq]
  rfl
end Go.Proofs.YtfefnflcgkanpaaDoor
