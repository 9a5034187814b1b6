/-
  A history of steps: what the guards of FnVersionsHistory tell (zzFits38, zzFits37).
-/
import Derived.Test.YtdokcengcekfgaaGreatDoorSeen
namespace Go.Proofs.YtdokcengcekfgaaGreatDoor
open Go.RowKit
set_option linter.unusedSimpArgs false
set_option linter.unusedVariables false

theorem fits38 (s : StepD) (w : World) : Calls Tryz.prog 24 #[stV s] w fun e w' => ∃ c : Bool, e = .returned (.bool c) ∧ (c = true → fit s.text.size) ∧ Ext w w' := by
  by_cases h1 : 2147483647 < s.text.size
  · have d1 : decide ((2147483647 : Int) < (s.text.size : Int)) = true := by simp; omega
    go_enter Tryz.func24, Tryz.ntmps24
    go_wp2
    go_ret
    exact ⟨false, rfl, fun h => by simp at h, (Ext.refl w).alloc _⟩
  · have d1 : decide ((2147483647 : Int) < (s.text.size : Int)) = false := by simp; omega
    go_enter Tryz.func24, Tryz.ntmps24
    go_wp2
    go_ret
    exact ⟨true, rfl, fun _ => by show s.text.size ≤ 2147483647; omega, (Ext.refl w).alloc _⟩
/-- how a step lies in a slice -/
def Rp.step : Rp StepD where
  K w ok s cs := cs = stCells s ∧ s.text.size ≤ maxLen
  sz := 6
  pos := by decide
  len := by rintro w ok s cs ⟨rfl, _⟩; rfl
  ext := by rintro w w' ok s cs e h; exact h
  mono := by rintro w ok ok' s cs e h; exact h
  lt := by rintro w ok s cs h; exact h
  one := by
    rintro w ok s cs ⟨rfl, _⟩ u hu
    simp only [stCells, List.mem_cons, List.mem_nil_iff, or_false] at hu
    rcases hu with rfl | rfl | rfl | rfl | rfl | rfl <;> rfl
/-- the cells of a given step -/
theorem step_at {w wr : World} {A : Option Addr} {xs : List StepD} (h : Rp.step.row w any A xs) {b o : Nat} (hA : A = some ⟨b, o, none⟩) {k : Nat} {s : StepD} (hx : xs[k]? = some s) (he : Ext w wr) :
    s.text.size ≤ maxLen ∧ ∀ j v, (stCells s)[j]? = some v → wr.cell? ⟨b, o + (k * 6 + j), none⟩ = some v := by
  obtain ⟨cs, hl, hK, hc⟩ := h.at hA hx
  obtain ⟨rfl, hw⟩ : cs = stCells s ∧ _ := hK
  refine ⟨hw, fun j v hv => he.cellS ?_⟩
  have hj : j < 6 := (List.getElem?_eq_some_iff.1 hv).1
  exact (hc j hj).trans hv
set_option maxRecDepth 20000 in
set_option maxHeartbeats 1000000 in
theorem fits37 (xs : List StepD) (v : Value) (w : World) (h : (Rp.slice Rp.step).K w any xs [v]) : Calls Tryz.prog 5 #[v] w fun e w' => ∃ c : Bool, e = .returned (.bool c) ∧ (c = true → ∀ s ∈ xs, fit s.text.size) ∧ Ext w w' := by
  obtain ⟨A, cap, hv, p1, p2, p3, hrow⟩ := h
  simp only [List.cons.injEq, and_true] at hv
  subst hv
  have hl : xs.length ≤ 9223372036854775807 := by unfold maxLen at p2; omega
  have HR := Lib.hid hrow
  clear hrow p1 p2 p3
  go_enter Tryz.func5, Tryz.ntmps5
  go_wp2_with fail
  · go_ret
    exact ⟨false, rfl, fun h => by simp at h, Ext.refl w⟩
  go_loopw [10] (fun i wr => ∃ k : Nat, i = .int .i64 k ∧ k ≤ xs.length ∧ Hid (∀ s ∈ xs.take k, fit s.text.size) ∧ Ext w wr) (fun i _ => xs.length - (intOf i).toNat)
  case atStart => exact ⟨0, rfl, Nat.zero_le _, Lib.hid (fun m hm => by simp at hm), Ext.refl _⟩
  case round =>
    obtain ⟨k, rfl, hk, hf, hE⟩ := hrel
    by_cases hlt : k < xs.length
    · obtain ⟨s, hs⟩ : ∃ s, xs[k]? = some s := ⟨_, List.getElem?_eq_getElem hlt⟩
      obtain ⟨ba, o, rfl, _⟩ := HR.out.addr (List.ne_nil_of_length_pos (by omega))
      obtain ⟨_, hc⟩ := step_at HR.out rfl hs hE
      have c0 := hc 0 _ rfl
      have c1 := hc 1 _ rfl
      have c2 := hc 2 _ rfl
      have c3 := hc 3 _ rfl
      have c4 := hc 4 _ rfl
      have c5 := hc 5 _ rfl
      have HS := Lib.hid hs
      clear hs hc
      simp only [Nat.add_zero, ← Nat.add_assoc] at c0 c1 c2 c3 c4 c5
      go_wp2_with fail
      refine (fits38 s _).mono ?_
      rintro e w2 ⟨c, rfl, hc, E2⟩
      replace hc := Lib.hid hc
      have E3 := (hE.alloc (.cells (stCells s).toArray 31)).trans E2
      cases c with
      | false =>
        go_wp2
        go_ret
        exact ⟨false, rfl, fun h => by simp at h, E3⟩
      | true =>
        go_wp2
        go_roundw
        case rel =>
          refine ⟨k + 1, by go_num, by omega, Lib.hid ?_, E3⟩
          intro s' hs'
          rw [List.take_add_one, HS.out] at hs'
          simp only [Option.toList_some, List.mem_append, List.mem_singleton] at hs'
          rcases hs' with hs' | rfl
          · exact hf.out s' hs'
          · exact (hc.out (by first | rfl | trivial))
        case measure => simp [intOf]; omega
    · have hkn : Hid (k = xs.length) := Lib.hid (by omega)
      go_wp2
      go_ret
      exact ⟨true, rfl, fun _ s hs => hf.out s (by rw [hkn.out, List.take_length]; exact hs), hE⟩
end Go.Proofs.YtdokcengcekfgaaGreatDoor
