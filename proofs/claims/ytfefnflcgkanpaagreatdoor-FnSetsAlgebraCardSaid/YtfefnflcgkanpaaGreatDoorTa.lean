/-
  set.Set[int]: Insert, New, Has, Len, UnsortedList, Union.
-/
import Derived.Test.YtfefnflcgkanpaaGreatDoorSk
namespace Go.Proofs.YtfefnflcgkanpaaGreatDoor
open Go.RowKit
set_option linter.unusedSimpArgs false
set_option linter.unusedVariables false

theorem zeroEmpty (w : World) : (zeroValue 72).run Tryz.prog w = .ok (.agg #[]) w := by kernel_rfl
theorem SetI.lenS (w : World) (b : Nat) (ks : List Int) (h : SetI w b ks) (ty : TypeId) : (Builtin.len_ #[32] ty #[.map (some b)]).run Tryz.prog w = .ok (.int .i64 (ks.length : Nat)) w := by
  have := MapL.length (P := Tryz.prog) h Tryz.underlying32 ty
  rwa [List.length_map] at this
theorem SetI.lookS (w : World) (b : Nat) (ks : List Int) (h : SetI w b ks) (x : Int) : (Instr.lookup 32 (.map (some b)) (.int .i64 x) true).run Tryz.prog w = .ok (.tuple #[.agg #[], .bool (decide (x ∈ ks))]) w := by
  have := MapL.look (P := Tryz.prog) keyI h Tryz.underlying32 (zeroEmpty w) x true
  rw [aget_unit, aget_unit_val] at this
  exact this
set_option maxRecDepth 20000 in
set_option maxHeartbeats 1000000 in
theorem insert_any (b : Nat) (ks xs : List Int) (v : Value) (w : World) (H : SetI w b ks) (hx : (Rp.slice Rp.iv).K w (fun k => k ≠ b) xs [v]) :
    Calls Tryz.prog 26 #[.map (some b), v] w fun e w' => e = .returned (.map (some b)) ∧ SetI w' b (insAll ks xs) ∧ ExtX (fun k => k = b) w w' := by
  obtain ⟨A, cap, rfl, hl, hc, hA⟩ := slice_shape hx
  have HX := Lib.hid hx
  have HS := Lib.hid H
  have hbl : b < w.heap.size := H.lt
  have hN : xs.length ≤ 9223372036854775807 := Nat.le_trans hl hc
  clear H hx hA
  go_enter Tryz.func26, Tryz.ntmps26
  go_wp2_with fail
  go_loopw [9] (fun i wr => ∃ k : Nat, i = .int .i64 k ∧ k ≤ xs.length ∧ Hid (SetI wr b (insAll ks (xs.take k))) ∧ ExtX (fun k => k = b) w wr) (fun i _ => xs.length - (intOf i).toNat)
  case atStart => exact ⟨0, rfl, Nat.zero_le _, HS, ExtX.refl _ _⟩
  case round =>
    obtain ⟨k, rfl, hk, hS, hE⟩ := hrel
    by_cases hlt : k < xs.length
    · obtain ⟨ba, o, rfl, hc0⟩ := iv_at (w' := w) HX.out hlt
      have hbb : ba ≠ b := by
        obtain ⟨A3, c3, hv3, _, _, _, hrow⟩ := HX.out
        simp only [List.cons.injEq, Value.slice.injEq, and_true] at hv3
        obtain ⟨rfl, _, rfl⟩ := hv3
        obtain ⟨b4, o4, hb4, h4⟩ := hrow.addr (List.ne_nil_of_length_pos (by omega))
        simp only [Option.some.injEq, Addr.mk.injEq] at hb4
        rw [hb4.1]; exact h4
      have hc := hE.cellS (p := ⟨ba, o + k, none⟩) (fun h => hbb h) hc0
      generalize hxk : xs.getD k 0 = x at hc
      replace hxk := Lib.hid hxk
      clear hc0
      obtain ⟨w2, hput, hM, hX, hs⟩ := hS.out.put keyI Tryz.underlying32 x (.agg #[])
      have hS2 : Hid (SetI w2 b (insAll ks (xs.take (k + 1)))) := Lib.hid (by rw [aput_unit] at hM; rw [insAll_snoc hlt, hxk.out]; exact hM)
      clear hM hs
      go_wp2_with fail
      go_roundw
      case rel => exact ⟨k + 1, by go_num, by omega, hS2, hE.trans hX⟩
      case measure => simp [intOf]; omega
    · obtain rfl : k = xs.length := by omega
      go_wp2_with fail
      go_ret
      exact ⟨rfl, by have := hS.out; rwa [List.take_length] at this, hE⟩
set_option maxRecDepth 20000 in
theorem setNew_any (xs : List Int) (v : Value) (w : World) (hx : (Rp.slice Rp.iv).K w any xs [v]) :
    Calls Tryz.prog 10 #[v] w fun e w' => ∃ b, e = .returned (.map (some b)) ∧ w.heap.size ≤ b ∧ SetI w' b (insAll [] xs) ∧ Ext w w' := by
  have hmm := @run_makeMap Tryz.prog
  have e0 := (Ext.refl w).alloc (.map #[] 0)
  have HX := Lib.hid ((Rp.slice Rp.iv).mono (fun k hk => (show k ≠ w.heap.size by have := hk.2; omega)) ((Rp.slice Rp.iv).ext (fun k hk => e0.2.2.2.2 k hk.2) ((Rp.slice Rp.iv).lt hx)))
  clear hx
  go_enter Tryz.func10, Tryz.ntmps10
  go_wp2_with fail
  refine (insert_any w.heap.size [] xs v _ (SetI.newAt w rfl) HX.out).mono ?_
  rintro e w2 ⟨rfl, h2, x2⟩
  have E2 : Ext w w2 := ((e0.toX _).trans x2).toExt (fun k hk => by have hk : k = w.heap.size := hk; omega)
  have H2 := Lib.hid h2
  clear h2 x2 hmm
  go_wp2_with fail
  go_ret
  exact ⟨_, rfl, Nat.le_refl _, H2.out, E2⟩
set_option maxRecDepth 20000 in
theorem setLen_any (b : Nat) (ks : List Int) (w : World) (H : SetI w b ks) : Calls Tryz.prog 28 #[.map (some b)] w fun e w' => e = .returned (.int .i64 (ks.length : Nat)) ∧ w' = w := by
  have hn := SetI.lenS w b ks H 3
  clear H
  go_enter Tryz.func28, Tryz.ntmps28
  go_wp2_with fail
  go_ret
  exact ⟨rfl, rfl⟩
set_option maxRecDepth 20000 in
theorem setHas_any (b : Nat) (ks : List Int) (x : Int) (w : World) (H : SetI w b ks) : Calls Tryz.prog 30 #[.map (some b), .int .i64 x] w fun e w' => e = .returned (.bool (decide (x ∈ ks))) ∧ Ext w w' := by
  have hn := SetI.lookS w b ks H x
  clear H
  go_enter Tryz.func30, Tryz.ntmps30
  go_wp2_with fail
  go_ret
  exact ⟨rfl, (Ext.refl w).alloc _⟩
end Go.Proofs.YtfefnflcgkanpaaGreatDoor
