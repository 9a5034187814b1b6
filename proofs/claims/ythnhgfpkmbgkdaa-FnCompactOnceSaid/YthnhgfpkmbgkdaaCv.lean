/-
  The revisions that were not checked yet (Hashes, SortStableFunc, uncheckedRevisions).
-/
import Derived.Test.YthnhgfpkmbgkdaaCu
namespace Go.Proofs.Ythnhgfpkmbgkdaa
open Go.RowKit
set_option linter.unusedSimpArgs false
set_option linter.unusedVariables false

def Rp.hs : Rp HsD := Rp.flat hsCells 3 (by decide) (fun _ => rfl) (fun _ => rfl) (fun _ => True)
theorem infoHs : (Try.prog.info? 55).map (fun i => (i.zero, i.size, i.bytes)) = some (some (.agg #[.int .u32 0, .int .i64 0, .int .i64 0]), 3, 24) := by kernel_rfl
set_option maxRecDepth 20000 in
set_option maxHeartbeats 1000000 in
theorem hashes_any (b B : Nat) (x : HSt) (al rl : List Int) (l : List HsD) (w : World) (h : HAt w b B x al rl) (hl : (Rp.slice Rp.hs).K w any l [x.hashes]) (hn : l.length ≤ 1000) :
    Calls Try.prog 91 #[.pointer (some ⟨b, 0, none⟩)] w fun e w' => ∃ v', e = .returned v' ∧ OwnP Rp.hs w' any w.heap.size 55 v' l ∧ Ext w w' := by
  obtain ⟨i0, hi, hz0, hz1, hz2⟩ := info_parts3 infoHs
  obtain ⟨v', w1, hr, ho, hE⟩ := run_copy (P := Try.prog) (d := Rp.hs) 53 53 55 i0 _ 24 Try.underlying53 hi hz0 hz1 hz2 rfl hl (by omega)
  have c10 := h.blk.cell (o := 10) rfl
  have HO := Lib.hid ho
  have HR := Lib.hid hr
  obtain ⟨A, n, cap, hx⟩ : ∃ A n cap, x.hashes = .slice A n cap := by obtain ⟨A, cap, hx, _⟩ := hl; simp at hx; exact ⟨_, _, _, hx⟩
  rw [hx] at c10 hr
  have HR := Lib.hid hr
  obtain ⟨A2, n2, cap2, rfl⟩ := own_shape ho
  clear ho h hl hx hr
  go_enter Try.func91, Try.ntmps91
  go_wp2_with (at_builtin; refine wpList_val rfl (exec_app (.const (.slice none 0 0)) (.tmp 6) 53 rfl rfl rfl HR.out) ?_)
  go_ret
  exact ⟨_, rfl, HO.out, hE⟩

theorem isNaN_any (a : Int) (w : World) : Calls Try.prog 67 #[.int .i64 a] w fun e w' => e = .returned (.bool false) ∧ w = w' := by
  have t1 : (a != a) = false := by simp
  have t2 : (a == a) = true := by simp
  go_enter Try.func67, Try.ntmps67
  go_wp2
  go_ret
  exact ⟨rfl, rfl⟩
def cmpInt (a b : Int) : Int := if a < b then -1 else if b < a then 1 else 0
theorem compare_any (a b : Int) (w : World) : Calls Try.prog 58 #[.int .i64 a, .int .i64 b] w fun e w' => e = .returned (.int .i64 (cmpInt a b)) ∧ w = w' := by
  by_cases h1 : a < b
  · have hr : Hid (cmpInt a b = -1) := Lib.hid (by unfold cmpInt; rw [if_pos h1])
    go_enter Try.func58, Try.ntmps58
    go_wp2_with fail
    refine (isNaN_any a w).mono ?_
    rintro e w1 ⟨rfl, rfl⟩
    go_wp2_with fail
    refine (isNaN_any b w).mono ?_
    rintro e w1 ⟨rfl, rfl⟩
    go_wp2_with fail
    go_ret
    exact ⟨by rw [hr.out]; rfl, rfl⟩
  · have t1 : decide (a < b) = false := decide_eq_false h1
    by_cases h2 : b < a
    · have hr : Hid (cmpInt a b = 1) := Lib.hid (by unfold cmpInt; rw [if_neg h1, if_pos h2])
      go_enter Try.func58, Try.ntmps58
      go_wp2_with fail
      refine (isNaN_any a w).mono ?_
      rintro e w1 ⟨rfl, rfl⟩
      go_wp2_with fail
      refine (isNaN_any b w).mono ?_
      rintro e w1 ⟨rfl, rfl⟩
      go_wp2_with fail
      go_ret
      exact ⟨by rw [hr.out]; rfl, rfl⟩
    · have t2 : decide (b < a) = false := decide_eq_false h2
      have hr : Hid (cmpInt a b = 0) := Lib.hid (by unfold cmpInt; rw [if_neg h1, if_neg h2])
      go_enter Try.func58, Try.ntmps58
      go_wp2_with fail
      refine (isNaN_any a w).mono ?_
      rintro e w1 ⟨rfl, rfl⟩
      go_wp2_with fail
      refine (isNaN_any b w).mono ?_
      rintro e w1 ⟨rfl, rfl⟩
      go_wp2_with fail
      go_ret
      exact ⟨by rw [hr.out]; rfl, rfl⟩
theorem clo57 (x y : HsD) (w : World) : Calls Try.prog 57 #[hsV x, hsV y] w fun e w' => e = .returned (.int .i64 (cmpInt y.rev x.rev)) ∧ Ext w w' := by
  go_enter Try.func57, Try.ntmps57
  go_wp2_with fail
  refine (compare_any y.rev x.rev _).mono ?_
  rintro e w1 ⟨rfl, rfl⟩
  go_wp2_with fail
  go_ret
  exact ⟨rfl, ((Ext.refl w).alloc _).alloc _⟩
end Go.Proofs.Ythnhgfpkmbgkdaa
