/-
  zzTrimRight at a text that ends in one comma.
-/
import Derived.Test.YtfefnflcgkanpaaGreatDoorSh
import Derived.LoopN
namespace Go.Proofs.YtfefnflcgkanpaaGreatDoor
open Go.RowKit Go.Lib
set_option linter.unusedSimpArgs false
set_option linter.unusedVariables false

set_option maxRecDepth 20000 in
set_option maxHeartbeats 2000000 in
theorem trim_gen (s : ByteArray) (k : Nat) (hs : s.size = k + 1 + 1) (h1 : (s[k + 1]'(by omega)).toNat = 44) (h0 : (s[k]'(by omega)).toNat ≠ 44) (hb : k ≤ 100000) (w : World) :
    Calls Tryz.prog 40 #[.string s, .string { data := #[44] }] w fun e w' => e = .returned (.string (s.extract 0 (k + 1))) ∧ Ext w w' := by
  have w1 : IntKind.i64.wrap ((k : Int) + 1 + 1 - 1) = (k : Int) + 1 := by rw [IntKind.wrap_i64]; omega
  have w0 : IntKind.i64.wrap ((k : Int) + 1 - 1) = (k : Int) := by rw [IntKind.wrap_i64]; omega
  have n1 : ((k : Int) + 1).toNat = k + 1 := by omega
  have b1 : ¬ (k : Int) + 1 < 0 := by omega
  have b2 : k + 1 < s.size := by omega
  have b3 : k < s.size := by omega
  have b4 : (0 : Int) ≤ (k : Int) + 1 := by omega
  have b5 : (k : Int) + 1 < (k : Int) + 1 + 1 := by omega
  have b6 : (k : Int) < (k : Int) + 1 + 1 := by omega
  have b7 : decide ((0 : Int) < (k : Int) + 1 + 1) = true := by first | (simp; done) | (simp; omega)
  have b8 : decide ((0 : Int) < (k : Int) + 1) = true := by first | (simp; done) | (simp; omega)
  have z44 : (({ data := #[44] } : ByteArray)[0]'(by decide)).toNat = 44 := rfl
  obtain ⟨y, hy⟩ : ∃ y, (s[k]'b3).toNat = y := ⟨_, rfl⟩
  have hy44 : y ≠ 44 := by rw [← hy]; exact h0
  have t1 : ((44 : Int) == (y : Int)) = false := by simp; omega
  have t2 : ((44 : Int) = (y : Int)) = False := by simp; omega
  have t3 : ((44 : Nat) == y) = false := by simp; omega
  have t4 : (44 = y) = False := by simp; omega
  clear h0
  go_enter Tryz.func40, Tryz.ntmps40
  go_wp2_with fail
  refine wp_loop_rounds 2 ?_
  rw [rounds_succ]
  go_wp2_with fail
  refine wp_loop_rounds 2 ?_
  rw [rounds_succ]
  go_wp2_with fail
  go_quiet (fail)
  go_wp2_with fail
  rw [rounds_succ]
  go_wp2_with fail
  rw [rounds_succ]
  go_wp2_with fail
  refine wp_loop_rounds 2 ?_
  rw [rounds_succ]
  go_wp2_with fail
  go_quiet (fail)
  go_wp2_with fail
  rw [rounds_succ]
  go_wp2_with fail
  go_ret
  exact ⟨rfl, (Ext.refl w).drewN _⟩
theorem trim_any (m : List UInt8) (hne : m ≠ []) (hl : ∀ x, m.getLast? = some x → x ≠ 44) (hb : m.length ≤ 100000) (w : World) :
    Calls Tryz.prog 40 #[.string (strS (m ++ [44])), .string { data := #[44] }] w fun e w' => e = .returned (.string (strS m)) ∧ Ext w w' := by
  obtain ⟨ps, x, rfl⟩ : ∃ ps x, m = ps ++ [x] := by
    rcases List.eq_nil_or_concat m with h | ⟨ps, x, h⟩
    · exact absurd h hne
    · exact ⟨ps, x, by rw [h, List.concat_eq_append]⟩
  have hx : x ≠ 44 := hl x (by simp)
  have hs : (strS (ps ++ [x] ++ [44])).size = ps.length + 1 + 1 := by rw [strS_size]; simp
  have g : ∀ (i : Nat) (h : i < (strS (ps ++ [x] ++ [44])).size), (strS (ps ++ [x] ++ [44]))[i]'h = (ps ++ [x] ++ [44])[i]'(by rw [strS_size] at h; exact h) := fun i h => rfl
  have := trim_gen (strS (ps ++ [x] ++ [44])) ps.length hs (by rw [g]; simp) (by
    rw [g]
    have : (ps ++ [x] ++ [44])[ps.length]'(by simp) = x := by simp
    rw [this]
    intro h
    exact hx (UInt8.toNat.inj h)) (by simp at hb; omega) w
  have he : (strS (ps ++ [x] ++ [44])).extract 0 (ps.length + 1) = strS (ps ++ [x]) := by
    apply ByteArray.ext
    rw [ByteArray.data_extract]
    apply Array.ext'
    simp [strS]
  rw [he] at this
  exact this
end Go.Proofs.YtfefnflcgkanpaaGreatDoor
