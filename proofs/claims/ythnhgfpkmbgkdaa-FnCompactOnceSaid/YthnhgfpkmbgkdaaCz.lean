/-
  Where a revision stands (slices.Index).
-/
import Derived.Test.YthnhgfpkmbgkdaaCy
import Derived.Deep.Cut
namespace Go.Proofs.Ythnhgfpkmbgkdaa
open Go.RowKit
set_option linter.unusedSimpArgs false
set_option linter.unusedVariables false

def idxD (l : List Int) (r : Int) : Int := if r ∈ l then (l.idxOf r : Nat) else -1
theorem idx_at {l : List Int} {k : Nat} {r : Int} (h : l[k]? = some r) (hn : ∀ y ∈ l.take k, y ≠ r) : idxD l r = k := by
  obtain ⟨hk, he⟩ := List.getElem?_eq_some_iff.1 h
  have hm : r ∈ l := by rw [← he]; exact List.getElem_mem hk
  unfold idxD
  rw [if_pos hm]
  have h1 : l = l.take k ++ r :: l.drop (k + 1) := by rw [← he, ← List.drop_eq_getElem_cons hk, List.take_append_drop]
  have h2 : r ∉ l.take k := fun h => hn r h rfl
  have h3 : l.idxOf r = k := by
    rw [h1, List.idxOf_append, if_neg h2, List.idxOf_cons_self, List.length_take]; omega
  rw [h3]
set_option maxRecDepth 20000 in
set_option maxHeartbeats 2000000 in
theorem index_any (l : List Int) (r : Int) (v : Value) (w : World) (h : (Rp.slice Rp.i64).K w any l [v]) :
    Calls Try.prog 23 #[v, .int .i64 r] w fun e w' => e = .returned (.int .i64 (idxD l r)) ∧ Ext w w' := by
  obtain ⟨A, cap, he, p1, p2, p3, hrow⟩ := h
  simp only [List.cons.injEq, and_true] at he
  subst he
  have hl : l.length ≤ 9223372036854775807 := by unfold maxLen at p2; omega
  have HR := Lib.hid hrow
  clear hrow p3
  go_enter Try.func23, Try.ntmps23
  go_wp2_with fail
  go_loopw [8] (fun i wr => ∃ k : Nat, i = .int .i64 k ∧ k ≤ l.length ∧ Hid (∀ y ∈ l.take k, y ≠ r) ∧ Ext w wr) (fun i _ => l.length - (intOf i).toNat)
  case atStart => exact ⟨0, rfl, Nat.zero_le _, Lib.hid (by simp), Ext.refl _⟩
  case round =>
    obtain ⟨k, rfl, hk, hP, hE⟩ := hrel
    by_cases hlt : k < l.length
    · obtain ⟨p, hp⟩ : ∃ p, l[k]? = some p := ⟨_, List.getElem?_eq_getElem hlt⟩
      obtain ⟨ba, o, rfl, _⟩ := HR.out.addr (List.ne_nil_of_length_pos (by omega))
      obtain ⟨_, hc⟩ := flat_at HR.out rfl hp hE
      have c0 := hc 0 _ rfl
      simp only [Nat.add_zero, ← Nat.add_assoc, Nat.mul_one] at c0
      have HP := Lib.hid hp
      clear hp hc
      by_cases hq : r = p
      · have hi : Hid (idxD l r = k) := Lib.hid (idx_at (by rw [HP.out, hq]) hP.out)
        go_wp2_with fail
        go_ret
        exact ⟨by rw [hi.out]; rfl, hE⟩
      · have hq' : (r == p) = false := by simp [hq]
        have hP2 : Hid (∀ y ∈ l.take (k + 1), y ≠ r) := Lib.hid (by rw [take_snoc' HP.out]; intro z hz; rcases List.mem_append.1 hz with hz | hz; exact hP.out z hz; rw [List.mem_singleton.1 hz]; exact fun h => hq h.symm)
        go_wp2_with fail
        go_roundw
        case rel => exact ⟨k + 1, by go_num, by omega, hP2, hE⟩
        case measure => simp [intOf]; omega
    · have hkn : k = l.length := by omega
      have hi : Hid (idxD l r = -1) := Lib.hid (by unfold idxD; rw [if_neg]; intro hm; have := hP.out; rw [hkn, List.take_length] at this; exact this r hm rfl)
      go_wp2_with fail
      go_ret
      exact ⟨by rw [hi.out]; rfl, hE⟩
end Go.Proofs.Ythnhgfpkmbgkdaa
