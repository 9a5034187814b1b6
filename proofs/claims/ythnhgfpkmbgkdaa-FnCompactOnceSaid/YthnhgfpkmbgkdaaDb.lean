/-
  A new checker (ZzNewChecker).
-/
import Derived.Test.YthnhgfpkmbgkdaaDa
import Derived.Deep.Cut
namespace Go.Proofs.Ythnhgfpkmbgkdaa
open Go.RowKit
set_option linter.unusedSimpArgs false
set_option linter.unusedVariables false

def hstN (own : Int) (fn hashes : Value) : HSt := { f := ⟨0, 0, 0⟩, s := ⟨0, 0, 0⟩, rev2 := 0, asked := 0, own := own, fn := fn, hashes := hashes, alarms := .slice none 0 0, revs := .slice none 0 0 }
def NewAns (own : Int) (w : World) (e : Ending) (w' : World) : Prop := ∃ z c b, e = .returned (.pointer (some ⟨z, 0, none⟩)) ∧ (w.heap.size ≤ b ∧ w.heap.size ≤ c ∧ w.heap.size ≤ z) ∧ (z ≠ b ∧ c ≠ b ∧ z ≠ c) ∧
  Blk w' z 83 [.pointer (some ⟨c, 0, none⟩), .pointer (some ⟨b, 0, none⟩)] ∧ CkAt w' c b 0 ∧ HAt w' b w.heap.size (hstN own .nilFunc (.slice none 0 0)) [] [] ∧ Ext w w'
theorem newChecker_any (own : Int) (w : World) : Calls Try.prog 19 #[.int .u64 own] w (NewAns own w) := by
  go_enter Try.func19, Try.ntmps19
  go_wp2_with fail
  go_ret
  refine ⟨_, w.heap.size + 1, w.heap.size, rfl, ⟨by omega, by omega, by omega⟩, ⟨by omega, by omega, by omega⟩, blk_at _ _ _ _ (by simp), ?_, ⟨?_, OwnP.nil _ _ _ _ _, OwnP.nil _ _ _ _ _, by omega⟩, (((Ext.refl w).alloc _).alloc _).alloc _⟩
  · exact (blk_at _ _ [.pointer none, .iface 69 (.pointer (some ⟨w.heap.size, 0, none⟩)), .int .i64 0] _ (by simp)).ext ((Ext.refl _).alloc _)
  · exact (Blk.new w 73 (hstCells (hstN own .nilFunc (.slice none 0 0)))).ext (((Ext.refl _).alloc _).alloc _)
end Go.Proofs.Ythnhgfpkmbgkdaa
