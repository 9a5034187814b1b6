/-
  A queue's plain law: what is read is what was written.
-/
import Derived.Test.YtgebafnbkglmaaaRingE
namespace Go.Proofs.Ytgebafnbkglmaaa
open Go.RowKit
set_option linter.unusedSimpArgs false
set_option linter.unusedVariables false

def writes (ops : List ROp) : List Int := ops.filterMap id
def reads (q : List Int) : List ROp → List Int
  | [] => []
  | some x :: r => reads (q ++ [x]) r
  | none :: r => q.head?.toList ++ reads q.tail r
def readOf (q : List Int) : ROp → List Int
  | some _ => []
  | none => q.head?.toList
theorem head_tail (q : List Int) : q.head?.toList ++ q.tail = q := by cases q <;> rfl
theorem reads_snoc (q : List Int) (ops : List ROp) (o : ROp) : reads q (ops ++ [o]) = reads q ops ++ readOf (stateQ q ops) o := by
  induction ops generalizing q with
  | nil => cases o <;> simp [reads, readOf, stateQ]
  | cons a r ih => cases a <;> simp [reads, ih, stateQ, stepQ]
theorem reads_state (q : List Int) (ops : List ROp) : reads q ops ++ stateQ q ops = q ++ writes ops := by
  induction ops generalizing q with
  | nil => simp [reads, stateQ, writes]
  | cons a r ih =>
    cases a with
    | some x =>
      have := ih (q ++ [x])
      simp only [stateQ, List.foldl_cons, stepQ, reads] at this ⊢
      rw [this]
      simp [writes]
    | none =>
      have := ih q.tail
      simp only [stateQ, List.foldl_cons, stepQ, reads, List.append_assoc] at this ⊢
      rw [this, ← List.append_assoc, head_tail]
      simp [writes]
theorem state_reads (q : List Int) (n : Nat) : stateQ q (List.replicate n none) = q.drop n := by
  induction n generalizing q with
  | zero => simp [stateQ]
  | succ n ih =>
    have := ih q.tail
    simp only [stateQ, List.replicate_succ, List.foldl_cons, stepQ] at this ⊢
    rw [this]
    simp
theorem stateQ_app (q : List Int) (a b : List ROp) : stateQ q (a ++ b) = stateQ (stateQ q a) b := by simp [stateQ]
theorem writes_app (a b : List ROp) : writes (a ++ b) = writes a ++ writes b := by simp [writes]
theorem writes_reads (n : Nat) : writes (List.replicate n none) = [] := by
  induction n with
  | zero => rfl
  | succ n ih => simp only [List.replicate_succ, writes, List.filterMap_cons, id]; exact ih
theorem state_pre (vals : List Int) (pre : List ROp) (h : writes pre = vals) : (stateQ [] pre).length ≤ vals.length := by
  have := congrArg List.length (reads_state [] pre)
  rw [List.nil_append, h, List.length_append] at this
  omega
/-- THE PLAIN LAW -/
theorem queue_law (vals : List Int) (pre : List ROp) (h : writes pre = vals) : reads [] (pre ++ List.replicate (vals.length + 1) none) = vals := by
  have h1 := reads_state [] (pre ++ List.replicate (vals.length + 1) none)
  rw [stateQ_app, state_reads, List.drop_of_length_le (by have := state_pre vals pre h; omega), List.append_nil, List.nil_append, writes_app, writes_reads, List.append_nil, h] at h1
  exact h1
theorem answers_get (q : List Int) (ops : List ROp) (k : Nat) : (answersQ q ops)[k]? = (ops[k]?).map (ansQ (stateQ q (ops.take k))) := by
  induction ops generalizing q k with
  | nil => simp [answersQ]
  | cons a r ih =>
    cases k with
    | zero => simp [answersQ, stateQ]
    | succ k =>
      have := ih (stepQ q a) k
      simpa [answersQ, stateQ] using this
/-- the last answer is that there is nothing -/
theorem queue_last (vals : List Int) (pre : List ROp) (h : writes pre = vals) (a : RAns) (ha : (answersQ [] (pre ++ List.replicate (vals.length + 1) none))[pre.length + vals.length]? = some a) : a = (false, 0, []) := by
  rw [answers_get, List.getElem?_append_right (by omega), List.getElem?_replicate] at ha
  rw [if_pos (by omega)] at ha
  simp only [Option.map_some, Option.some.injEq] at ha
  rw [← ha, show pre.length + vals.length = pre.length + vals.length from rfl, List.take_append, List.take_of_length_le (by omega), Nat.add_sub_cancel_left, List.take_replicate, stateQ_app, state_reads, List.drop_of_length_le (by have := state_pre vals pre h; omega)]
  rfl
theorem readOf_ans (q : List Int) (o : ROp) : (ansQ q o).2.2 = readOf q o := by cases o <;> rfl
end Go.Proofs.Ytgebafnbkglmaaa
