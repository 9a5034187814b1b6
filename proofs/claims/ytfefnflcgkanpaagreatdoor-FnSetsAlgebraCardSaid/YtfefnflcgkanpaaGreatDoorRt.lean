/-
  A set of processors as a text (plain).
-/
import Derived.Lib.ItoaNum
import Derived.Test.YtfefnflcgkanpaaGreatDoorSt
namespace Go.Proofs.YtfefnflcgkanpaaGreatDoor
set_option linter.unusedVariables false
open Go.Lib
/-- runs of neighbours -/
def addRun (rs : List (Int × Int)) (x : Int) : List (Int × Int) :=
  match rs.getLast? with
  | some r => if x = r.2 + 1 then rs.dropLast ++ [(r.1, x)] else rs ++ [(x, x)]
  | none => [(x, x)]
def runs (l : List Int) : List (Int × Int) := l.foldl addRun []
theorem runs_snoc (l : List Int) (x : Int) : runs (l ++ [x]) = addRun (runs l) x := by simp [runs, List.foldl_append]
theorem addRun_grow (rs : List (Int × Int)) (s e : Int) : addRun (rs ++ [(s, e)]) (e + 1) = rs ++ [(s, e + 1)] := by simp [addRun]
theorem addRun_new (rs : List (Int × Int)) (s e x : Int) (h : x ≠ e + 1) : addRun (rs ++ [(s, e)]) x = rs ++ [(s, e)] ++ [(x, x)] := by simp [addRun, h]
theorem runs_take {l : List Int} {i : Nat} (h : i < l.length) : runs (l.take (i + 1)) = addRun (runs (l.take i)) l[i] := by
  rw [← runs_snoc, List.take_succ_eq_append_getElem h]
theorem addRun_ne (rs : List (Int × Int)) (x : Int) : addRun rs x ≠ [] := by
  unfold addRun
  split
  · split <;> simp
  · simp
theorem addRun_length (rs : List (Int × Int)) (x : Int) : (addRun rs x).length ≤ rs.length + 1 := by
  unfold addRun
  split
  · split <;> simp <;> omega
  · simp
theorem runs_length : ∀ l : List Int, (runs l).length ≤ l.length := by
  intro l
  have : ∀ (l : List Int) (rs : List (Int × Int)), (l.foldl addRun rs).length ≤ rs.length + l.length := by
    intro l
    induction l with
    | nil => intro rs; simp
    | cons x l ih => intro rs; have := ih (addRun rs x); have := addRun_length rs x; simp; omega
  simpa [runs] using this l []
/-- each end of a run is one of the numbers -/
theorem runs_mem (l : List Int) : ∀ r ∈ runs l, r.1 ∈ l ∧ r.2 ∈ l := by
  have : ∀ (l m : List Int) (rs : List (Int × Int)), (∀ r ∈ rs, r.1 ∈ m ∧ r.2 ∈ m) → ∀ r ∈ l.foldl addRun rs, r.1 ∈ m ++ l ∧ r.2 ∈ m ++ l := by
    intro l
    induction l with
    | nil => intro m rs h; simpa using h
    | cons x l ih =>
      intro m rs h
      have := ih (m ++ [x]) (addRun rs x) (fun r hr => ?_)
      · simpa using this
      · unfold addRun at hr
        split at hr
        · rename_i p hp
          have hpm := List.mem_of_getLast? hp
          split at hr
          · rcases List.mem_append.1 hr with h1 | h1
            · have := h r (List.dropLast_subset _ h1); simp [this.1, this.2]
            · simp only [List.mem_singleton] at h1; subst h1; simp [(h p hpm).1]
          · rcases List.mem_append.1 hr with h1 | h1
            · have := h r h1; simp [this.1, this.2]
            · simp only [List.mem_singleton] at h1; subst h1; simp
        · simp only [List.mem_singleton] at hr; subst hr; simp
  intro r hr
  have := this l [] [] (by simp) r hr
  simpa using this
theorem decDigits_ne (u : Nat) : decDigits u ≠ [] := by rw [decDigits]; split <;> simp
theorem decDigits_ge (u : Nat) : ∀ x ∈ decDigits u, 48 ≤ x.toNat ∧ x.toNat ≤ 57 := by
  induction u using Nat.strongRecOn with
  | _ u ih =>
    rw [decDigits]
    split
    · intro x hx; simp only [List.mem_singleton] at hx; subst hx; simp; omega
    · intro x hx
      rcases List.mem_append.1 hx with h | h
      · exact ih _ (by omega) x h
      · simp only [List.mem_singleton] at h; subst h; simp; omega
theorem itoa_ne (n : Int) : itoa n ≠ [] := by unfold itoa; split <;> simp [decDigits_ne]
theorem itoa_last (n : Int) : ∀ x, (itoa n).getLast? = some x → x ≠ 44 := by
  intro x hx he
  have : ∀ u x, (decDigits u).getLast? = some x → x ≠ 44 := by
    intro u x h1 h2
    have := decDigits_ge u x (List.mem_of_getLast? h1)
    subst h2
    simp at this
  unfold itoa at hx
  split at hx
  · rw [List.getLast?_cons] at hx
    cases h : (decDigits n.natAbs).getLast? with
    | none => exact decDigits_ne _ (List.getLast?_eq_none_iff.1 h)
    | some y => rw [h] at hx; simp at hx; subst hx; exact this _ _ h he
  · exact this _ _ hx he
def rtext (r : Int × Int) : List UInt8 := if r.1 = r.2 then itoa r.1 else itoa r.1 ++ 45 :: itoa r.2
theorem rtext_ne (r : Int × Int) : rtext r ≠ [] := by unfold rtext; split <;> simp [itoa_ne]
theorem rtext_last (r : Int × Int) : ∀ x, (rtext r).getLast? = some x → x ≠ 44 := by
  intro x hx
  unfold rtext at hx
  split at hx
  · exact itoa_last _ _ hx
  · refine itoa_last r.2 x ?_
    rw [List.getLast?_append, List.getLast?_cons] at hx
    cases h : (itoa r.2).getLast? with
    | none => exact absurd (List.getLast?_eq_none_iff.1 h) (itoa_ne _)
    | some y => rw [h] at hx; simpa using hx
/-- the runs with a comma behind each -/
def flat (rs : List (Int × Int)) : List UInt8 := rs.flatMap fun r => rtext r ++ [44]
theorem flat_snoc (rs : List (Int × Int)) (r : Int × Int) : flat (rs ++ [r]) = flat rs ++ (rtext r ++ [44]) := by simp [flat]
def cpuT (rs : List (Int × Int)) : List UInt8 := (flat rs).dropLast
theorem cpuT_nil : cpuT [] = [] := rfl
theorem flat_eq (rs : List (Int × Int)) (h : rs ≠ []) : flat rs = cpuT rs ++ [44] := by
  obtain ⟨ps, r, rfl⟩ := List.eq_nil_or_concat rs |>.resolve_left h
  rw [List.concat_eq_append, cpuT, flat_snoc, ← List.append_assoc, List.dropLast_concat]
theorem cpuT_snoc (rs : List (Int × Int)) (r : Int × Int) : cpuT (rs ++ [r]) = flat rs ++ rtext r := by
  rw [cpuT, flat_snoc, ← List.append_assoc, List.dropLast_concat]
theorem cpuT_ne (rs : List (Int × Int)) (h : rs ≠ []) : cpuT rs ≠ [] := by
  obtain ⟨ps, r, rfl⟩ := List.eq_nil_or_concat rs |>.resolve_left h
  rw [List.concat_eq_append, cpuT_snoc]
  simp [rtext_ne]
theorem cpuT_last (rs : List (Int × Int)) : ∀ x, (cpuT rs).getLast? = some x → x ≠ 44 := by
  intro x hx
  rcases List.eq_nil_or_concat rs with rfl | ⟨ps, r, rfl⟩
  · simp [cpuT_nil] at hx
  · rw [List.concat_eq_append, cpuT_snoc, List.getLast?_append] at hx
    cases h : (rtext r).getLast? with
    | none => exact absurd (List.getLast?_eq_none_iff.1 h) (rtext_ne _)
    | some y => rw [h] at hx; simp at hx; subst hx; exact rtext_last _ _ h
/-- how long a text of small numbers is -/
theorem decDigits_len : ∀ (k u : Nat), u < 10 ^ (k + 1) → (decDigits u).length ≤ k + 1
  | 0, u, h => by rw [decDigits, dif_pos (by simpa using h)]; exact Nat.le_refl 1
  | k + 1, u, h => by
    rw [decDigits]
    split
    · simp
    · have := decDigits_len k (u / 10) (by rw [Nat.pow_succ] at h; omega)
      simp; omega
theorem itoa_len (n : Int) (h0 : -1099511627776 ≤ n) (h1 : n ≤ 1099511627776) : (itoa n).length ≤ 14 := by
  unfold itoa
  split
  · have := decDigits_len 12 n.natAbs (by omega); simp; omega
  · have := decDigits_len 12 n.toNat (by omega); omega
theorem flat_len (rs : List (Int × Int)) (h : ∀ r ∈ rs, (-1099511627776 ≤ r.1 ∧ r.1 ≤ 1099511627776) ∧ -1099511627776 ≤ r.2 ∧ r.2 ≤ 1099511627776) : (flat rs).length ≤ 30 * rs.length := by
  induction rs with
  | nil => simp [flat]
  | cons r rs ih =>
    have h1 := h r (by simp)
    have h2 := itoa_len r.1 h1.1.1 h1.1.2
    have h3 := itoa_len r.2 h1.2.1 h1.2.2
    have h4 := ih fun x hx => h x (by simp [hx])
    have h5 : (rtext r).length ≤ 29 := by
      unfold rtext
      split
      · omega
      · rw [List.length_append, List.length_cons]; omega
    simp only [flat, List.flatMap_cons, List.length_append, List.length_cons, List.length_nil] at h4 ⊢
    omega
end Go.Proofs.YtfefnflcgkanpaaGreatDoor
