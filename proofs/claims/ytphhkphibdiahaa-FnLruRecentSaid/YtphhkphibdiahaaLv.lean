/-
  FnLruRecent, the plain law: what is in the cache are the keys that were used last.
-/
import Derived.Test.YtphhkphibdiahaaLu
namespace Go.Proofs.Ytphhkphibdiahaa
set_option linter.unusedSimpArgs false
set_option linter.unusedVariables false

/-- what is known of the keys, R of them met from the end on -/
def fP (s : Nat) (R X : List Int) : List Int := (R ++ X.filter (fun x => !R.contains x)).take s
theorem nodup_len {X Y : List Int} (h : X.Nodup) (hs : ∀ x ∈ X, x ∈ Y) : X.length ≤ Y.length := by
  induction X generalizing Y with
  | nil => simp
  | cons x X ih =>
    obtain ⟨h1, h2⟩ := List.nodup_cons.1 h
    have hx := hs x (by simp)
    have := ih (Y := Y.erase x) h2 (fun y hy => (List.mem_erase_of_ne (fun e => h1 (by rw [← e]; exact hy))).2 (hs y (by simp [hy])))
    rw [List.length_erase_of_mem hx] at this
    have := List.length_pos_of_mem hx
    simp; omega
theorem len_split (p : Int → Bool) : ∀ X : List Int, X.length = (X.filter p).length + (X.filter fun x => !p x).length
  | [] => rfl
  | x :: X => by
    have := len_split p X
    rw [List.filter_cons, List.filter_cons]
    cases p x <;> simp <;> omega
theorem fP_take {s : Nat} {R X : List Int} (hX : X.Nodup) : fP s R (X.take s) = fP s R X := by
  unfold fP
  have h0 : X.filter (fun x => !R.contains x) = (X.take s).filter (fun x => !R.contains x) ++ (X.drop s).filter (fun x => !R.contains x) := by
    rw [← List.filter_append, List.take_append_drop]
  by_cases hl : X.length ≤ s
  · rw [List.take_of_length_le hl]
  · rw [h0, ← List.append_assoc]
    refine (List.take_append_of_le_length ?_).symm
    have h1 : (X.take s).length = s := by rw [List.length_take]; omega
    have h2 : (X.take s).length = ((X.take s).filter (fun x => R.contains x)).length + ((X.take s).filter (fun x => !R.contains x)).length := by
      exact len_split (fun x => R.contains x) _
    have h3 : ((X.take s).filter (fun x => R.contains x)).length ≤ R.length := nodup_len ((hX.sublist (List.take_sublist _ _)).filter _) (fun x hx => by have := (List.mem_filter.1 hx).2; simpa using this)
    rw [List.length_append]; omega
theorem fP_in {s : Nat} {R X : List Int} {k : Int} (hk : k ∈ R) : fP s R (k :: X.filter (fun x => decide (x ≠ k))) = fP s R X := by
  unfold fP
  congr 2
  rw [List.filter_cons, if_neg (by simp [hk]), List.filter_filter]
  apply List.filter_congr
  intro x _
  by_cases h : x = k
  · subst h; simp [hk]
  · simp [h]
theorem fP_new {s : Nat} {R X : List Int} {k : Int} (hk : k ∉ R) : fP s R (k :: X.filter (fun x => decide (x ≠ k))) = fP s (R ++ [k]) X := by
  unfold fP
  rw [List.filter_cons, if_pos (by simp [hk]), List.filter_filter]
  congr 1
  rw [List.append_assoc, List.singleton_append]
  congr 2
  apply List.filter_congr
  intro x _
  by_cases h : x = k
  · subst h; simp
  · simp [h]
theorem fP_full {s : Nat} {R X : List Int} (h : R.length = s) : fP s R X = R := by
  unfold fP
  rw [List.take_append_of_le_length (by omega), List.take_of_length_le (by omega)]
theorem fP_nil {s : Nat} {R : List Int} (h : R.length ≤ s) : fP s R [] = R := by
  unfold fP
  simp [List.take_of_length_le h]
theorem fP_start {s : Nat} {X : List Int} (h : X.length ≤ s) : fP s [] X = X := by
  unfold fP
  rw [List.filter_eq_self.2 (by simp), List.nil_append, List.take_of_length_le h]
theorem ks_rm (L : PL) (k : Int) : ksP (rmP L k) = (ksP L).filter fun x => decide (x ≠ k) := by
  unfold rmP ksP
  rw [List.filter_map]; rfl
/-- the keys after an operation that uses one -/
theorem ks_use {n : Nat} {size : Nat} {L : PL} {o : OpD} (hs : 1 ≤ size) (h : InvP size n L) (hu : o.kind = 1 ∨ (o.kind = 2 ∧ (doP size L o).2.ok = true)) : ksP (doP size L o).1 = (o.key :: (ksP L).filter fun x => decide (x ≠ o.key)).take size := by
  have hm := h.most (by omega)
  have hlen : (ksP L).length = L.length := by simp
  have hin : o.key ∈ ksP L → (o.key :: (ksP L).filter fun x => decide (x ≠ o.key)).length ≤ size := fun hk => by
    have h1 := len_split (fun x => decide (x ≠ o.key)) (ksP L)
    have h2 : 0 < ((ksP L).filter (fun x => !decide (x ≠ o.key))).length := List.length_pos_of_mem (a := o.key) (List.mem_filter.2 ⟨hk, by simp⟩)
    simp only [List.length_cons] at *
    omega
  rcases hu with h1 | ⟨h1, h2⟩
  · unfold doP
    rw [if_pos h1]
    unfold addP
    by_cases hk : o.key ∈ ksP L
    · rw [if_pos hk, List.take_of_length_le (hin hk)]
      show o.key :: ksP (rmP L o.key) = _
      rw [ks_rm]
    · rw [if_neg hk]
      have hf : (ksP L).filter (fun x => decide (x ≠ o.key)) = ksP L := List.filter_eq_self.2 fun x hx => by simp; rintro rfl; exact hk hx
      rw [hf]
      unfold evP
      split
      · rename_i hc
        have : ((o.key, o.val) :: L).length = size + 1 := by simp at hc ⊢; omega
        show ksP (((o.key, o.val) :: L).dropLast) = _
        rw [List.dropLast_eq_take, this]
        show List.map _ _ = _
        rw [List.map_take]; rfl
      · rename_i hc
        rw [List.take_of_length_le (by simp at hc ⊢; omega)]; rfl
  · unfold doP at h2 ⊢
    rw [if_neg (by omega), if_pos h1] at h2 ⊢
    unfold getP at h2 ⊢
    by_cases hk : o.key ∈ ksP L
    · rw [if_pos hk, List.take_of_length_le (hin hk)]
      show o.key :: ksP (rmP L o.key) = _
      rw [ks_rm]
    · rw [if_neg hk] at h2; cases h2
theorem ks_not {size : Int} {L : PL} {o : OpD} (h1 : o.kind = 2) (h2 : (doP size L o).2.ok = false) : (doP size L o).1 = L := by
  unfold doP at h2 ⊢
  rw [if_neg (by omega), if_pos h1] at h2 ⊢
  unfold getP at h2 ⊢
  by_cases hk : o.key ∈ ksP L
  · rw [if_pos hk] at h2; cases h2
  · rw [if_neg hk]
/-- one operation, from the end on -/
theorem fP_use {n : Nat} {size : Nat} {L : PL} {o : OpD} {R : List Int} (hs : 1 ≤ size) (h : InvP size n L) (hu : o.kind = 1 ∨ (o.kind = 2 ∧ (doP size L o).2.ok = true)) : fP size R (ksP (doP size L o).1) = fP size (if o.key ∈ R then R else R ++ [o.key]) (ksP L) := by
  have hnd : (o.key :: (ksP L).filter fun x => decide (x ≠ o.key)).Nodup := List.nodup_cons.2 ⟨by simp, h.nd.filter _⟩
  rw [ks_use hs h hu, fP_take hnd]
  split
  · rename_i hk; exact fP_in hk
  · rename_i hk; exact fP_new hk
end Go.Proofs.Ytphhkphibdiahaa
