/-
  Rising lists of numbers: what sets come down to (plain).
-/
import Derived.Lib.SlicesCompact
import Derived.Test.YtfefnflcgkanpaaGreatDoorMp
namespace Go.Proofs.YtfefnflcgkanpaaGreatDoor
set_option linter.unusedVariables false
open Go.Lib
/-- strictly rising -/
def Asc (l : List Int) : Prop := l.Pairwise (· < ·)
theorem asc_head {a : Int} {l : List Int} (h : Asc (a :: l)) : ∀ x ∈ l, a < x := (List.pairwise_cons.1 h).1
theorem asc_tail {a : Int} {l : List Int} (h : Asc (a :: l)) : Asc l := (List.pairwise_cons.1 h).2
theorem asc_ext : ∀ {a b : List Int}, Asc a → Asc b → (∀ x, x ∈ a ↔ x ∈ b) → a = b
  | [], [], _, _, _ => rfl
  | [], y :: b, _, _, h => absurd ((h y).2 (by simp)) (by simp)
  | x :: a, [], _, _, h => absurd ((h x).1 (by simp)) (by simp)
  | x :: a, y :: b, ha, hb, h => by
    have hx := asc_head ha
    have hy := asc_head hb
    have e : x = y := by
      rcases List.mem_cons.1 ((h x).1 (by simp)) with h1 | h1
      · exact h1
      · rcases List.mem_cons.1 ((h y).2 (by simp)) with h2 | h2
        · exact h2.symm
        · have := hx _ h2
          have := hy _ h1
          omega
    subst e
    rw [asc_ext (asc_tail ha) (asc_tail hb) fun z => ?_]
    constructor
    · intro hz
      rcases List.mem_cons.1 ((h z).1 (List.mem_cons_of_mem _ hz)) with h1 | h1
      · have := hx _ hz; omega
      · exact h1
    · intro hz
      rcases List.mem_cons.1 ((h z).2 (List.mem_cons_of_mem _ hz)) with h1 | h1
      · have := hy _ hz; omega
      · exact h1
theorem asc_nodup {l : List Int} (h : Asc l) : l.Nodup := List.Pairwise.imp (fun hlt he => by omega) h
theorem asc_filter {l : List Int} (h : Asc l) (p : Int → Bool) : Asc (l.filter p) := List.Pairwise.filter p h
/-- in order -/
def srt (l : List Int) : List Int := l.mergeSort fun x y => decide (x ≤ y)
theorem mem_srt {l : List Int} {x : Int} : x ∈ srt l ↔ x ∈ l := (List.mergeSort_perm l _).mem_iff
theorem srt_le (l : List Int) : (srt l).Pairwise (· ≤ ·) := by
  have := List.pairwise_mergeSort (le := fun x y : Int => decide (x ≤ y)) (fun a b c h1 h2 => by simp at *; omega) (fun a b => by simp; omega) l
  exact this.imp fun h => by simpa using h
theorem srt_length (l : List Int) : (srt l).length = l.length := List.length_mergeSort l
theorem srt_asc {l : List Int} (h : l.Nodup) : Asc (srt l) := by
  have h1 := srt_le l
  have h2 : (srt l).Nodup := (List.mergeSort_perm l _).nodup_iff.2 h
  exact List.Pairwise.imp₂ (fun a b h3 h4 => by omega) h1 h2
/-- in order, each once -/
theorem compact_asc_aux (zs : List Int) (hs : zs.Pairwise (· ≤ ·)) : ∀ m, m ≤ zs.length → Asc (compactUpTo zs.toArray m) ∧ ∀ x, x ∈ compactUpTo zs.toArray m ↔ ∃ j, j < m ∧ zs[j]? = some x
  | 0, _ => ⟨by simp [compactUpTo, Asc], by simp [compactUpTo]⟩
  | m + 1, hm => by
    obtain ⟨h1, h2⟩ := compact_asc_aux zs hs m (by omega)
    have hget : ∀ j, j < zs.length → zs.toArray[j]! = zs[j]! := fun j hj => by simp
    have hle : ∀ j k (hj : j < k) (hk : k < zs.length), zs[j]'(by omega) ≤ zs[k] := fun j k hj hk => List.pairwise_iff_getElem.1 hs j k (by omega) hk hj
    have hm' : zs.toArray[m]! = zs[m]'(by omega) := by simp [show m < zs.length by omega]
    rw [compactUpTo_succ]
    by_cases hk : keeps zs.toArray m = true
    · rw [if_pos hk]
      refine ⟨List.pairwise_append.2 ⟨h1, by simp, fun a ha b hb => ?_⟩, fun x => ?_⟩
      · obtain ⟨j, hj, hja⟩ := (h2 a).1 ha
        simp only [List.mem_singleton] at hb
        subst hb
        rw [hm']
        obtain ⟨hjl, rfl⟩ := List.getElem?_eq_some_iff.1 hja
        have hm0 : m ≠ 0 := by omega
        have hne : zs[m - 1]'(by omega) ≠ zs[m]'(by omega) := by
          intro he
          unfold keeps at hk
          simp [hm0, show m < zs.length by omega, show m - 1 < zs.length by omega] at hk
          first | exact hk he | exact hk he.symm
        have a1 : zs[m - 1]'(by omega) ≤ zs[m]'(by omega) := hle _ _ (by omega) _
        have a2 : zs[j] ≤ zs[m - 1]'(by omega) := by
          by_cases hjm : j = m - 1
          · subst hjm; exact Int.le_refl _
          · exact hle _ _ (by omega) _
        omega
      · rw [List.mem_append, h2, List.mem_singleton, hm']
        constructor
        · rintro (⟨j, hj, h⟩ | rfl)
          · exact ⟨j, by omega, h⟩
          · exact ⟨m, by omega, List.getElem?_eq_getElem _⟩
        · rintro ⟨j, hj, h⟩
          by_cases hjm : j = m
          · subst hjm
            right
            rw [List.getElem?_eq_getElem (by omega)] at h
            exact (Option.some.inj h).symm
          · exact .inl ⟨j, by omega, h⟩
    · rw [if_neg hk, List.append_nil]
      refine ⟨h1, fun x => ?_⟩
      rw [h2]
      constructor
      · rintro ⟨j, hj, h⟩; exact ⟨j, by omega, h⟩
      · rintro ⟨j, hj, h⟩
        by_cases hjm : j = m
        · subst hjm
          have hj0 : j ≠ 0 := by rintro rfl; simp [keeps] at hk
          have he : zs[j - 1]'(by omega) = zs[j]'(by omega) := by
            unfold keeps at hk
            simp [hj0, show j < zs.length by omega, show j - 1 < zs.length by omega] at hk
            first | exact hk | exact hk.symm
          refine ⟨j - 1, by omega, ?_⟩
          rw [List.getElem?_eq_getElem (by omega)] at h ⊢
          rw [he]; exact h
        · exact ⟨j, by omega, h⟩
/-- rising, each once: what spec.Rising gives -/
def rising (l : List Int) : List Int := compact (srt l)
theorem rising_asc (l : List Int) : Asc (rising l) := (compact_asc_aux (srt l) (srt_le l) _ (Nat.le_refl _)).1
theorem mem_rising {l : List Int} {x : Int} : x ∈ rising l ↔ x ∈ l := by
  rw [show x ∈ rising l ↔ _ from (compact_asc_aux (srt l) (srt_le l) _ (Nat.le_refl _)).2 x]
  rw [← mem_srt (l := l), List.mem_iff_getElem?]
  constructor
  · rintro ⟨j, _, h⟩; exact ⟨j, h⟩
  · rintro ⟨j, h⟩; exact ⟨j, (List.getElem?_eq_some_iff.1 h).1, h⟩
theorem rising_length (l : List Int) : (rising l).length ≤ l.length := by
  rw [← srt_length l]
  unfold rising compact
  have : ∀ (d : Array Int) m, (compactUpTo d m).length ≤ m := by
    intro d m
    unfold compactUpTo
    rw [List.length_map]
    exact Nat.le_trans (List.length_filter_le _ _) (by simp)
  exact this _ _
/-- the union, sorted -/
def insk (ks : List Int) (k : Int) : List Int := if k ∈ ks then ks else ks ++ [k]
theorem mem_insk {ks : List Int} {k x : Int} : x ∈ insk ks k ↔ x ∈ ks ∨ x = k := by
  unfold insk
  split
  · rename_i h
    exact ⟨.inl, fun h1 => h1.elim id (fun e => e ▸ h)⟩
  · simp
theorem insk_nodup {ks : List Int} (h : ks.Nodup) (k : Int) : (insk ks k).Nodup := by
  unfold insk
  split
  · exact h
  · rename_i hk
    rw [List.nodup_append]
    exact ⟨h, by simp, fun a ha b hb => by simp at hb; subst hb; intro e; subst e; exact hk ha⟩
theorem insk_length (ks : List Int) (k : Int) : (insk ks k).length ≤ ks.length + 1 := by unfold insk; split <;> simp
/-- lists without doubles: the same members, the same length; and less is fewer -/
theorem nodup_le : ∀ {a b : List Int}, a.Nodup → (∀ x ∈ a, x ∈ b) → a.length ≤ b.length
  | [], _, _, _ => Nat.zero_le _
  | x :: a, b, h, hs => by
    have h1 := List.nodup_cons.1 h
    have hb := hs x (by simp)
    have := nodup_le (a := a) (b := b.erase x) h1.2 (fun y hy => (List.mem_erase_of_ne (fun e => h1.1 (by rw [← e]; exact hy))).2 (hs y (by simp [hy])))
    rw [List.length_erase_of_mem hb] at this
    have := List.length_pos_of_mem hb
    simp; omega
theorem nodup_same {a b : List Int} (ha : a.Nodup) (hb : b.Nodup) (h : ∀ x, x ∈ a ↔ x ∈ b) : a.length = b.length :=
  Nat.le_antisymm (nodup_le ha fun x hx => (h x).1 hx) (nodup_le hb fun x hx => (h x).2 hx)
theorem nodup_eq_of_le {a b : List Int} (ha : a.Nodup) (hs : ∀ x ∈ a, x ∈ b) (hb : b.Nodup) (hl : b.length ≤ a.length) : ∀ x ∈ b, x ∈ a := by
  intro x hx
  refine Classical.byContradiction fun hn => ?_
  have := nodup_le (a := x :: a) (b := b) (List.nodup_cons.2 ⟨hn, ha⟩) (fun y hy => (List.mem_cons.1 hy).elim (fun h => by rw [h]; exact hx) (hs y))
  simp only [List.length_cons] at this
  omega
/-- a set's map: its keys, nothing beside them -/
def unitP (k : Int) : Int × Value := (k, .agg #[])
theorem unit_keys (ks : List Int) : (ks.map unitP).map (·.1) = ks := by simp [unitP, Function.comp_def]
theorem aput_unit (ks : List Int) (k : Int) : aput (ks.map unitP) k (.agg #[]) = (insk ks k).map unitP := by
  unfold aput insk
  rw [unit_keys]
  split
  · rw [List.map_map]
    refine List.map_congr_left fun x hx => ?_
    by_cases h : x = k <;> simp [Function.comp_def, unitP, h]
  · simp [unitP]
theorem aget_unit (ks : List Int) (k : Int) : (aget (ks.map unitP) k).isSome = decide (k ∈ ks) := by
  unfold aget
  rw [Option.isSome_map, Bool.eq_iff_iff, decide_eq_true_eq, List.find?_isSome]
  constructor
  · rintro ⟨p, hp, h⟩
    obtain ⟨x, hx, rfl⟩ := List.mem_map.1 hp
    have h2 : x = k := of_decide_eq_true h
    rw [← h2]; exact hx
  · intro h
    exact ⟨unitP k, List.mem_map_of_mem h, by simp [unitP]⟩
theorem aget_unit_val (ks : List Int) (k : Int) : (aget (ks.map unitP) k).getD (.agg #[]) = .agg #[] := by
  unfold aget
  cases h : (ks.map unitP).find? (fun p => decide (p.1 = k)) with
  | none => rfl
  | some p =>
    obtain ⟨x, _, rfl⟩ := List.mem_map.1 (List.mem_of_find?_eq_some h)
    rfl
end Go.Proofs.YtfefnflcgkanpaaGreatDoor
