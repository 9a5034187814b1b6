/-
  A slice of structs that a call owns, sorted (slices.SortFunc by the shelf).
-/
import Derived.Test.YtphhkphibdiahaaLd
import Derived.Shelf.SlSortCmp.InsertionK
namespace Go.Proofs.Ytphhkphibdiahaa
open Go.RowKit Go.Sort
set_option linter.unusedSimpArgs false
set_option linter.unusedVariables false

section
variable {α : Type} [Inhabited α] {f : α → List Value} {n : Nat} {hn : 0 < n} {hl : ∀ a, (f a).length = n} {h1 : ∀ a, (f a).all (·.oneCell') = true} {p : α → Prop}
theorem own_holdsK {w : World} {ok : Nat → Prop} {base : Nat} {e : TypeId} {g cap : Nat} {xs : List α} (h : OwnP (Rp.flat f n hn hl h1 p) w ok base e (.slice (some ⟨g, 0, none⟩) xs.length cap) xs) : HoldsK f n w g 0 xs.toArray := by
  intro j hj
  rw [size_flatK] at hj
  have hs := h.slice
  obtain ⟨cs, hb⟩ := h.blk (g := g) rfl
  obtain ⟨A, c, hv, _, _, _, hrow⟩ := hs
  simp only [List.cons.injEq, Value.slice.injEq, and_true] at hv
  obtain ⟨rfl, _, _⟩ := hv
  have hj' : j < xs.length * n := by simpa using hj
  have hq : j / n < xs.length := by rw [Nat.div_lt_iff_lt_mul hn]; exact hj'
  obtain ⟨_, hc⟩ := flat_at hrow rfl (List.getElem?_eq_getElem hq)
  have hm := Nat.mod_lt j hn
  have h2 := hc (j % n) _ (List.getElem?_eq_getElem (by rw [hl]; exact hm))
  rw [Nat.zero_add, Nat.mul_comm, Nat.div_add_mod] at h2
  refine ⟨?_, hb.frozen _⟩
  rw [Nat.zero_add, h2, get_flatK _ _ _ _ hj]
  simp [hq, hl, hm]
theorem blk_sortK {enc : α → List Value} {k m : Nat} {w : World} {g : Nat} {T : TypeId} {cur : List Value} {dk : Array α} {os : Array Obj} (hb : Blk w g T cur) (hs : dk.size * k ≤ cur.length) :
    Blk (Proofs.sortWorldK enc k w g 0 m dk os) g T ((flatK enc k dk).toList ++ cur.drop (dk.size * k)) ∧ ExtX (fun b => b = g) w (Proofs.sortWorldK enc k w g 0 m dk os) := by
  have hlt := hb.lt
  have hpc : putCells id 0 (flatK enc k dk) cur.toArray = ((flatK enc k dk).toList ++ cur.drop (dk.size * k)).toArray := by
    apply Array.ext
    · simp [putCells]; omega
    · intro i h2 h3
      simp only [putCells, Array.getElem_mapIdx, size_flatK, Nat.zero_le, true_and, Nat.zero_add, Nat.sub_zero, id]
      by_cases hi : i < dk.size * k
      · rw [if_pos hi]
        have : i < (flatK enc k dk).toList.length := by simpa using hi
        simp [List.getElem_append_left, this, hi]
      · rw [if_neg hi]
        simp only [List.getElem_toArray]
        rw [List.getElem_append_right (by simp; omega)]
        simp only [Array.length_toList, size_flatK, List.getElem_drop]
        congr 1
        omega
  refine ⟨?_, rfl, rfl, rfl, by simp [Proofs.sortWorldK, grow, putRowK, putRow, mapBlock, Sort.ahead], fun i hi hne => ?_⟩
  · unfold Blk Proofs.sortWorldK grow putRowK putRow mapBlock Sort.ahead
    simp only
    rw [Array.getElem?_append_left (by simpa using hlt), Array.getElem?_modify, if_pos rfl, hb]
    simp only [Option.map_some, onCells, hpc]
  · unfold Proofs.sortWorldK grow putRowK putRow mapBlock Sort.ahead
    simp only
    rw [Array.getElem?_append_left (by simpa using hi), Array.getElem?_modify, if_neg (fun h => hne h.symm)]
theorem own_sorted {w : World} {ok : Nat → Prop} {base : Nat} {e : TypeId} {g cap m : Nat} {xs : List α} {dk : Array α} {os : Array Obj} (h : OwnP (Rp.flat f n hn hl h1 p) w ok base e (.slice (some ⟨g, 0, none⟩) xs.length cap) xs) (hd : dk.size = xs.length) (hp : ∀ x ∈ dk.toList, p x) :
    OwnP (Rp.flat f n hn hl h1 p) (Proofs.sortWorldK f n w g 0 m dk os) ok base e (.slice (some ⟨g, 0, none⟩) xs.length cap) dk.toList ∧ ExtX (fun b => b = g) w (Proofs.sortWorldK f n w g 0 m dk os) := by
  obtain ⟨h0, cells, ⟨hc1, hc2⟩, _⟩ := id h
  rcases hc2 with ⟨hv, _⟩ | ⟨g', cap', cur, hv, hb, hg, hc, hm, hs, ht⟩
  · cases hv
  · simp only [Value.slice.injEq, Option.some.injEq, Addr.mk.injEq, and_true, true_and] at hv
    obtain ⟨rfl, rfl⟩ := hv
    have hsz : (Rp.flat f n hn hl h1 p).sz = n := rfl
    have hle : dk.size * n ≤ cur.toList.length := by
      rw [hd, show cur.toList.length = cur.size from Array.length_toList, hs, hsz]
      exact Nat.mul_le_mul_right _ hc
    obtain ⟨hb2, hx⟩ := blk_sortK (enc := f) (k := n) (m := m) (w := w) (g := g) (T := e) (cur := cur.toList) (dk := dk) (os := os) (by unfold Blk; simpa using hg) hle
    have hfl : (flatK f n dk).toList.length = dk.size * n := by simp
    refine ⟨⟨h0, (flatK f n dk).toList, ⟨by rw [hfl, show dk.toList.length = dk.size from Array.length_toList, hsz], .inr ⟨g, cap, _, by rw [show dk.toList.length = dk.size from Array.length_toList, hd], hb, hb2, by rw [show dk.toList.length = dk.size from Array.length_toList, hd]; exact hc, hm, ?_, ?_⟩⟩, fun i x hi => ⟨?_, hp x (List.mem_of_getElem? hi)⟩⟩, hx⟩
    · rw [List.size_toArray, List.length_append, List.length_drop, hfl, show cur.toList.length = cur.size from Array.length_toList, hs, hsz]
      rw [show cur.toList.length = cur.size from Array.length_toList, hs, hsz] at hle
      omega
    · rw [hsz, show dk.toList.length = dk.size from Array.length_toList, List.take_left' hfl]
    · rw [hsz]
      have hi' : i < dk.size := by have := (List.getElem?_eq_some_iff.1 hi).1; simpa using this
      have hle2 : (i + 1) * n ≤ dk.size * n := Nat.mul_le_mul_right _ hi'
      rw [Nat.add_mul, Nat.one_mul] at hle2
      apply List.ext_getElem
      · rw [List.length_take, List.length_drop, hfl, hl]; omega
      · intro j h2 h3
        rw [hl] at h3
        rw [List.getElem_take, List.getElem_drop]
        have hj : i * n + j < dk.size * n := by omega
        have e1 : (i * n + j) / n = i := (blk_iff n i _ hn).1 ⟨by omega, by omega⟩
        have e2 : (i * n + j) % n = j := by rw [Nat.mod_eq_sub_div_mul, e1]; omega
        have h4 := get_flatK f n dk _ hj
        rw [e1, e2] at h4
        have hx' : dk[i]! = x := by
          have := (List.getElem?_eq_some_iff.1 hi).2
          rw [getElem!_pos dk i hi']
          simpa using this
        rw [hx', getElem!_pos _ _ (by simpa using hj), getElem!_pos _ _ (by rw [hl]; exact h3)] at h4
        simpa using h4
end
end Go.Proofs.Ytphhkphibdiahaa
