/-
  Members by their hash: a map of owned slices ('Grp').
-/
import Derived.Test.YthnhgfpkmbgkdaaCt
namespace Go.Proofs.Ythnhgfpkmbgkdaa
open Go.RowKit
set_option linter.unusedSimpArgs false
set_option linter.unusedVariables false

/-- map m holds, by hash, slices of the call's own that read as lists of IDs -/
structure Grp (w : World) (m B : Nat) (gs : List (Int × Value × List Int)) : Prop where
  map : MapL (Value.int .u32) w m (gs.map (fun g => (g.1, g.2.1)))
  own : ∀ g ∈ gs, OwnP Rp.u64 w (fun k => k ≠ m) B 70 g.2.1 g.2.2
  ap : gs.Pairwise (fun g g' => ∀ k, g.2.1.ownBlock = some k → g'.2.1.ownBlock ≠ some k)
  lb : B ≤ m
/-- its own blocks -/
def GPriv (m : Nat) (gs : List (Int × Value × List Int)) (k : Nat) : Prop := k = m ∨ ∃ g ∈ gs, g.2.1.ownBlock = some k
namespace Grp
variable {w w' : World} {m B : Nat} {gs : List (Int × Value × List Int)}
theorem priv (h : Grp w m B gs) {k : Nat} (hk : GPriv m gs k) : B ≤ k ∧ k < w.heap.size := by
  rcases hk with rfl | ⟨g, hg, hk⟩
  · exact ⟨h.lb, h.map.lt⟩
  · exact (h.own g hg).own k hk
theorem extX {M : Nat → Prop} (h : Grp w m B gs) (x : ExtX M w w') (hM : ∀ k, GPriv m gs k → ¬ M k) : Grp w' m B gs :=
  ⟨h.map.extX x (hM m (.inl rfl)), fun g hg => (h.own g hg).flat' x (fun k hk => hM k (.inr ⟨g, hg, hk⟩)) (h.own g hg).1, h.ap, h.lb⟩
theorem ext (h : Grp w m B gs) (x : Ext w w') : Grp w' m B gs := h.extX (x.toX (fun _ => False)) (fun _ _ h => h)
theorem keys (gs : List (Int × Value × List Int)) : (gs.map (fun g => (g.1, g.2.1))).map (·.1) = gs.map (·.1) := by rw [List.map_map]; rfl
theorem nodup (h : Grp w m B gs) : (gs.map (·.1)).Nodup := by rw [← keys]; exact h.map.nodup
/-- a new group -/
theorem add {P : Program} {t kt e : TypeId} (C : KeyCls P kt (Value.int .u32)) (ht : P.underlying t = some (.map kt e)) (h : Grp w m B gs) {x : Int} (hx : x ∉ gs.map (·.1)) {v : Value} {ids : List Int} (hv : OwnP Rp.u64 w (fun k => k ≠ m) B 70 v ids)
    (hf : ∀ g ∈ gs, ∀ k, g.2.1.ownBlock = some k → v.ownBlock ≠ some k) :
    ∃ w', (Instr.mapUpdate t (.map (some m)) (.int .u32 x) v).run P w = .ok () w' ∧ Grp w' m B (gs ++ [(x, v, ids)]) ∧ ExtX (fun k => k = m) w w' ∧ w'.heap.size = w.heap.size := by
  obtain ⟨w', hr, hm, hX, hs⟩ := h.map.put C ht x v
  refine ⟨w', hr, ⟨?_, fun g hg => ?_, ?_, h.lb⟩, hX, hs⟩
  · unfold aput at hm
    rw [keys, if_neg hx] at hm
    rw [List.map_append]
    exact hm
  · rcases List.mem_append.1 hg with hg | hg
    · exact (h.own g hg).flat' hX (fun k hk => (h.own g hg).1 k hk) (h.own g hg).1
    · rw [List.mem_singleton] at hg
      subst hg
      exact hv.flat' hX (fun k hk => hv.1 k hk) hv.1
  · rw [List.pairwise_append]
    refine ⟨h.ap, by simp, fun g hg g' hg' => ?_⟩
    rw [List.mem_singleton] at hg'
    subst hg'
    exact hf g hg
/-- a group grows -/
def grow (gs : List (Int × Value × List Int)) (x : Int) (v : Value) (ids : List Int) : List (Int × Value × List Int) := gs.map (fun g => if g.1 = x then (x, v, ids) else g)
theorem mem_grow {g : Int × Value × List Int} {x : Int} {v : Value} {ids : List Int} (h : g ∈ grow gs x v ids) : g = (x, v, ids) ∨ (g ∈ gs ∧ g.1 ≠ x) := by
  obtain ⟨g0, hg0, rfl⟩ := List.mem_map.1 h
  by_cases hx : g0.1 = x
  · rw [if_pos hx]; exact .inl rfl
  · rw [if_neg hx]; exact .inr ⟨hg0, hx⟩
theorem put {P : Program} {t kt e : TypeId} (C : KeyCls P kt (Value.int .u32)) (ht : P.underlying t = some (.map kt e)) {w0 : World} (h : Grp w0 m B gs) {x : Int} {v0 v : Value} {ids0 ids : List Int} (hg0 : (x, v0, ids0) ∈ gs)
    (hx0 : ExtX (fun k => some k = v0.ownBlock) w0 w) (hv : OwnP Rp.u64 w (fun k => k ≠ m) B 70 v ids) (hf : v.ownBlock = v0.ownBlock ∨ ∀ g, v.ownBlock = some g → w0.heap.size ≤ g) :
    ∃ w', (Instr.mapUpdate t (.map (some m)) (.int .u32 x) v).run P w = .ok () w' ∧ Grp w' m B (grow gs x v ids) ∧ ExtX (fun k => k = m ∨ some k = v0.ownBlock) w0 w' ∧ w'.heap.size = w.heap.size ∧ ExtX (fun k => k = m) w w' := by
  have hm0 : ¬ some m = v0.ownBlock := fun he => (h.own _ hg0).1 m he.symm rfl
  have hnd := h.nodup
  have hother : ∀ g ∈ gs, g.1 ≠ x → ∀ k, g.2.1.ownBlock = some k → v0.ownBlock ≠ some k := by
    intro g hg hgx k hk he
    obtain ⟨i, hi⟩ := List.mem_iff_getElem?.1 hg
    obtain ⟨j, hj⟩ := List.mem_iff_getElem?.1 hg0
    have hij : i ≠ j := fun e => by subst e; rw [hi] at hj; have := Option.some.inj hj; rw [this] at hgx; exact hgx rfl
    have hp := List.pairwise_iff_getElem.1 h.ap
    obtain ⟨hil, hie⟩ := List.getElem?_eq_some_iff.1 hi
    obtain ⟨hjl, hje⟩ := List.getElem?_eq_some_iff.1 hj
    rcases Nat.lt_or_gt_of_ne hij with hlt | hlt
    · exact hp i j hil hjl hlt k (by rw [hie]; exact hk) (by rw [hje]; exact he)
    · exact hp j i hjl hil hlt k (by rw [hje]; exact he) (by rw [hie]; exact hk)
  obtain ⟨w', hr, hm, hX, hs⟩ := (h.map.extX hx0 hm0).put C ht x v
  have hnew : ∀ g ∈ gs, g.1 ≠ x → ∀ k, g.2.1.ownBlock = some k → v.ownBlock ≠ some k := by
    intro g hg hgx k hk he
    rcases hf with hf | hf
    · exact hother g hg hgx k hk (by rw [← hf]; exact he)
    · have h1 := hf k he
      have h2 := ((h.own g hg).own k hk).2
      omega
  refine ⟨w', hr, ⟨?_, fun g hg => ?_, ?_, h.lb⟩, (hx0.mono (fun k _ hk => .inr hk)).trans' hX (fun k _ hk => .inl hk), hs, hX⟩
  · unfold aput at hm
    rw [keys, if_pos (List.mem_map.2 ⟨_, hg0, rfl⟩)] at hm
    have : (grow gs x v ids).map (fun g => (g.1, g.2.1)) = (gs.map (fun g => (g.1, g.2.1))).map (fun p => if p.1 = x then (x, v) else p) := by
      unfold grow
      rw [List.map_map, List.map_map]
      refine List.map_congr_left fun g _ => ?_
      simp only [Function.comp_apply]
      split <;> rfl
    rw [this]; exact hm
  · rcases mem_grow hg with rfl | ⟨hg, hgx⟩
    · exact hv.flat' hX (fun k hk => hv.1 k hk) hv.1
    · exact ((h.own g hg).flat' hx0 (fun k hk hm => hother g hg hgx k hk hm.symm) (h.own g hg).1).flat' hX (fun k hk => (h.own g hg).1 k hk) (h.own g hg).1
  · unfold grow
    rw [List.pairwise_map]
    have hnd2 : gs.Pairwise (fun g g' => g.1 ≠ g'.1) := by rw [List.Nodup, List.pairwise_map] at hnd; exact hnd
    refine ((List.Pairwise.and_mem.1 h.ap).and hnd2).imp fun {g g'} hh k hk => ?_
    obtain ⟨⟨hg, hg', hap⟩, hne⟩ := hh
    by_cases h1 : g.1 = x
    · rw [if_pos h1] at hk
      have h2 : g'.1 ≠ x := fun e => hne (h1.trans e.symm)
      rw [if_neg h2]
      intro he
      exact hnew g' hg' h2 k he hk
    · rw [if_neg h1] at hk
      by_cases h2 : g'.1 = x
      · rw [if_pos h2]; exact hnew g hg h1 k hk
      · rw [if_neg h2]; exact hap k hk
theorem look {P : Program} {t kt e : TypeId} (C : KeyCls P kt (Value.int .u32)) (ht : P.underlying t = some (.map kt e)) (h : Grp w m B gs) {z : Value} (hz : (zeroValue e).run P w = .ok z w) (x : Int) :
    (x ∉ gs.map (·.1) ∧ (Instr.lookup t (.map (some m)) (.int .u32 x) true).run P w = .ok (.tuple #[z, .bool false]) w) ∨
    ∃ v ids, (x, v, ids) ∈ gs ∧ (Instr.lookup t (.map (some m)) (.int .u32 x) true).run P w = .ok (.tuple #[v, .bool true]) w := by
  have hl := h.map.look C ht hz x true
  by_cases hx : x ∈ gs.map (·.1)
  · obtain ⟨⟨y, v, ids⟩, hg, rfl⟩ := List.mem_map.1 hx
    obtain ⟨i, hi⟩ := List.mem_iff_getElem?.1 hg
    have ha := MapL.aget_at (l := gs.map (fun g => (g.1, g.2.1))) h.map.nodup (j := i) (p := (y, v)) (by rw [List.getElem?_map, hi]; rfl)
    simp only at ha hl
    rw [ha] at hl
    exact .inr ⟨v, ids, hg, hl⟩
  · have ha := MapL.aget_none (l := gs.map (fun g => (g.1, g.2.1))) (k := x) (by rw [keys]; exact hx)
    rw [ha] at hl
    exact .inl ⟨hx, hl⟩
theorem shape_add (x : Int) (v : Value) (ids : List Int) : (gs ++ [(x, v, ids)]).map (fun g => (g.1, g.2.2)) = gs.map (fun g => (g.1, g.2.2)) ++ [(x, ids)] := by simp
theorem shape_grow (h : (gs.map (·.1)).Nodup) {x : Int} {v0 v : Value} {ids : List Int} {y : Int} (hg : (x, v0, ids) ∈ gs) : (grow gs x v (ids ++ [y])).map (fun g => (g.1, g.2.2)) = (gs.map (fun g => (g.1, g.2.2))).map (fun g => if g.1 = x then (x, g.2 ++ [y]) else g) := by
  unfold grow
  rw [List.map_map, List.map_map]
  refine List.map_congr_left fun g hgm => ?_
  simp only [Function.comp_apply]
  by_cases hx : g.1 = x
  · rw [if_pos hx, if_pos hx]
    have : g = (x, v0, ids) := by
      obtain ⟨i, hi⟩ := List.mem_iff_getElem?.1 hgm
      obtain ⟨j, hj⟩ := List.mem_iff_getElem?.1 hg
      have hil : i < (gs.map (·.1)).length := by rw [List.length_map]; exact (List.getElem?_eq_some_iff.1 hi).1
      have := (List.getElem?_inj (j := j) hil h).1 (by rw [List.getElem?_map, List.getElem?_map, hi, hj]; simp [hx])
      subst this
      rw [hi] at hj
      exact Option.some.inj hj
    rw [this]
  · rw [if_neg hx, if_neg hx]
theorem shape_keys (gs : List (Int × Value × List Int)) : (gs.map (fun g => (g.1, g.2.2))).map (·.1) = gs.map (·.1) := by rw [List.map_map]; rfl
end Grp
end Go.Proofs.Ythnhgfpkmbgkdaa
