/-
  A response of two events is cut in two (frLive).
-/
import Derived.Test.YtmimpfenlhfkiaaGood
namespace Go.Proofs.Ytmimpfenlhfkiaa
open Go.RowKit
set_option linter.unusedSimpArgs false
set_option linter.unusedVariables false

abbrev evA (s : ByteArray) : EvD := ⟨false, ⟨s, ⟨#[]⟩, 0, 0, 0, 0⟩, false, ⟨⟨#[]⟩, ⟨#[]⟩, 0, 0, 0, 0⟩⟩
abbrev twoEv : RespD := ⟨0, 0, false, false, 0, ⟨#[]⟩, false, [evA ⟨#[97]⟩, evA ⟨#[98]⟩]⟩
theorem ev_mk {w : World} {ok : Nat → Prop} {s : ByteArray} (h : s.size ≤ maxLen) (h0 : (⟨#[]⟩ : ByteArray).size ≤ maxLen) (_ : True) (_ : True) : Rp.ev.K w ok (evA s) (evCells (evA s)) := by
  have kv : ∀ s : ByteArray, s.size ≤ maxLen → Rp.kv.K w ok ⟨s, ⟨#[]⟩, 0, 0, 0, 0⟩ (kvCells ⟨s, ⟨#[]⟩, 0, 0, 0, 0⟩) := fun s hs =>
    ⟨[_], _, rfl, ⟨rfl, hs⟩, [_], _, rfl, ⟨rfl, h0⟩, [_], _, rfl, ⟨rfl, rfl⟩, [_], _, rfl, ⟨rfl, rfl⟩, [_], _, rfl, ⟨rfl, rfl⟩, rfl, rfl⟩
  exact ⟨[_], _, rfl, rfl, kvCells ⟨s, ⟨#[]⟩, 0, 0, 0, 0⟩, _, rfl, kv s h, [_], _, rfl, rfl, kv ⟨#[]⟩ h0⟩
theorem parts_one {x : RespD} {fs : List (List EvD)} (h : ∀ f ∈ fs, f ≠ [] ∧ (1 < f.length → (part x true f).size < 1)) : ∀ f ∈ fs, f.length = 1 := by
  intro f hf
  obtain ⟨h1, h2⟩ := h f hf
  have h3 := List.length_pos_iff.2 h1
  by_cases h4 : 1 < f.length
  · have := h2 h4
    unfold RespD.size RespD.bare blen at this
    omega
  · omega
theorem frags_two {rs : List RespD} (h : FragsOf twoEv 1 rs) : ∃ a b, rs = [part twoEv true a, part twoEv false b] := by
  rcases h with ⟨h | h, _⟩ | ⟨_, _, fs, l, hf, hg, rfl⟩
  · unfold RespD.size RespD.bare blen at h; omega
  · exact absurd h (by decide)
  · have h1 := parts_one hg
    have hl : ∀ gs : List (List EvD), (∀ f ∈ gs, f.length = 1) → gs.flatten.length = gs.length := by
      intro gs
      induction gs with
      | nil => intro _; rfl
      | cons g gs ih =>
        intro hh
        rw [List.flatten_cons, List.length_append, hh g (by simp), ih (fun f hf => hh f (by simp [hf])), List.length_cons]; omega
    have h2 := hl _ h1
    rw [List.flatten_append, List.flatten_singleton, hf] at h2
    simp at h2
    match fs, h2 with
    | [a], _ => exact ⟨a, l, rfl⟩
set_option maxHeartbeats 1000000 in
set_option maxRecDepth 20000 in
theorem live_any (w : World) : Calls Try.prog 7 #[] w fun e w' => e = .returned (.bool true) ∧ Ext w w' := by
  go_enter Try.func7, Try.ntmps7
  go_wp2_with fail
  have KS : Blk (w.alloc (.cells (evCells (evA ⟨#[97]⟩) ++ evCells (evA ⟨#[98]⟩)).toArray 37)) w.heap.size 37 (evCells (evA ⟨#[97]⟩) ++ evCells (evA ⟨#[98]⟩)) := Blk.new w _ _
  have hs : (Rp.slice Rp.ev).K (w.alloc (.cells (evCells (evA ⟨#[97]⟩) ++ evCells (evA ⟨#[98]⟩)).toArray 37)) any twoEv.events [.slice (some ⟨w.heap.size, 0, none⟩) 2 2] := by
    refine slice_of_blk KS trivial (show (28 : Nat) ≤ 28 from Nat.le_refl _) (fun i x hx => ?_) (by decide) (by decide)
    match i, hx with
    | 0, hx =>
      obtain rfl : evA ⟨#[97]⟩ = x := by simpa using hx
      exact ev_mk (by decide) (by decide) trivial trivial
    | 1, hx =>
      obtain rfl : evA ⟨#[98]⟩ = x := by simpa using hx
      exact ev_mk (by decide) (by decide) trivial trivial
    | n + 2, hx => simp at hx
  have HS := Lib.hid ((Rp.slice Rp.ev).ext' ((Ext.refl _).alloc (.cells (sentCells twoEv (some ⟨w.heap.size, 0, none⟩) 2).toArray 24)) hs)
  refine (fragments_any twoEv (some ⟨w.heap.size, 0, none⟩) 2 1 _ (by decide) (by decide) (fun y hy => ?_) (by decide) HS.out).mono ?_
  · simp [twoEv] at hy
    rcases hy with rfl | rfl <;> exact ⟨⟨by decide, by decide, by decide, by decide⟩, fun _ => rfl⟩
  rintro e w2 ⟨v, rs, rfl, hf, hv, E2⟩
  obtain ⟨a, b, rfl⟩ := frags_two hf
  obtain ⟨A, cap, hvv, p1, p2, p3, hrow⟩ := hv
  simp only [List.cons.injEq, and_true] at hvv
  subst hvv
  obtain ⟨ba, o, rfl, _⟩ := hrow.addr (by simp)
  obtain ⟨cs1, _, ⟨A1, k1, rfl, _⟩, hc1⟩ := hrow.at rfl (i := 0) (x := part twoEv true a) rfl
  obtain ⟨cs2, _, ⟨A2, k2, rfl, _⟩, hc2⟩ := hrow.at rfl (i := 1) (x := part twoEv false b) rfl
  have c1 := hc1 5 (by decide)
  have c2 := hc2 5 (by decide)
  have c1' : w2.cell? ⟨ba, o + 5, none⟩ = some (.bool true) := by simpa [Rp.sent, part] using c1
  have c2' : w2.cell? ⟨ba, o + 8 + 5, none⟩ = some (.bool false) := by simpa [Rp.sent, part, Nat.add_assoc] using c2
  have c2'' : w2.cell? ⟨ba, o + 13, none⟩ = some (.bool false) := c2'
  clear c1 c2 hc1 hc2 hrow hf
  rw [show ([part twoEv true a, part twoEv false b] : List RespD).length = 2 from rfl] at *
  go_wp2
  go_ret
  exact ⟨rfl, (((Ext.refl w).alloc _).alloc _).trans E2⟩
end Go.Proofs.Ytmimpfenlhfkiaa
