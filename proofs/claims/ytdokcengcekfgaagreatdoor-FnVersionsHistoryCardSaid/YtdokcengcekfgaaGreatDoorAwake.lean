/-
  What is alive (laws.verAwake), and laws.verThere.
-/
import Derived.Test.YtdokcengcekfgaaGreatDoorVSpec
namespace Go.Proofs.YtdokcengcekfgaaGreatDoor
open Go.RowKit
set_option linter.unusedSimpArgs false
set_option linter.unusedVariables false

theorem vt350 : vt ⟨3, 5, 0⟩ = ⟨#[51, 46, 53, 46, 48]⟩ := by decide +kernel
theorem vt360 : vt ⟨3, 6, 0⟩ = ⟨#[51, 46, 54, 46, 48]⟩ := by decide +kernel
theorem vt361 : vt ⟨3, 6, 1⟩ = ⟨#[51, 46, 54, 46, 49]⟩ := by decide +kernel
theorem vt370 : vt ⟨3, 7, 0⟩ = ⟨#[51, 46, 55, 46, 48]⟩ := by decide +kernel
theorem ok_nums {a b c : Int} (h : 0 ≤ a ∧ a ≤ 9999 ∧ 0 ≤ b ∧ b ≤ 9999 ∧ 0 ≤ c ∧ c ≤ 9999) : (⟨a, b, c⟩ : VD).ok := h
theorem vtx_vt {v : VD} (h : v.ok) : VTx (vt v) := by
  unfold VTx
  rw [verOfD_vt h]
  exact ⟨h, rfl⟩
theorem vtx_empty : VTx ⟨#[]⟩ := ⟨fun c hc => by simp at hc, by decide⟩
def g0 : GD := ⟨⟨#[51, 46, 53, 46, 48]⟩, ⟨#[]⟩, ⟨#[]⟩, false, false, [⟨#[51, 46, 54, 46, 49]⟩, ⟨#[51, 46, 55, 46, 48]⟩]⟩
def g1 : GD := ⟨⟨#[51, 46, 54, 46, 48]⟩, ⟨#[]⟩, ⟨#[]⟩, false, false, []⟩
theorem g0_ok : g0.ok := by
  refine ⟨?_, vtx_empty, ?_, (fun h => by cases h), by decide, by decide⟩
  · show VTx ⟨#[51, 46, 53, 46, 48]⟩
    rw [← vt350]; exact vtx_vt (ok_nums (by decide))
  · intro s hs
    have hs : s ∈ [⟨#[51, 46, 54, 46, 49]⟩, ⟨#[51, 46, 55, 46, 48]⟩] := hs
    rw [← vt361, ← vt370] at hs
    simp only [List.mem_cons, List.mem_nil_iff, or_false] at hs
    rcases hs with rfl | rfl
    · exact vtx_vt (ok_nums (by decide))
    · exact vtx_vt (ok_nums (by decide))
theorem g1_ok : g1.ok := by
  refine ⟨?_, vtx_empty, (fun s hs => by cases hs), (fun h => by cases h), by decide, by decide⟩
  show VTx ⟨#[51, 46, 54, 46, 48]⟩
  rw [← vt360]; exact vtx_vt (ok_nums (by decide))
theorem g0_cluster : verOfD g0.cluster = some ⟨3, 5, 0⟩ := by
  show verOfD ⟨#[51, 46, 53, 46, 48]⟩ = _
  rw [← vt350, verOfD_vt (ok_nums (by decide))]
theorem g1_cluster : verOfD g1.cluster = some ⟨3, 6, 0⟩ := by
  show verOfD ⟨#[51, 46, 54, 46, 48]⟩ = _
  rw [← vt360, verOfD_vt (ok_nums (by decide))]
theorem g0_least : Least (g0.members.map verOfD) (some ⟨3, 6, 1⟩) := by
  have e : g0.members.map verOfD = [some ⟨3, 6, 1⟩, some ⟨3, 7, 0⟩] := by
    show [⟨#[51, 46, 54, 46, 49]⟩, ⟨#[51, 46, 55, 46, 48]⟩].map verOfD = _
    rw [← vt361, ← vt370]
    simp only [List.map_cons, List.map_nil]
    rw [verOfD_vt (ok_nums (by decide)), verOfD_vt (ok_nums (by decide))]
  rw [e]
  refine ⟨by simp, by simp, ?_⟩
  intro u hu
  simp only [List.mem_cons, Option.some.injEq, List.mem_nil_iff, or_false] at hu
  rcases hu with rfl | rfl
  · decide
  · decide
theorem awake_up {l : Option VD} (h : Least (g0.members.map verOfD) l) : voteOf (decideD (verOfD g0.cluster) l g0.down g0.tv) = (⟨0, ⟨#[51, 46, 54, 46, 48]⟩, ⟨#[]⟩, false, false, ⟨#[]⟩⟩ : VoteD) := by
  obtain rfl := h.unique g0_least
  rw [g0_cluster]
  have : decideD (some ⟨3, 5, 0⟩) (some ⟨3, 6, 1⟩) g0.down g0.tv = (some ⟨3, 6, 1⟩, false) := by
    show decideD (some ⟨3, 5, 0⟩) (some ⟨3, 6, 1⟩) false g0.tv = _
    unfold decideD
    simp only [if_false, Bool.false_eq_true]
    rw [if_pos (by decide +kernel)]
  rw [this, ← vt360]
  rfl
theorem awake_down : validD ⟨3, 6, 0⟩ ⟨3, 5, 0⟩ g1.down = 0 := by
  unfold validD
  rw [if_pos (by decide +kernel)]
  rfl
set_option maxRecDepth 20000 in
set_option maxHeartbeats 4000000 in
theorem awake_any (w : World) (hw : VarsOk w) : Calls Tryz.prog 22 #[] w fun e w' => e = .returned (.bool true) ∧ Ext w w' := by
  have HW := Lib.hid hw
  clear hw
  go_enter Tryz.func22, Tryz.ntmps22
  go_wp2_with fail
  obtain ⟨W, hW⟩ : ∃ W, W = w.alloc (.cells #[.string ⟨#[51, 46, 54, 46, 49]⟩, .string ⟨#[51, 46, 55, 46, 48]⟩] 9) := ⟨_, rfl⟩
  have EW : Ext w W := by rw [hW]; exact (Ext.refl _).alloc _
  have KS : Blk W w.heap.size 9 [.string ⟨#[51, 46, 54, 46, 49]⟩, .string ⟨#[51, 46, 55, 46, 48]⟩] := by rw [hW]; exact Blk.new w _ _
  change Calls _ _ _ (w.alloc (.cells #[.string ⟨#[51, 46, 54, 46, 49]⟩, .string ⟨#[51, 46, 55, 46, 48]⟩] 9)) _
  rw [← hW]
  clear hW
  refine (implDecide_any g0 (some ⟨w.heap.size, 0, none⟩) 2 2 W rfl ?_ g0_ok (HW.out.ext EW)).mono ?_
  · refine slice_of_blk (xs := g0.members) KS trivial (Nat.le_refl 2) (fun i x hx => ?_) (Nat.le_refl 2) (by decide)
    match i, hx with
    | 0, hx =>
      obtain rfl := Option.some.inj hx
      exact ⟨rfl, by decide⟩
    | 1, hx =>
      obtain rfl := Option.some.inj hx
      exact ⟨rfl, by decide⟩
    | n + 2, hx => simp [g0] at hx
  rintro e w1 ⟨l, hl, rfl, E1⟩
  rw [awake_up hl]
  have h1 : W.heap.size ≤ w1.heap.size := E1.size
  go_wp2_with fail
  obtain ⟨W1, hW1⟩ : ∃ W1, W1 = w1.alloc (.cells (voteCells (⟨0, ⟨#[51, 46, 54, 46, 48]⟩, ⟨#[]⟩, false, false, ⟨#[]⟩⟩ : VoteD)).toArray 35) := ⟨_, rfl⟩
  have EW1 : Ext w1 W1 := by rw [hW1]; exact (Ext.refl _).alloc _
  have KU : Blk W1 w1.heap.size 35 (voteCells (⟨0, ⟨#[51, 46, 54, 46, 48]⟩, ⟨#[]⟩, false, false, ⟨#[]⟩⟩ : VoteD)) := by rw [hW1]; exact Blk.new w1 _ _
  change Calls _ _ _ (w1.alloc (.cells (voteCells (⟨0, ⟨#[51, 46, 54, 46, 48]⟩, ⟨#[]⟩, false, false, ⟨#[]⟩⟩ : VoteD)).toArray 35)) _
  rw [← hW1]
  clear hW1
  refine (implEnable_any g1 none 0 0 ⟨3, 6, 0⟩ ⟨3, 5, 0⟩ (ok_nums (by decide)) W1 g1_ok (HW.out.ext ((EW.trans E1).trans EW1)) g1_cluster).mono ?_
  rintro e w2 ⟨rfl, E2⟩
  rw [awake_down, show ({ enVote vote0 0 ⟨3, 5, 0⟩ with err := errNo 0 } : VoteD) = (⟨0, ⟨#[]⟩, ⟨#[]⟩, false, true, ⟨#[51, 46, 53, 46, 48]⟩⟩ : VoteD) from by rw [← vt350]; rfl]
  have KU2 := KU.ext E2
  have h2 : w1.heap.size < w2.heap.size := KU2.lt
  have q0 := KU2.cell (o := 0) rfl
  have q1 := KU2.cell (o := 1) rfl
  have q2 := KU2.cell (o := 2) rfl
  have q3 := KU2.cell (o := 3) rfl
  have q4 := KU2.cell (o := 4) rfl
  have q5 := KU2.cell (o := 5) rfl
  have E02 : Ext w w2 := ((EW.trans E1).trans EW1).trans E2
  clear KU KU2 hl
  go_wp2
  go_ret
  exact ⟨rfl, E02.alloc _⟩
theorem there_any (g : GD) (A : Option Addr) (n cap : Nat) (w : World) (hc : g.cluster.size ≤ 2147483647) : Calls Tryz.prog 16 #[gdV g A n cap] w fun e w' => e = .returned (.bool (verOfD g.cluster).isSome) ∧ Ext w w' := by
  go_enter Tryz.func16, Tryz.ntmps16
  go_wp2_with fail
  refine (verOf_any g.cluster _ hc).mono ?_
  rintro e w1 ⟨rfl, E1⟩
  go_wp2
  go_ret
  exact ⟨rfl, (((Ext.refl w).alloc _).trans E1).alloc _⟩
end Go.Proofs.YtdokcengcekfgaaGreatDoor
