/-
  What is seen behind a vote (spec.Voted).
-/
import Derived.Test.YtdokcengcekfgaaGreatDoorStorage
namespace Go.Proofs.YtdokcengcekfgaaGreatDoor
open Go.RowKit Go.Maps
set_option linter.unusedSimpArgs false
set_option linter.unusedVariables false

def isE (s : ByteArray) : Bool := s.size == 0
/-- what is seen behind a vote -/
def voted (g : GD) (x : VoteD) : GD :=
  ⟨if isE x.cluster then g.cluster else x.cluster, if isE x.storage then g.storage else x.storage, if x.cancelled then ⟨#[]⟩ else if x.enabled then x.target else g.target,
   if x.cancelled then false else if x.enabled then true else g.down, if x.cancelled then true else if x.enabled then true else g.hasDown, g.members⟩
def VotedAns (g : GD) (x : VoteD) (A : Option Addr) (n cap : Nat) (w : World) (e : Ending) (w' : World) : Prop := e = .returned (gdV (voted g x) A n cap) ∧ Ext w w'
theorem isE_yes {s : ByteArray} (h : isE s = true) : s.toList = [] := bytes_empty (by simpa [isE] using h)
theorem isE_no {s : ByteArray} (h : isE s = false) : s.toList.isEmpty = false := bytes_full (by simpa [isE] using h)
set_option maxRecDepth 20000 in
set_option maxHeartbeats 4000000 in
theorem voted_any (g : GD) (x : VoteD) (A : Option Addr) (n cap : Nat) (w : World) (h1 : x.enabled = false) (h2 : x.cancelled = false) :
    Calls Tryz.prog 15 #[gdV g A n cap, voteV x] w (VotedAns g x A n cap w) := by
  obtain ⟨xe, xc, xs, xn, xb, xt⟩ := x
  simp only at h1 h2
  subst h1 h2
  obtain ⟨gc, gs, gt, gd, gh, gm⟩ := g
  cases hc : isE xc with
  | true =>
    have b1 := isE_yes hc
    replace hc := Lib.hid hc
    cases hs : isE xs with
    | true =>
      have b2 := isE_yes hs
      replace hs := Lib.hid hs
      go_enter Tryz.func15, Tryz.ntmps15
      go_wp2
      refine bodyPost_ret (v := gdV ⟨gc,gs,gt,gd,gh,gm⟩ A n cap) (by simp [results, Tryz.results15, go_sem]) rfl ⟨?_, ?_⟩
      · simp [voted, hc.out,hs.out]
      · exact (((Ext.refl w).alloc _).alloc _).alloc _
    | false =>
      have b2 := isE_no hs
      replace hs := Lib.hid hs
      go_enter Tryz.func15, Tryz.ntmps15
      go_wp2
      refine bodyPost_ret (v := gdV ⟨gc,xs,gt,gd,gh,gm⟩ A n cap) (by simp [results, Tryz.results15, go_sem]) rfl ⟨?_, ?_⟩
      · simp [voted, hc.out,hs.out]
      · exact (((Ext.refl w).alloc _).alloc _).alloc _
  | false =>
    have b1 := isE_no hc
    replace hc := Lib.hid hc
    cases hs : isE xs with
    | true =>
      have b2 := isE_yes hs
      replace hs := Lib.hid hs
      go_enter Tryz.func15, Tryz.ntmps15
      go_wp2
      refine bodyPost_ret (v := gdV ⟨xc,gs,gt,gd,gh,gm⟩ A n cap) (by simp [results, Tryz.results15, go_sem]) rfl ⟨?_, ?_⟩
      · simp [voted, hc.out,hs.out]
      · exact (((Ext.refl w).alloc _).alloc _).alloc _
    | false =>
      have b2 := isE_no hs
      replace hs := Lib.hid hs
      go_enter Tryz.func15, Tryz.ntmps15
      go_wp2
      refine bodyPost_ret (v := gdV ⟨xc,xs,gt,gd,gh,gm⟩ A n cap) (by simp [results, Tryz.results15, go_sem]) rfl ⟨?_, ?_⟩
      · simp [voted, hc.out,hs.out]
      · exact (((Ext.refl w).alloc _).alloc _).alloc _
set_option maxRecDepth 20000 in
set_option maxHeartbeats 4000000 in
theorem voted_cancel (g : GD) (xe : Int) (A : Option Addr) (n cap : Nat) (w : World) :
    Calls Tryz.prog 15 #[gdV g A n cap, voteV ⟨xe, ⟨#[]⟩, ⟨#[]⟩, true, false, ⟨#[]⟩⟩] w (VotedAns g ⟨xe, ⟨#[]⟩, ⟨#[]⟩, true, false, ⟨#[]⟩⟩ A n cap w) := by
  obtain ⟨gc, gs, gt, gd, gh, gm⟩ := g
  go_enter Tryz.func15, Tryz.ntmps15
  go_wp2
  refine bodyPost_ret (v := gdV ⟨gc, gs, ⟨#[]⟩, false, true, gm⟩ A n cap) (by simp [results, Tryz.results15, go_sem]) rfl ⟨?_, ?_⟩
  · rfl
  · exact (((Ext.refl w).alloc _).alloc _).alloc _
set_option maxRecDepth 20000 in
set_option maxHeartbeats 4000000 in
theorem voted_enable (g : GD) (xe : Int) (t : ByteArray) (A : Option Addr) (n cap : Nat) (w : World) :
    Calls Tryz.prog 15 #[gdV g A n cap, voteV ⟨xe, ⟨#[]⟩, ⟨#[]⟩, false, true, t⟩] w (VotedAns g ⟨xe, ⟨#[]⟩, ⟨#[]⟩, false, true, t⟩ A n cap w) := by
  obtain ⟨gc, gs, gt, gd, gh, gm⟩ := g
  go_enter Tryz.func15, Tryz.ntmps15
  go_wp2
  go_region
  all_goals
    go_wp2
    refine bodyPost_ret (v := gdV ⟨gc, gs, t, true, true, gm⟩ A n cap) (by simp [results, Tryz.results15, go_sem]) rfl ⟨?_, ?_⟩
    · rfl
    · first | exact ((((Ext.refl w).alloc _).alloc _).alloc _) | exact ((((Ext.refl w).alloc _).alloc _).alloc _).drew
end Go.Proofs.YtdokcengcekfgaaGreatDoor
