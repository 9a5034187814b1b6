/-
  The votes of a history: each is of a kind that spec.Voted is known at, and what is seen behind it is something that laws speak of.
-/
import Derived.Test.YtdokcengcekfgaaGreatDoorHist
namespace Go.Proofs.YtdokcengcekfgaaGreatDoor
open Go.RowKit
set_option linter.unusedSimpArgs false
set_option linter.unusedVariables false

/-- a vote of one of three kinds -/
def VKind (x : VoteD) : Prop :=
  (x.enabled = false ∧ x.cancelled = false) ∨ (∃ e, x = ⟨e, ⟨#[]⟩, ⟨#[]⟩, true, false, ⟨#[]⟩⟩) ∨ ∃ e t, x = ⟨e, ⟨#[]⟩, ⟨#[]⟩, false, true, t⟩
theorem voted_all (g : GD) (x : VoteD) (A : Option Addr) (n cap : Nat) (w : World) (h : VKind x) :
    Calls Tryz.prog 15 #[gdV g A n cap, voteV x] w (VotedAns g x A n cap w) := by
  rcases h with ⟨h1, h2⟩ | ⟨e, rfl⟩ | ⟨e, t, rfl⟩
  · exact voted_any g x A n cap w h1 h2
  · exact voted_cancel g e A n cap w
  · exact voted_enable g e t A n cap w
theorem isE_vt (v : VD) (h : v.ok) : isE (vt v) = false := by
  have := (dec_len (n := v.maj) h.2.1).1
  have h2 : 0 < (vt v).size := by
    show 0 < (vtl v).length
    unfold vtl
    rw [List.length_append]
    omega
  unfold isE
  rw [beq_eq_false_iff_ne]
  omega
theorem isE_nil : isE ⟨#[]⟩ = true := rfl
theorem verOfD_e : verOfD ⟨#[]⟩ = none := verOfD_empty rfl
/-- a vote that may be taken -/
def VFit (g : GD) (x : VoteD) : Prop := VKind x ∧ (voted g x).ok
theorem voted_ok1 {g : GD} (h : g.ok) {x : VoteD} (h1 : x.enabled = false) (h2 : x.cancelled = false) (hc : isE x.cluster = false → VTx x.cluster) (hs : isE x.storage = false → VTx x.storage) : (voted g x).ok where
  c := by
    unfold voted
    simp only
    by_cases hx : isE x.cluster = true
    · rw [if_pos hx]; exact h.c
    · rw [if_neg hx]; exact hc (by simpa using hx)
  s := by
    unfold voted
    simp only
    by_cases hx : isE x.storage = true
    · rw [if_pos hx]; exact h.s
    · rw [if_neg hx]; exact hs (by simpa using hx)
  m := h.m
  d := by
    unfold voted
    simp only [h1, h2]
    exact h.d
  n := h.n
  t := by
    unfold voted
    simp only [h1, h2]
    exact h.t
theorem fit_plain {g : GD} (h : g.ok) {x : VoteD} (h1 : x.enabled = false) (h2 : x.cancelled = false) (hc : isE x.cluster = false → VTx x.cluster) (hs : isE x.storage = false → VTx x.storage) : VFit g x :=
  ⟨.inl ⟨h1, h2⟩, voted_ok1 h h1 h2 hc hs⟩
theorem fit_decide {g : GD} (h : g.ok) {l : Option VD} (hl : Least (g.members.map verOfD) l) : VFit g (voteOf (decideD (verOfD g.cluster) l g.down g.tv)) := by
  cases hd : decideD (verOfD g.cluster) l g.down g.tv with
  | mk o e =>
    cases o with
    | none => exact fit_plain h rfl rfl (fun hx => Bool.noConfusion (isE_nil.symm.trans hx)) (fun hx => Bool.noConfusion (isE_nil.symm.trans hx))
    | some v =>
      have hv := base_ok (decideD_ok h hl hd)
      exact fit_plain h rfl rfl (fun _ => vtx_vt hv) (fun hx => Bool.noConfusion (isE_nil.symm.trans hx))
theorem storageD_ok {g : GD} (h : g.ok) {v : VD} (hs : storageD (verOfD g.cluster) (verOfD g.storage) = some v) : v.ok := by
  cases hc : verOfD g.cluster with
  | none => rw [hc] at hs; simp [storageD] at hs
  | some c =>
    have hb := base_ok (verOfD_some hc).1
    rw [hc] at hs
    unfold storageD at hs
    simp only at hs
    split at hs
    · cases hs
    · split at hs
      · simp only [Option.some.injEq] at hs; subst hs; exact hb
      · split at hs
        · cases hs
        · simp only [Option.some.injEq] at hs; subst hs; exact hb
theorem fit_storage {g : GD} (h : g.ok) : VFit g (stVote vote0 (storageD (verOfD g.cluster) (verOfD g.storage))) := by
  cases hs : storageD (verOfD g.cluster) (verOfD g.storage) with
  | none => exact fit_plain h rfl rfl (fun hx => Bool.noConfusion (isE_nil.symm.trans hx)) (fun hx => Bool.noConfusion (isE_nil.symm.trans hx))
  | some v => exact fit_plain h rfl rfl (fun hx => Bool.noConfusion (isE_nil.symm.trans hx)) (fun _ => vtx_vt (storageD_ok h hs))
theorem fit_can {g : GD} (h : g.ok) (e : Int) : VFit g ⟨e, ⟨#[]⟩, ⟨#[]⟩, true, false, ⟨#[]⟩⟩ :=
  ⟨.inr (.inl ⟨e, rfl⟩), { c := h.c, s := h.s, m := h.m, d := fun hd => by simp [voted] at hd, n := h.n, t := by show (0 : Nat) ≤ 20; decide }⟩
theorem fit_none {g : GD} (h : g.ok) (e : Int) : VFit g ⟨e, ⟨#[]⟩, ⟨#[]⟩, false, false, ⟨#[]⟩⟩ :=
  fit_plain h rfl rfl (fun hx => Bool.noConfusion (isE_nil.symm.trans hx)) (fun hx => Bool.noConfusion (isE_nil.symm.trans hx))
theorem fit_cancel {g : GD} (h : g.ok) : VFit g (canVote vote0 (cancelD g)) := by
  cases hc : cancelD g with
  | true => exact fit_can h 0
  | false => exact fit_none h 0
theorem fit_downCancel {g : GD} (h : g.ok) : VFit g (downCancelD g) := by
  unfold downCancelD
  cases hd : g.down with
  | true => exact fit_can h 0
  | false => exact fit_none h 3
theorem fit_enable {g : GD} (h : g.ok) {to : VD} (hto : to.ok) (k : Nat) : VFit g { enVote vote0 k to with err := errNo k } := by
  unfold enVote
  by_cases hk : k = 0
  · rw [if_pos hk]
    exact ⟨.inr (.inr ⟨errNo k, vt to, rfl⟩), { c := h.c, s := h.s, m := h.m, d := fun _ => ⟨rfl, to, verOfD_vt hto⟩, n := h.n, t := by have := vt_size hto; show (vt to).size ≤ 20; omega }⟩
  · rw [if_neg hk]
    exact fit_none h (errNo k)
/-- the three votes of a decision -/
def histVote (g : GD) (l : Option VD) (i : Nat) : VoteD :=
  if i = 0 then voteOf (decideD (verOfD g.cluster) l g.down g.tv) else if i = 1 then stVote vote0 (storageD (verOfD g.cluster) (verOfD g.storage)) else canVote vote0 (cancelD g)
theorem fit_hist {g : GD} (h : g.ok) {l : Option VD} (hl : Least (g.members.map verOfD) l) (i : Nat) : VFit g (histVote g l i) := by
  unfold histVote
  split
  · exact fit_decide h hl
  · split
    · exact fit_storage h
    · exact fit_cancel h
theorem vote_neq (x : VoteD) (w : World) : (binOp .neq 35 (voteV x) (voteV x)).run Tryz.prog w = .ok (.bool false) w := by
  go_simp
end Go.Proofs.YtdokcengcekfgaaGreatDoor
