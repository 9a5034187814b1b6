/-
  A round of compact-hash checks (CompactHashCheck), quiet peers.
-/
import Derived.Test.YthnhgfpkmbgkdaaDb
import Derived.Handy
import Derived.Deep.Cut
namespace Go.Proofs.Ythnhgfpkmbgkdaa
open Go.RowKit
set_option linter.unusedSimpArgs false
set_option linter.unusedVariables false

/-- the revisions that are asked for: up to the one that settles the round -/
def askedG (stp : HsD → Bool) : List HsD → List Int
  | [] => []
  | h :: t => h.rev :: if stp h then [] else askedG stp t
/-- what is known to be right behind them -/
def latestG (stp rt : HsD → Bool) (latest : Int) (l : List HsD) : Int := match l.find? stp with
  | some h => latestD latest h.rev (rt h)
  | none => latest
/-- whom an alarm is raised for -/
def alarmG (stp : HsD → Bool) (als : HsD → List Int) (l : List HsD) : List Int := match l.find? stp with
  | some h => als h
  | none => []
theorem askedG_split (stp : HsD → Bool) : ∀ (l : List HsD) (k : Nat), (∀ h ∈ l.take k, stp h = false) → askedG stp l = (l.take k).map (·.rev) ++ askedG stp (l.drop k)
  | [], k, _ => by simp [askedG]
  | h :: t, 0, _ => by simp
  | h :: t, k + 1, hs => by
    have h1 : stp h = false := hs h (by simp)
    simp only [List.take_succ_cons, List.map_cons, List.drop_succ_cons, askedG, h1]
    rw [List.cons_append]
    congr 1
    exact askedG_split stp t k (fun z hz => hs z (by simp [hz]))
theorem find_stop {stp : HsD → Bool} {l : List HsD} {k : Nat} {x : HsD} (h : l[k]? = some x) (hs : ∀ h ∈ l.take k, stp h = false) (hx : stp x = true) : l.find? stp = some x := by
  have h1 : l = l.take k ++ x :: l.drop (k + 1) := by
    obtain ⟨hk, he⟩ := List.getElem?_eq_some_iff.1 h
    rw [← he, ← List.drop_eq_getElem_cons hk, List.take_append_drop]
  rw [h1, List.find?_append, List.find?_eq_none.2 (fun z hz => by simp [hs z hz])]
  simp [hx]
theorem asked_stop {stp : HsD → Bool} {l : List HsD} {k : Nat} {x : HsD} (h : l[k]? = some x) (hs : ∀ h ∈ l.take k, stp h = false) (hx : stp x = true) : askedG stp l = (l.take k).map (·.rev) ++ [x.rev] := by
  rw [askedG_split stp l k hs]
  congr 1
  obtain ⟨hk, he⟩ := List.getElem?_eq_some_iff.1 h
  rw [List.drop_eq_getElem_cons hk, he]
  simp [askedG, hx]
theorem latestG_stop {stp rt : HsD → Bool} {latest : Int} {l : List HsD} {k : Nat} {x : HsD} (h : l[k]? = some x) (hs : ∀ h ∈ l.take k, stp h = false) (hx : stp x = true) : latestG stp rt latest l = latestD latest x.rev (rt x) := by
  unfold latestG; rw [find_stop h hs hx]
theorem alarmG_stop {stp : HsD → Bool} {als : HsD → List Int} {l : List HsD} {k : Nat} {x : HsD} (h : l[k]? = some x) (hs : ∀ h ∈ l.take k, stp h = false) (hx : stp x = true) : alarmG stp als l = als x := by
  unfold alarmG; rw [find_stop h hs hx]
theorem latestG_none {stp rt : HsD → Bool} {latest : Int} {l : List HsD} (hs : ∀ h ∈ l, stp h = false) : latestG stp rt latest l = latest := by
  unfold latestG; rw [List.find?_eq_none.2 (fun z hz => by simp [hs z hz])]
theorem alarmG_none {stp : HsD → Bool} {als : HsD → List Int} {l : List HsD} (hs : ∀ h ∈ l, stp h = false) : alarmG stp als l = [] := by
  unfold alarmG; rw [List.find?_eq_none.2 (fun z hz => by simp [hs z hz])]
/-- what checkPeerHashes answers: settled or not, right or not, whom alarms are raised for -/
def ChkAns (c b B : Nat) (x : HSt) (al rl : List Int) (latest : Int) (h : HsD) (s r : Bool) (av : List Int) (w : World) (e : Ending) (w' : World) : Prop :=
  e = .returned (.bool s) ∧ CkAt w' c b (latestD latest h.rev r) ∧ (∃ va, HAt w' b B { x with alarms := va } (al ++ av) rl ∧ ∀ k, HPriv b { x with alarms := va } k → HPriv b x k ∨ w.heap.size ≤ k) ∧ ExtX (fun k => k = c ∨ HPriv b x k) w w'
/-- quiet peers: settled if all were compared -/
theorem chk_quiet (c b B : Nat) (x : HSt) (al rl : List Int) (latest : Int) (h : HsD) (ps : List CkD) (v : Value) (w : World) (hK : CkAt w c b latest) (hH : HAt w b B x al rl) (hp : (Rp.slice Rp.pp).K w (fun k => k ≠ c) ps [v]) (hl : ps.length ≤ 12)
    (hq : ∀ p ∈ ps, p.has = true → p.comp = h.comp → p.hash = h.hash) (hcb : ¬ HPriv b x c) :
    Calls Try.prog 40 #[.pointer (some ⟨c, 0, none⟩), hsV h, v] w (ChkAns c b B x al rl latest h (cntOf h ps == ps.length) (cntOf h ps == ps.length) [] w) := by
  refine (check_quiet c b B x al rl latest h ps v w hK hH hp hl hq).mono ?_
  rintro e w' ⟨rfl, hk, hx⟩
  have hb : ((cntOf h ps : Int) == (ps.length : Int)) = (cntOf h ps == ps.length) := by
    rw [Bool.eq_iff_iff]; simp only [beq_iff_eq]; omega
  rw [hb] at hk ⊢
  exact ⟨rfl, hk, ⟨x.alarms, by rw [List.append_nil]; exact hH.extX hx (fun k hk he => hcb (by rw [← he]; exact hk)), fun k hk => .inl hk⟩, hx.mono fun _ _ h => .inl h⟩
end Go.Proofs.Ythnhgfpkmbgkdaa
