/-
  A cache as a list of pairs, the one that was used last first (plain).
-/
import Derived.Test.YtphhkphibdiahaaLh
namespace Go.Proofs.Ytphhkphibdiahaa
set_option linter.unusedVariables false

abbrev PL := List (Int × Int)
structure OpD where
  kind : Int
  key : Int
  val : Int
structure AnD where
  ok : Bool
  val : Int
  out : PL
abbrev ksP (L : PL) : List Int := L.map (·.1)
def valP (L : PL) (k : Int) : Int := ((L.find? fun p => decide (p.1 = k)).map (·.2)).getD 0
def rmP (L : PL) (k : Int) : PL := L.filter fun p => decide (p.1 ≠ k)
def evP (size : Int) (L : PL) : PL × PL := if size ≠ 0 ∧ size < L.length then (L.dropLast, L.getLast?.toList) else (L, [])
def sortP (L : PL) : PL := L.mergeSort fun a b => decide (a.1 ≤ b.1)
def addP (size : Int) (L : PL) (o : OpD) : PL × AnD := if o.key ∈ ksP L then ((o.key, o.val) :: rmP L o.key, ⟨false, 0, []⟩) else ((evP size ((o.key, o.val) :: L)).1, ⟨false, 0, (evP size ((o.key, o.val) :: L)).2⟩)
def getP (L : PL) (o : OpD) : PL × AnD := if o.key ∈ ksP L then ((o.key, valP L o.key) :: rmP L o.key, ⟨true, valP L o.key, []⟩) else (L, ⟨false, 0, []⟩)
def remP (L : PL) (o : OpD) : PL × AnD := if o.key ∈ ksP L then (rmP L o.key, ⟨false, 0, [(o.key, valP L o.key)]⟩) else (L, ⟨false, 0, []⟩)
def doP (size : Int) (L : PL) (o : OpD) : PL × AnD :=
  if o.kind = 1 then addP size L o else if o.kind = 2 then getP L o else if o.kind = 3 then remP L o else if o.kind = 4 then (L.dropLast, ⟨false, 0, L.getLast?.toList⟩) else if o.kind = 5 then (L, ⟨false, L.length, []⟩) else ([], ⟨false, 0, sortP L⟩)
def stP (size : Int) (ops : List OpD) : PL := ops.foldl (fun L o => (doP size L o).1) []
theorem stP_snoc (size : Int) (ops : List OpD) (o : OpD) : stP size (ops ++ [o]) = (doP size (stP size ops) o).1 := by simp [stP]
/-- the answer at a place -/
def anP (size : Int) (ops : List OpD) (k : Nat) (o : OpD) : AnD := (doP size (stP size (ops.take k)) o).2
def ansP (size : Int) : List OpD → PL → List AnD
  | [], _ => []
  | o :: ops, L => (doP size L o).2 :: ansP size ops (doP size L o).1
theorem ansP_snoc (size : Int) (o : OpD) : ∀ (ops : List OpD) (L : PL), ansP size (ops ++ [o]) L = ansP size ops L ++ [(doP size (ops.foldl (fun L o => (doP size L o).1) L) o).2]
  | [], L => rfl
  | p :: ops, L => by simp [ansP, ansP_snoc size o ops]
theorem ansP_length (size : Int) : ∀ (ops : List OpD) (L : PL), (ansP size ops L).length = ops.length
  | [], _ => rfl
  | o :: ops, L => by simp [ansP, ansP_length size ops]
theorem ansP_take {size : Int} {ops : List OpD} {k : Nat} {o : OpD} (h : ops[k]? = some o) : ansP size (ops.take (k + 1)) [] = ansP size (ops.take k) [] ++ [(doP size (stP size (ops.take k)) o).2] := by
  rw [take_snoc' h, ansP_snoc]; rfl
theorem stP_take {size : Int} {ops : List OpD} {k : Nat} {o : OpD} (h : ops[k]? = some o) : stP size (ops.take (k + 1)) = (doP size (stP size (ops.take k)) o).1 := by
  rw [take_snoc' h, stP_snoc]
theorem ansP_get {size : Int} : ∀ {ops : List OpD} {L : PL} {k : Nat} {o : OpD}, ops[k]? = some o → (ansP size ops L)[k]? = some (doP size ((ops.take k).foldl (fun L o => (doP size L o).1) L) o).2
  | o :: ops, L, 0, p, h => by simp at h; subst h; simp [ansP]
  | o :: ops, L, k + 1, p, h => by simp at h; simp [ansP, ansP_get h]

/-! ### What holds of such a list -/
structure InvP (size : Int) (n : Nat) (L : PL) : Prop where
  nd : (ksP L).Nodup
  len : L.length ≤ n
  most : size ≠ 0 → (L.length : Int) ≤ size
theorem mid_of {L : PL} {k : Int} (h : k ∈ ksP L) : ∃ X u Y, L = X ++ (k, u) :: Y := by
  obtain ⟨p, hp, rfl⟩ := List.mem_map.1 h
  obtain ⟨X, Y, rfl⟩ := List.append_of_mem hp
  exact ⟨X, p.2, Y, rfl⟩
theorem nd_mid {X Y : PL} {k u : Int} (h : (ksP (X ++ (k, u) :: Y)).Nodup) : k ∉ ksP X ∧ k ∉ ksP Y := by
  simp only [ksP, List.map_append, List.map_cons] at h
  obtain ⟨_, h2, h3⟩ := List.nodup_append.1 h
  exact ⟨fun hx => h3 k hx k (by simp) rfl, (List.nodup_cons.1 h2).1⟩
theorem rm_none {L : PL} {k : Int} (h : k ∉ ksP L) : rmP L k = L := by
  refine List.filter_eq_self.2 fun p hp => ?_
  simpa using fun e => h (List.mem_map.2 ⟨p, hp, e⟩)
theorem rm_mid {X Y : PL} {k u : Int} (h : (ksP (X ++ (k, u) :: Y)).Nodup) : rmP (X ++ (k, u) :: Y) k = X ++ Y := by
  obtain ⟨h1, h2⟩ := nd_mid h
  have e1 := rm_none h1
  have e2 := rm_none h2
  unfold rmP at *
  rw [List.filter_append, List.filter_cons, e1, e2]
  simp
theorem val_mid {X Y : PL} {k u : Int} (h : (ksP (X ++ (k, u) :: Y)).Nodup) : valP (X ++ (k, u) :: Y) k = u := by
  obtain ⟨h1, h2⟩ := nd_mid h
  unfold valP
  rw [List.find?_append, List.find?_eq_none.2 (fun p hp => by simpa using fun e => h1 (List.mem_map.2 ⟨p, hp, e⟩))]
  simp
theorem nd_rm {L : PL} {k : Int} (h : (ksP L).Nodup) : (ksP (rmP L k)).Nodup := h.sublist (List.Sublist.map _ List.filter_sublist)
theorem not_rm (L : PL) (k : Int) : k ∉ ksP (rmP L k) := by
  intro h
  obtain ⟨p, hp, e⟩ := List.mem_map.1 h
  exact absurd e (by simpa using (List.mem_filter.1 hp).2)
theorem len_rm (L : PL) (k : Int) : (rmP L k).length ≤ L.length := List.length_filter_le _ _
theorem len_rm_lt {L : PL} {k : Int} (h : k ∈ ksP L) : (rmP L k).length < L.length := by
  obtain ⟨p, hp, e⟩ := List.mem_map.1 h
  unfold rmP
  rw [List.length_filter_lt_length_iff_exists]
  exact ⟨p, hp, by simp [e]⟩
theorem ev_spec {size : Int} {n : Nat} {L : PL} {k u : Int} (hs : 0 ≤ size) (h : InvP size n L) (hk : k ∉ ksP L) : InvP size (n + 1) (evP size ((k, u) :: L)).1 ∧ (evP size ((k, u) :: L)).2.length ≤ 1 := by
  have hnd : (ksP ((k, u) :: L)).Nodup := List.nodup_cons.2 ⟨hk, h.nd⟩
  unfold evP
  split
  · rename_i hc
    refine ⟨⟨hnd.sublist (List.Sublist.map _ (List.dropLast_sublist _)), by have := h.len; simp; omega, fun h0 => by have := h.most h0; simp; omega⟩, ?_⟩
    cases ((k, u) :: L).getLast? <;> simp
  · rename_i hc
    refine ⟨⟨hnd, by have := h.len; simp; omega, fun h0 => ?_⟩, by simp⟩
    simp only [not_and] at hc
    have := hc h0
    show (((k, u) :: L).length : Int) ≤ size
    omega
theorem do_inv {size : Int} {n : Nat} {L : PL} (o : OpD) (hs : 0 ≤ size) (h : InvP size n L) : InvP size (n + 1) (doP size L o).1 := by
  have hu : ∀ k u, k ∈ ksP L → InvP size (n + 1) ((k, u) :: rmP L k) := fun k u hk =>
    ⟨List.nodup_cons.2 ⟨not_rm L k, nd_rm h.nd⟩, by have := h.len; have := len_rm L k; simp; omega, fun h0 => by have := h.most h0; have := len_rm_lt hk; simp; omega⟩
  have hsame : InvP size (n + 1) L := ⟨h.nd, by have := h.len; omega, h.most⟩
  unfold doP
  split
  · unfold addP
    split
    · exact hu _ _ (by assumption)
    · exact (ev_spec hs h (by assumption)).1
  split
  · unfold getP
    split
    · exact hu _ _ (by assumption)
    · exact hsame
  split
  · unfold remP
    split
    · exact ⟨nd_rm h.nd, by have := h.len; have := len_rm L o.key; simp; omega, fun h0 => by have := h.most h0; have := len_rm L o.key; simp; omega⟩
    · exact hsame
  split
  · exact ⟨h.nd.sublist (List.Sublist.map _ (List.dropLast_sublist _)), by have := h.len; simp; omega, fun h0 => by have := h.most h0; simp; omega⟩
  split
  · exact hsame
  · exact ⟨by simp, by simp, fun h0 => by simp; exact hs⟩
theorem st_inv {size : Int} (hs : 0 ≤ size) : ∀ ops : List OpD, InvP size ops.length (stP size ops) := by
  have : ∀ (m : Nat) (ops : List OpD), ops.length = m → InvP size m (stP size ops) := by
    intro m
    induction m with
    | zero => intro ops h; rw [List.eq_nil_of_length_eq_zero h]; exact ⟨by simp [stP], by simp [stP], fun _ => by simp [stP]; exact hs⟩
    | succ m ih =>
      intro ops h
      rcases List.eq_nil_or_concat ops with rfl | ⟨A, o, rfl⟩
      · simp at h
      · rw [List.concat_eq_append] at h ⊢
        rw [stP_snoc]
        exact do_inv o hs (ih A (by simpa using h))
  exact fun ops => this _ ops rfl
theorem len_sort (L : PL) : (sortP L).length = L.length := List.length_mergeSort L
/-- how much goes out -/
theorem out_len {size : Int} {n : Nat} {L : PL} (o : OpD) (hs : 0 ≤ size) (h : InvP size n L) : (doP size L o).2.out.length ≤ n + 1 := by
  unfold doP
  split
  · unfold addP
    split
    · simp
    · have := (ev_spec (k := o.key) (u := o.val) hs h (by assumption)).2
      simp only
      omega
  split
  · unfold getP; split <;> simp
  split
  · unfold remP; split <;> simp
  split
  · simp only; cases L.getLast? <;> simp
  split
  · simp
  · simp only [len_sort]; have := h.len; omega
/-- in order of the keys -/
theorem sortP_eq {L l : PL} (hn : (ksP L).Nodup) (hp : l.Perm L) (hs : l.Pairwise fun a b => ¬ b.1 < a.1) : l = sortP L := by
  have h1 : (sortP L).Pairwise fun a b => a.1 ≤ b.1 := by
    have := List.pairwise_mergeSort (le := fun a b : Int × Int => decide (a.1 ≤ b.1)) (fun a b c h1 h2 => by simp at *; omega) (fun a b => by simp; omega) L
    exact this.imp fun h => by simpa using h
  refine List.Perm.eq_of_pairwise (le := fun a b : Int × Int => a.1 ≤ b.1) (fun a b ha hb h1 h2 => ?_) (hs.imp fun h => by omega) h1 (hp.trans (List.mergeSort_perm L _).symm)
  exact inj_of_map hn (hp.mem_iff.1 ha) ((List.mergeSort_perm L _).mem_iff.1 hb) (by omega)
end Go.Proofs.Ytphhkphibdiahaa
