/-
  The plain law of FnRollingUp: members that are replaced one by one.
-/
import Derived.Test.YtdokcengcekfgaaDoorFirst
namespace Go.Proofs.YtdokcengcekfgaaDoor
open Go.RowKit
set_option linter.unusedSimpArgs false
set_option linter.unusedVariables false

def newV (m p : Int) : VD := ⟨3, m + 1, p⟩
theorem oldV_ok {m : Int} (h0 : 0 ≤ m) (h1 : m ≤ 9001) : VD.ok ⟨3, m, 0⟩ := ⟨by show (0 : Int) ≤ 3; decide, by show (3 : Int) ≤ 9999; decide, h0, by show m ≤ 9999; omega, by show (0 : Int) ≤ 0; decide, by show (0 : Int) ≤ 9999; decide⟩
theorem newV_ok {m p : Int} (h0 : 0 ≤ m) (h1 : m ≤ 9000) (p0 : 0 ≤ p) (p1 : p ≤ 9999) : (newV m p).ok := ⟨by show (0 : Int) ≤ 3; decide, by show (3 : Int) ≤ 9999; decide, by show 0 ≤ m + 1; omega, by show m + 1 ≤ 9999; omega, p0, p1⟩
/-- how far the replacing has come -/
structure Rolling (m : Int) (n : Nat) (ms : List ByteArray) (ls : List Nat) : Prop where
  len : ms.length = n
  nd : ls.Nodup
  old : ∀ j ∈ ls, ms[j]? = some (Proofs.YtdokcengcekfgaaDoor.old m)
  new : ∀ j, j < n → j ∉ ls → ∃ p, 0 ≤ p ∧ p ≤ 9999 ∧ ms[j]? = some (vt (newV m p))
theorem Rolling.lt {m : Int} {n : Nat} {ms : List ByteArray} {ls : List Nat} (h : Rolling m n ms ls) {j : Nat} (hj : j ∈ ls) : j < n := by
  have := (List.getElem?_eq_some_iff.1 (h.old j hj)).1
  rw [h.len] at this; exact this
theorem Rolling.start (m : Int) (n : Nat) : Rolling m n (List.replicate n (Proofs.YtdokcengcekfgaaDoor.old m)) (List.range n) where
  len := List.length_replicate
  nd := List.nodup_range
  old j hj := by rw [List.getElem?_replicate, if_pos (List.mem_range.1 hj)]
  new j hj hn := absurd (List.mem_range.2 hj) hn
theorem Rolling.step {m p : Int} {n k j : Nat} {ms : List ByteArray} {ls : List Nat} (h : Rolling m n ms ls) (hk : ls[k]? = some j) (p0 : 0 ≤ p) (p1 : p ≤ 9999) : Rolling m n (ms.set j (vt (newV m p))) (ls.take k ++ ls.drop (k + 1)) := by
  obtain ⟨hkl, hkj⟩ := List.getElem?_eq_some_iff.1 hk
  have hls : ls = ls.take k ++ j :: ls.drop (k + 1) := by
    conv => lhs; rw [← List.take_append_drop k ls, List.drop_eq_getElem_cons hkl, hkj]
  have hnd := h.nd
  have hj : j < n := h.lt (List.mem_of_getElem? hk)
  generalize ls.take k = a at *
  generalize ls.drop (k + 1) = b at *
  subst hls
  have hmem : ∀ x, x ∈ a ++ j :: b ↔ x = j ∨ x ∈ a ++ b := by intro x; simp only [List.mem_append, List.mem_cons]; constructor <;> (rintro (h | h | h) <;> simp [h])
  have hnj : j ∉ a ++ b := by
    rw [List.nodup_append] at hnd
    obtain ⟨_, h2, h3⟩ := hnd
    rw [List.nodup_cons] at h2
    rw [List.mem_append]
    rintro (h | h)
    · exact h3 j h j (by simp) rfl
    · exact h2.1 h
  refine ⟨by rw [List.length_set]; exact h.len, ?_, fun x hx => ?_, fun x hx hn => ?_⟩
  · exact List.Nodup.sublist (List.Sublist.append_left (List.sublist_cons_self j b) a) hnd
  · rw [List.getElem?_set_ne (fun e : j = x => hnj (by rw [e]; exact hx))]
    exact h.old x ((hmem x).2 (.inr hx))
  · by_cases hxj : x = j
    · subst hxj
      exact ⟨p, p0, p1, by rw [List.getElem?_set_self (by rw [h.len]; exact hj)]⟩
    · obtain ⟨q, q0, q1, q2⟩ := h.new x hx (by rw [hmem]; exact fun h => h.elim hxj hn)
      exact ⟨q, q0, q1, by rw [List.getElem?_set_ne (fun e => hxj e.symm)]; exact q2⟩
theorem Rolling.mem {m : Int} {n : Nat} {ms : List ByteArray} {ls : List Nat} (h : Rolling m n ms ls) (h0 : 0 ≤ m) (h1 : m ≤ 9000) {x : ByteArray} (hx : x ∈ ms) :
    (x = Proofs.YtdokcengcekfgaaDoor.old m ∧ ls ≠ []) ∨ ∃ p, 0 ≤ p ∧ p ≤ 9999 ∧ x = vt (newV m p) := by
  obtain ⟨i, hi⟩ := List.getElem?_of_mem hx
  have hin : i < n := by rw [← h.len]; exact (List.getElem?_eq_some_iff.1 hi).1
  by_cases hl : i ∈ ls
  · left
    have := h.old i hl
    rw [hi] at this
    exact ⟨Option.some.inj this, List.ne_nil_of_mem hl⟩
  · right
    obtain ⟨p, p0, p1, p2⟩ := h.new i hin hl
    rw [hi] at p2
    exact ⟨p, p0, p1, Option.some.inj p2⟩
theorem Rolling.vtx {m : Int} {n : Nat} {ms : List ByteArray} {ls : List Nat} (h : Rolling m n ms ls) (h0 : 0 ≤ m) (h1 : m ≤ 9000) {x : ByteArray} (hx : x ∈ ms) : ∃ v : VD, v.ok ∧ x = vt v ∧ verOfD x = some v ∧ ((v = ⟨3, m, 0⟩ ∧ ls ≠ []) ∨ ∃ p, v = newV m p) := by
  rcases h.mem h0 h1 hx with ⟨rfl, hl⟩ | ⟨p, p0, p1, rfl⟩
  · exact ⟨_, oldV_ok h0 (by omega), rfl, verOfD_vt (oldV_ok h0 (by omega)), .inl ⟨rfl, hl⟩⟩
  · exact ⟨_, newV_ok h0 h1 p0 p1, rfl, verOfD_vt (newV_ok h0 h1 p0 p1), .inr ⟨p, rfl⟩⟩
/-- the version that stands -/
def stood (m : Int) (ls : List Nat) : ByteArray := if ls = [] then old (m + 1) else old m
def rollG (m : Int) (ms : List ByteArray) (c s : ByteArray) : GD := ⟨c, s, ⟨#[]⟩, false, false, ms⟩
theorem rollG_ok {m : Int} {n : Nat} {ms : List ByteArray} {ls : List Nat} (h : Rolling m n ms ls) (h0 : 0 ≤ m) (h1 : m ≤ 9000) (hn : n ≤ 9) {c s : ByteArray} (hc : VTx c) (hs : VTx s) : (rollG m ms c s).ok where
  c := hc
  s := hs
  m x hx := by obtain ⟨v, hv, rfl, _⟩ := h.vtx h0 h1 hx; exact vtx_vt hv
  d hd := by cases hd
  n := by show ms.length ≤ 12; rw [h.len]; omega
  t := by show (0 : Nat) ≤ 20; decide
theorem old_vtx {m : Int} (h0 : 0 ≤ m) (h1 : m ≤ 9001) : VTx (old m) := vtx_vt (oldV_ok h0 h1)
theorem Rolling.none_not {m : Int} {n : Nat} {ms : List ByteArray} {ls : List Nat} (h : Rolling m n ms ls) (h0 : 0 ≤ m) (h1 : m ≤ 9000) : none ∉ ms.map verOfD := by
  intro hx
  obtain ⟨x, hx, he⟩ := List.mem_map.1 hx
  obtain ⟨v, _, _, hv, _⟩ := h.vtx h0 h1 hx
  rw [hv] at he; cases he
theorem Rolling.some_is {m : Int} {n : Nat} {ms : List ByteArray} {ls : List Nat} (h : Rolling m n ms ls) (h0 : 0 ≤ m) (h1 : m ≤ 9000) {u : VD} (hu : some u ∈ ms.map verOfD) : (u = ⟨3, m, 0⟩ ∧ ls ≠ []) ∨ ∃ p, u = newV m p := by
  obtain ⟨x, hx, he⟩ := List.mem_map.1 hu
  obtain ⟨v, _, _, hv, hw⟩ := h.vtx h0 h1 hx
  rw [hv] at he
  obtain rfl := Option.some.inj he
  exact hw
theorem less_self (v : VD) : less v v = false := by rw [less_no]; omega
theorem Rolling.some_in {m : Int} {n : Nat} {ms : List ByteArray} {ls : List Nat} (h : Rolling m n ms ls) (h0 : 0 ≤ m) (h1 : m ≤ 9000) {o : Option VD} (hl : ls ≠ []) (ho : Least (ms.map verOfD) o) : o = some ⟨3, m, 0⟩ := by
  obtain ⟨j, r, rfl⟩ := List.exists_cons_of_ne_nil hl
  have hj := h.old j (by simp)
  refine Least.unique ho ⟨h.none_not h0 h1, ?_, fun u hu => ?_⟩
  · rw [← verOfD_vt (oldV_ok h0 (by omega : m ≤ 9001))]
    exact List.mem_map_of_mem (List.mem_of_getElem? hj)
  · rcases h.some_is h0 h1 hu with ⟨rfl, _⟩ | ⟨p, rfl⟩
    · exact less_self _
    · rw [less_no]; show ¬ ((3 : Int) < 3 ∨ (3 : Int) = 3 ∧ (m + 1 < m ∨ m + 1 = m ∧ p < 0)); omega
theorem Rolling.over {m : Int} {n : Nat} {ms : List ByteArray} (h : Rolling m n ms []) (hn : 1 ≤ n) (h0 : 0 ≤ m) (h1 : m ≤ 9000) {o : Option VD} (ho : Least (ms.map verOfD) o) : ∃ p, o = some (newV m p) := by
  cases o with
  | none =>
    rcases ho with h2 | h2
    · have := congrArg List.length h2
      rw [List.length_map, h.len] at this
      simp at this; omega
    · exact absurd h2 (h.none_not h0 h1)
  | some v =>
    rcases h.some_is h0 h1 ho.2.1 with ⟨_, h2⟩ | ⟨p, rfl⟩
    · exact absurd rfl h2
    · exact ⟨p, rfl⟩
/-- the votes of a round -/
def vx (m : Int) (ls : List Nat) : VoteD := if ls = [] then ⟨0, old (m + 1), ⟨#[]⟩, false, false, ⟨#[]⟩⟩ else vote0
def vy (m : Int) (ls : List Nat) : VoteD := if ls = [] then ⟨0, ⟨#[]⟩, old (m + 1), false, false, ⟨#[]⟩⟩ else vote0
theorem vote_x {m : Int} {n : Nat} {ms : List ByteArray} {ls : List Nat} (h : Rolling m n ms ls) (hn : 1 ≤ n) (h0 : 1 ≤ m) (h1 : m ≤ 9000) {o : Option VD} (ho : Least (ms.map verOfD) o) (tv : VD) :
    voteOf (decideD (verOfD (old m)) o false tv) = vx m ls := by
  unfold old
  rw [verOfD_vt (oldV_ok (by omega) (by omega : m ≤ 9001))]
  by_cases hl : ls = []
  · subst hl
    obtain ⟨p, rfl⟩ := h.over hn (by omega) h1 ho
    have hv : vchangeV ⟨3, m, 0⟩ (newV m p) = true := by
      simp [vchangeV, vchange, newV, vless]
      exact .inr ⟨by omega, decide_eq_true (by show m < m + 1; omega)⟩
    have hl : less ⟨3, m, 0⟩ (newV m p) = true := by
      rw [less_iff]; show (3 : Int) < 3 ∨ (3 : Int) = 3 ∧ (m < m + 1 ∨ m = m + 1 ∧ 0 < p); omega
    simp only [decideD, hv, hl, Bool.and_self, if_true, Bool.false_eq_true, if_false]
    rfl
  · obtain rfl := h.some_in (by omega) h1 hl ho
    simp only [decideD, less_self, Bool.false_and, Bool.false_eq_true, if_false]
    unfold vx
    rw [if_neg hl]
    rfl
theorem vote_y {m : Int} (h0 : 1 ≤ m) (h1 : m ≤ 9000) (ls : List Nat) : stVote vote0 (storageD (verOfD (stood m ls)) (verOfD (old m))) = vy m ls := by
  unfold stood vy
  by_cases hl : ls = []
  · rw [if_pos hl, if_pos hl]
    unfold old
    rw [verOfD_vt (oldV_ok (by omega) (by omega : m + 1 ≤ 9001)), verOfD_vt (oldV_ok (by omega) (by omega : m ≤ 9001))]
    have h3 : veqV ⟨3, m + 1, 0⟩ ⟨3, 0, 0⟩ = false := by simp [veqV, veq]; omega
    have h4 : (m == m + 1) = false := by simp; omega
    simp only [storageD, h3, Bool.false_eq_true, if_false, h4, Bool.and_false]
    rfl
  · rw [if_neg hl, if_neg hl]
    unfold old
    rw [verOfD_vt (oldV_ok (by omega) (by omega : m ≤ 9001))]
    have h3 : veqV ⟨3, m, 0⟩ ⟨3, 0, 0⟩ = false := by simp [veqV, veq]; omega
    simp only [storageD, h3, Bool.false_eq_true, if_false, beq_self_eq_true, Bool.and_self, if_true]
    rfl
theorem old_size {m : Int} (h0 : 0 ≤ m) (h1 : m ≤ 9001) : (old m).size ≠ 0 ∧ (old m).size ≤ 14 := by
  refine ⟨?_, vtl_len (oldV_ok h0 h1)⟩
  show (vtl _).length ≠ 0
  unfold vtl
  simp
theorem isE_old {m : Int} (h0 : 0 ≤ m) (h1 : m ≤ 9001) : isE (old m) = false := by
  unfold isE
  simpa using (old_size h0 h1).1
theorem vx_form {m : Int} (h0 : 1 ≤ m) (h1 : m ≤ 9000) (ls : List Nat) : ∃ c, vx m ls = ⟨0, c, ⟨#[]⟩, false, false, ⟨#[]⟩⟩ ∧ (ls = [] → c.size ≠ 0) ∧ (ls ≠ [] → c.size = 0) := by
  unfold vx
  by_cases hl : ls = []
  · rw [if_pos hl]
    exact ⟨_, rfl, fun _ => (old_size (by omega) (by omega)).1, fun h => absurd hl h⟩
  · rw [if_neg hl]
    exact ⟨⟨#[]⟩, rfl, fun h => absurd h hl, fun _ => rfl⟩
theorem vy_form {m : Int} (h0 : 1 ≤ m) (h1 : m ≤ 9000) (ls : List Nat) : ∃ c, vy m ls = ⟨0, ⟨#[]⟩, c, false, false, ⟨#[]⟩⟩ ∧ (ls = [] → c.size ≠ 0) ∧ (ls ≠ [] → c.size = 0) := by
  unfold vy
  by_cases hl : ls = []
  · rw [if_pos hl]
    exact ⟨_, rfl, fun _ => (old_size (by omega) (by omega)).1, fun h => absurd hl h⟩
  · rw [if_neg hl]
    exact ⟨⟨#[]⟩, rfl, fun h => absurd h hl, fun _ => rfl⟩
theorem isE_empty : isE ⟨#[]⟩ = true := rfl
theorem voted_x {m : Int} (h0 : 1 ≤ m) (h1 : m ≤ 9000) (ms : List ByteArray) (ls : List Nat) : voted (rollG m ms (old m) (old m)) (vx m ls) = rollG m ms (stood m ls) (old m) := by
  unfold vx stood
  by_cases hl : ls = []
  · rw [if_pos hl, if_pos hl]
    simp [voted, isE_old (by omega : 0 ≤ m + 1) (by omega : m + 1 ≤ 9001), isE_empty, rollG]
  · rw [if_neg hl, if_neg hl]
    simp [voted, vote0, isE_empty, rollG]
theorem voted_y {m : Int} (h0 : 1 ≤ m) (h1 : m ≤ 9000) (ms : List ByteArray) (ls : List Nat) : voted (rollG m ms (stood m ls) (old m)) (vy m ls) = rollG m ms (stood m ls) (stood m ls) := by
  unfold vy stood
  by_cases hl : ls = []
  · rw [if_pos hl, if_pos hl]
    simp [voted, isE_old (by omega : 0 ≤ m + 1) (by omega : m + 1 ≤ 9001), isE_empty, rollG]
  · rw [if_neg hl, if_neg hl]
    simp [voted, vote0, isE_empty, rollG]
theorem stood_vtx {m : Int} (h0 : 1 ≤ m) (h1 : m ≤ 9000) (ls : List Nat) : VTx (stood m ls) := by
  unfold stood
  split
  · exact old_vtx (by omega) (by omega)
  · exact old_vtx (by omega) (by omega)
end Go.Proofs.YtdokcengcekfgaaDoor
