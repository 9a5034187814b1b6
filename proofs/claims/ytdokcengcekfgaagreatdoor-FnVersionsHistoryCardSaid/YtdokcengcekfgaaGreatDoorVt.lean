/-
  Versions as texts, plainly: what is written is read back, what has no digit is not read.
-/
import Derived.Test.YtdokcengcekfgaaGreatDoorRows
import Derived.Lib.ItoaNum
import Derived.Lib.ParseIntB
namespace Go.Proofs.YtdokcengcekfgaaGreatDoor
open Go
set_option linter.unusedSimpArgs false
set_option linter.unusedVariables false

structure VD where
  maj : Int
  mnr : Int
  pat : Int
def VD.ok (v : VD) : Prop := 0 ≤ v.maj ∧ v.maj ≤ 9999 ∧ 0 ≤ v.mnr ∧ v.mnr ≤ 9999 ∧ 0 ≤ v.pat ∧ v.pat ≤ 9999
def dec (n : Int) : List UInt8 := Lib.decDigits n.toNat
def vtl (v : VD) : List UInt8 := dec v.maj ++ 46 :: (dec v.mnr ++ 46 :: dec v.pat)
def vt (v : VD) : ByteArray := ⟨(vtl v).toArray⟩
def isDig (c : UInt8) : Prop := 48 ≤ c.toNat ∧ c.toNat ≤ 57
instance (c : UInt8) : Decidable (isDig c) := by unfold isDig; infer_instance
def NoDig (l : List UInt8) : Prop := ∀ c ∈ l, ¬ isDig c
/-- a text that is a version, or none -/
def VT (s : ByteArray) : Option VD → Prop
  | some v => v.ok ∧ s = vt v
  | none => NoDig s.data.toList ∧ s.size ≤ 20

/-! ### The numeral -/
theorem decDigits_small {u : Nat} (h : u < 10) : Lib.decDigits u = [UInt8.ofNat (48 + u)] := by rw [Lib.decDigits, dif_pos h]
theorem decDigits_big {u : Nat} (h : ¬ u < 10) : Lib.decDigits u = Lib.decDigits (u / 10) ++ [UInt8.ofNat (48 + u % 10)] := by rw [Lib.decDigits, dif_neg h]
theorem dig_ofNat {x : Nat} (h : x < 10) : isDig (UInt8.ofNat (48 + x)) ∧ (UInt8.ofNat (48 + x)).toNat = 48 + x := by
  have : (UInt8.ofNat (48 + x)).toNat = 48 + x := by simp; omega
  exact ⟨by unfold isDig; omega, this⟩
theorem decDigits_dig (u : Nat) : ∀ c ∈ Lib.decDigits u, isDig c := by
  induction u using Nat.strongRecOn with
  | _ u ih =>
    intro c hc
    by_cases h : u < 10
    · rw [decDigits_small h, List.mem_singleton] at hc
      rw [hc]; exact (dig_ofNat h).1
    · rw [decDigits_big h, List.mem_append, List.mem_singleton] at hc
      rcases hc with hc | hc
      · exact ih (u / 10) (by omega) c hc
      · rw [hc]; exact (dig_ofNat (Nat.mod_lt _ (by decide))).1
theorem decDigits_len (u : Nat) : (Lib.decDigits u).length = Lib.nDigits u := by
  induction u using Nat.strongRecOn with
  | _ u ih =>
    by_cases h : u < 10
    · rw [decDigits_small h, Lib.nDigits_small h]; rfl
    · rw [decDigits_big h, Lib.nDigits_big h, List.length_append, ih (u / 10) (by omega)]; rfl
theorem nDigits_le {u : Nat} (h : u ≤ 9999) : Lib.nDigits u ≤ 4 := by
  by_cases h1 : u < 10
  · rw [Lib.nDigits_small h1]; omega
  rw [Lib.nDigits_big h1]
  by_cases h2 : u / 10 < 10
  · rw [Lib.nDigits_small h2]; omega
  rw [Lib.nDigits_big h2]
  by_cases h3 : u / 10 / 10 < 10
  · rw [Lib.nDigits_small h3]; omega
  rw [Lib.nDigits_big h3, Lib.nDigits_small (by omega)]; omega
theorem nDigits_le3 {u : Nat} (h : u ≤ 999) : Lib.nDigits u ≤ 3 := by
  by_cases h1 : u < 10
  · rw [Lib.nDigits_small h1]; omega
  rw [Lib.nDigits_big h1]
  by_cases h2 : u / 10 < 10
  · rw [Lib.nDigits_small h2]; omega
  rw [Lib.nDigits_big h2, Lib.nDigits_small (by omega)]; omega
theorem dec_len {n : Int} (h : n ≤ 9999) : 1 ≤ (dec n).length ∧ (dec n).length ≤ 4 := by
  unfold dec; rw [decDigits_len]; exact ⟨Lib.nDigits_pos _, nDigits_le (by omega)⟩
theorem dec_dig (n : Int) : ∀ c ∈ dec n, isDig c := decDigits_dig _
theorem itoa_dec {n : Int} (h : 0 ≤ n) : Lib.itoa n = dec n := by unfold Lib.itoa; rw [if_neg (by omega)]; rfl
theorem vtl_len {v : VD} (h : v.ok) : (vtl v).length ≤ 14 := by
  obtain ⟨_, h1, _, h2, _, h3⟩ := h
  have a := dec_len h1; have b := dec_len h2; have c := dec_len h3
  unfold vtl; simp only [List.length_append, List.length_cons]; omega

/-! ### What the spec's reader reads -/
def vgo : List UInt8 → Nat → Nat → List Int → Option (List Int)
  | [], k, d, l => if k = 2 ∧ d ≠ 0 then some l else none
  | c :: r, k, d, l =>
    if isDig c then (if d = 4 ∨ (0 < d ∧ l.getD k 0 = 0) then none else vgo r k (d + 1) (l.set k (10 * l.getD k 0 + (c.toNat - 48 : Nat))))
    else if c = 46 ∧ 0 < d ∧ k < 2 then vgo r (k + 1) 0 l else none

theorem vgo_dec {k : Nat} (hk : k < 3) (u : Nat) : u ≤ 9999 → ∀ (r : List UInt8) (l : List Int), l.length = 3 → l.getD k 0 = 0 → vgo (Lib.decDigits u ++ r) k 0 l = vgo r k (Lib.nDigits u) (l.set k u) := by
  induction u using Nat.strongRecOn with
  | _ u ih =>
    intro hu r l hl h0
    by_cases h : u < 10
    · rw [decDigits_small h, Lib.nDigits_small h]
      have hd := dig_ofNat h
      simp only [List.cons_append, List.nil_append]
      rw [vgo, if_pos hd.1, if_neg (by omega), h0, hd.2]
      congr 2
      omega
    · rw [decDigits_big h, Lib.nDigits_big h, List.append_assoc, ih (u / 10) (by omega) (by omega) _ l hl h0]
      have hd := dig_ofNat (x := u % 10) (Nat.mod_lt _ (by decide))
      have hg : (l.set k ((u / 10 : Nat) : Int)).getD k 0 = ((u / 10 : Nat) : Int) := by
        rw [List.getD_eq_getElem?_getD, List.getElem?_set_self (by omega)]; rfl
      have hn := nDigits_le3 (u := u / 10) (by omega)
      simp only [List.cons_append, List.nil_append]
      rw [vgo, if_pos hd.1, if_neg (by rw [hg]; omega), hg, hd.2, List.set_set]
      congr 2
      omega

theorem vgo_text {v : VD} (h : v.ok) : vgo (vtl v) 0 0 [0, 0, 0] = some [v.maj, v.mnr, v.pat] := by
  obtain ⟨a0, a1, b0, b1, c0, c1⟩ := h
  have n0 : ∀ u, Lib.nDigits u ≠ 0 := fun u => by have := Lib.nDigits_pos u; omega
  unfold vtl dec
  rw [vgo_dec (by decide) _ (by omega) _ _ rfl rfl]
  rw [vgo, if_neg (by decide), if_pos ⟨rfl, by have := Lib.nDigits_pos v.maj.toNat; omega, by decide⟩]
  rw [vgo_dec (by decide) _ (by omega) _ _ rfl rfl]
  rw [vgo, if_neg (by decide), if_pos ⟨rfl, by have := Lib.nDigits_pos v.mnr.toNat; omega, by decide⟩]
  have := vgo_dec (k := 2) (by decide) v.pat.toNat (by omega) [] [v.maj.toNat, v.mnr.toNat, 0] rfl rfl
  rw [List.append_nil] at this
  show vgo (Lib.decDigits v.pat.toNat) 2 0 [((v.maj.toNat : Nat) : Int), ((v.mnr.toNat : Nat) : Int), 0] = _
  rw [this, vgo, if_pos ⟨rfl, n0 _⟩]
  simp; omega

/-- what has been read: the consumed text -/
def Sofar : List UInt8 → Nat → Nat → List Int → Prop
  | p, 0, d, [a, b, c] => b = 0 ∧ c = 0 ∧ 0 ≤ a ∧ ((d = 0 ∧ a = 0 ∧ p = []) ∨ (0 < d ∧ d = Lib.nDigits a.toNat ∧ p = dec a))
  | p, 1, d, [a, b, c] => c = 0 ∧ 0 ≤ a ∧ a ≤ 9999 ∧ 0 ≤ b ∧ ((d = 0 ∧ b = 0 ∧ p = dec a ++ [46]) ∨ (0 < d ∧ d = Lib.nDigits b.toNat ∧ p = dec a ++ 46 :: dec b))
  | p, 2, d, [a, b, c] => 0 ≤ a ∧ a ≤ 9999 ∧ 0 ≤ b ∧ b ≤ 9999 ∧ 0 ≤ c ∧ ((d = 0 ∧ c = 0 ∧ p = dec a ++ 46 :: (dec b ++ [46])) ∨ (0 < d ∧ d = Lib.nDigits c.toNat ∧ p = dec a ++ 46 :: (dec b ++ 46 :: dec c)))
  | _, _, _, _ => False
theorem lt_of_nDigits {u : Nat} (h : Lib.nDigits u ≤ 4) : u ≤ 9999 := by
  have h1 := Lib.lt_pow_nDigits u
  have h2 : 10 ^ Lib.nDigits u ≤ 10 ^ 4 := Nat.pow_le_pow_right (by decide) h
  omega
theorem dec_grow {a : Int} {x : Nat} (ha : 0 < a) (hx : x < 10) : dec (10 * a + x) = dec a ++ [UInt8.ofNat (48 + x)] ∧ Lib.nDigits (10 * a + x).toNat = Lib.nDigits a.toNat + 1 := by
  have h : ¬ (10 * a + x).toNat < 10 := by omega
  have h1 : (10 * a + x).toNat / 10 = a.toNat := by omega
  have h2 : (10 * a + x).toNat % 10 = x := by omega
  unfold dec
  rw [decDigits_big h, Lib.nDigits_big h, h1, h2]
  exact ⟨rfl, rfl⟩
theorem dec_one {x : Nat} (hx : x < 10) : dec (10 * 0 + x) = [UInt8.ofNat (48 + x)] ∧ Lib.nDigits (10 * 0 + (x : Int)).toNat = 1 := by
  have h : (10 * 0 + (x : Int)).toNat = x := by omega
  unfold dec
  rw [h, decDigits_small hx, Lib.nDigits_small hx]
  exact ⟨rfl, rfl⟩
theorem byte_of_dig {c : UInt8} (h : isDig c) : c = UInt8.ofNat (48 + (c.toNat - 48)) ∧ c.toNat - 48 < 10 := by
  unfold isDig at h
  refine ⟨?_, by omega⟩
  rw [show 48 + (c.toNat - 48) = c.toNat by omega]
  simp
theorem sofar_dig {p : List UInt8} {k d : Nat} {l : List Int} {c : UInt8} (h : Sofar p k d l) (hc : isDig c) (hok : ¬ (d = 4 ∨ (0 < d ∧ l.getD k 0 = 0))) : Sofar (p ++ [c]) k (d + 1) (l.set k (10 * l.getD k 0 + (c.toNat - 48 : Nat))) := by
  obtain ⟨e, hx⟩ := byte_of_dig hc
  generalize c.toNat - 48 = x at *
  subst e
  match k, l, h with
  | 0, [a, b, c], h =>
    obtain ⟨rfl, rfl, ha, h⟩ := h
    simp at hok
    refine ⟨rfl, rfl, by simp; omega, .inr ⟨by omega, ?_⟩⟩
    rcases h with ⟨rfl, rfl, rfl⟩ | ⟨hd, hd2, rfl⟩
    · have := dec_one hx
      exact ⟨this.2.symm, this.1.symm⟩
    · have := dec_grow (a := a) (x := x) (by have := hok.2 hd; omega) hx
      exact ⟨by rw [hd2]; exact this.2.symm, this.1.symm⟩
  | 1, [a, b, c], h =>
    obtain ⟨rfl, h1, h2, hb, h⟩ := h
    simp at hok
    refine ⟨rfl, h1, h2, by simp; omega, .inr ⟨by omega, ?_⟩⟩
    rcases h with ⟨rfl, rfl, rfl⟩ | ⟨hd, hd2, rfl⟩
    · have := dec_one hx
      exact ⟨this.2.symm, by rw [List.append_assoc]; show _ = dec a ++ 46 :: dec (10 * 0 + x); rw [this.1]; rfl⟩
    · have := dec_grow (a := b) (x := x) (by have := hok.2 hd; omega) hx
      exact ⟨by rw [hd2]; exact this.2.symm, by rw [List.append_assoc]; show _ = dec a ++ 46 :: dec (10 * b + x); rw [this.1]; rfl⟩
  | 2, [a, b, c], h =>
    obtain ⟨h1, h2, h3, h4, hb, h⟩ := h
    simp at hok
    refine ⟨h1, h2, h3, h4, by simp; omega, .inr ⟨by omega, ?_⟩⟩
    rcases h with ⟨rfl, rfl, rfl⟩ | ⟨hd, hd2, rfl⟩
    · have := dec_one hx
      exact ⟨this.2.symm, by simp only [List.append_assoc, List.cons_append, List.nil_append]; show _ = dec a ++ 46 :: (dec b ++ 46 :: dec (10 * 0 + x)); rw [this.1]⟩
    · have := dec_grow (a := c) (x := x) (by have := hok.2 hd; omega) hx
      exact ⟨by rw [hd2]; exact this.2.symm, by simp only [List.append_assoc, List.cons_append]; show _ = dec a ++ 46 :: (dec b ++ 46 :: dec (10 * c + x)); rw [this.1]⟩
theorem sofar_dot {p : List UInt8} {k d : Nat} {l : List Int} (h : Sofar p k d l) (hd : 0 < d) (hd4 : d ≤ 4) (hk : k < 2) : Sofar (p ++ [46]) (k + 1) 0 l := by
  match k, l, h with
  | 0, [a, b, c], h =>
    obtain ⟨rfl, rfl, ha, h⟩ := h
    rcases h with ⟨rfl, _⟩ | ⟨_, h2, rfl⟩
    · omega
    · have := lt_of_nDigits (u := a.toNat) (by omega)
      exact ⟨rfl, ha, by omega, by decide, .inl ⟨rfl, rfl, rfl⟩⟩
  | 1, [a, b, c], h =>
    obtain ⟨rfl, ha, h0, hb, h⟩ := h
    rcases h with ⟨rfl, _⟩ | ⟨_, h2, rfl⟩
    · omega
    · have := lt_of_nDigits (u := b.toNat) (by omega)
      exact ⟨ha, h0, hb, by omega, by decide, .inl ⟨rfl, rfl, by simp⟩⟩
  | 2, _, _ => omega
theorem vgo_some : ∀ (r p : List UInt8) (k d : Nat) (l m : List Int), Sofar p k d l → d ≤ 4 → vgo r k d l = some m → ∃ v : VD, v.ok ∧ m = [v.maj, v.mnr, v.pat] ∧ p ++ r = vtl v
  | [], p, k, d, l, m, h, hd, hv => by
    rw [vgo] at hv
    split at hv
    · rename_i hc
      obtain ⟨rfl, hd0⟩ := hc
      obtain rfl := Option.some.inj hv
      match l, h with
      | [a, b, c], h =>
        obtain ⟨h1, h2, h3, h4, h5, h⟩ := h
        rcases h with ⟨h, _⟩ | ⟨_, h6, rfl⟩
        · exact absurd h hd0
        · have := lt_of_nDigits (u := c.toNat) (by omega)
          exact ⟨⟨a, b, c⟩, ⟨h1, h2, h3, h4, h5, by show c ≤ 9999; omega⟩, rfl, by rw [List.append_nil]; rfl⟩
    · cases hv
  | c :: r, p, k, d, l, m, h, hd, hv => by
    rw [vgo] at hv
    split at hv
    · rename_i hc
      split at hv
      · cases hv
      · rename_i hok
        have := vgo_some r (p ++ [c]) k (d + 1) _ m (sofar_dig h hc hok) (by omega) hv
        rwa [List.append_assoc] at this
    · split at hv
      · rename_i hc
        obtain ⟨rfl, h1, h2⟩ := hc
        have := vgo_some r (p ++ [46]) (k + 1) 0 l m (sofar_dot h h1 hd h2) (by omega) hv
        rwa [List.append_assoc] at this
      · cases hv
theorem vgo_is {s : ByteArray} {m : List Int} (h : vgo s.data.toList 0 0 [0, 0, 0] = some m) : ∃ v : VD, v.ok ∧ m = [v.maj, v.mnr, v.pat] ∧ s = vt v := by
  obtain ⟨v, h1, h2, h3⟩ := vgo_some s.data.toList [] 0 0 [0, 0, 0] m ⟨rfl, rfl, by decide, .inl ⟨rfl, rfl, rfl⟩⟩ (by decide) h
  refine ⟨v, h1, h2, ?_⟩
  unfold vt
  rw [← h3]
  rfl
theorem vgo_no {l : List UInt8} (h : NoDig l) : vgo l 0 0 [0, 0, 0] = none := by
  cases l with
  | nil => rfl
  | cons c r => rw [vgo, if_neg (h c (by simp)), if_neg (by omega)]
/-- what VerOf tells of a text -/
def verOfD (s : ByteArray) : Option VD := match vgo s.data.toList 0 0 [0, 0, 0] with
  | some [a, b, c] => some ⟨a, b, c⟩
  | _ => none
theorem verOfD_some {s : ByteArray} {v : VD} (h : verOfD s = some v) : v.ok ∧ s = vt v := by
  unfold verOfD at h
  split at h
  · rename_i a b c hv
    obtain ⟨u, h1, h2, h3⟩ := vgo_is hv
    simp only [List.cons.injEq, and_true] at h2
    obtain ⟨rfl, rfl, rfl⟩ := h2
    obtain rfl := Option.some.inj h
    exact ⟨h1, h3⟩
  · cases h
theorem verOfD_vt {v : VD} (h : v.ok) : verOfD (vt v) = some v := by
  unfold verOfD vt
  rw [vgo_text h]
theorem verOfD_of {s : ByteArray} {o : Option VD} (h : VT s o) : verOfD s = o := by
  cases o with
  | some v => obtain ⟨h1, rfl⟩ := h; exact verOfD_vt h1
  | none => unfold verOfD; rw [vgo_no h.1]

/-! ### What strconv reads -/
theorem parseM_dec (u : Nat) : u ≤ 9999 → ∀ (r : List UInt8), Lib.parseUintM (2 ^ 64 - 1) 0 (Lib.decDigits u ++ r) = Lib.parseUintM (2 ^ 64 - 1) u r := by
  induction u using Nat.strongRecOn with
  | _ u ih =>
    intro hu r
    by_cases h : u < 10
    · rw [decDigits_small h]
      have hd := dig_ofNat h
      have hq := hd.1
      unfold isDig at hq
      simp only [List.cons_append, List.nil_append]
      rw [Lib.parseUintM, if_pos hq, if_neg (by omega), hd.2, if_neg (by omega)]
      congr 1
      omega
    · rw [decDigits_big h, List.append_assoc, ih (u / 10) (by omega) (by omega)]
      have hd := dig_ofNat (x := u % 10) (Nat.mod_lt _ (by decide))
      have hq := hd.1
      unfold isDig at hq
      simp only [List.cons_append, List.nil_append]
      rw [Lib.parseUintM, if_pos hq, if_neg (by omega), hd.2, if_neg (by omega)]
      congr 1
      omega
theorem parseInt_dec {n : Int} (h0 : 0 ≤ n) (h1 : n ≤ 9999) : Lib.parseIntB 64 (dec n) = .ok n := by
  have hne : dec n ≠ [] := by have := (dec_len h1).1; intro h; rw [h] at this; simp at this
  obtain ⟨c, r, hc⟩ := List.exists_cons_of_ne_nil hne
  have hd : isDig c := dec_dig n c (by rw [hc]; simp)
  have hm := parseM_dec n.toNat (by omega) []
  rw [List.append_nil, show Lib.decDigits n.toNat = dec n from rfl, hc] at hm
  have hm : Lib.parseUintB 64 (c :: r) = .ok n.toNat := by
    unfold Lib.parseUintB
    rw [if_neg (by simp), hm]; rfl
  unfold isDig at hd
  rw [hc]
  unfold Lib.parseIntB
  simp only
  rw [if_neg (by omega), hm]
  simp only
  rw [if_neg (by omega), if_neg (by omega), if_neg (by omega)]
  congr 1
  omega
end Go.Proofs.YtdokcengcekfgaaGreatDoor
