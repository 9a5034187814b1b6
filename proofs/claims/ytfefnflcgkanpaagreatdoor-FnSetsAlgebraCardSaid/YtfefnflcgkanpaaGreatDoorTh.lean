/-
  FnSetsAlgebra walked.
-/
import Derived.Test.YtfefnflcgkanpaaGreatDoorTg
namespace Go.Proofs.YtfefnflcgkanpaaGreatDoor
open Go.RowKit
set_option linter.unusedSimpArgs false
set_option linter.unusedVariables false

/-- a slice of numbers, of which these are the members, so many at most -/
def HasL (w : World) (v : Value) (p : Int → Prop) (n : Nat) : Prop := ∃ l, (Rp.slice Rp.iv).K w any l [v] ∧ (∀ x, x ∈ l ↔ p x) ∧ l.length ≤ n
/-- .. rising -/
def HasS (w : World) (v : Value) (p : Int → Prop) (n : Nat) : Prop := ∃ l, (Rp.slice Rp.iv).K w any l [v] ∧ Asc l ∧ (∀ x, x ∈ l ↔ p x) ∧ l.length ≤ n
theorem HasL.ext {w w' : World} {v : Value} {p : Int → Prop} {n : Nat} (h : HasL w v p n) (e : Ext w w') : HasL w' v p n := by obtain ⟨l, h1, h2⟩ := h; exact ⟨l, (Rp.slice Rp.iv).ext' e h1, h2⟩
theorem HasS.ext {w w' : World} {v : Value} {p : Int → Prop} {n : Nat} (h : HasS w v p n) (e : Ext w w') : HasS w' v p n := by obtain ⟨l, h1, h2⟩ := h; exact ⟨l, (Rp.slice Rp.iv).ext' e h1, h2⟩
theorem HasS.l {w : World} {v : Value} {p : Int → Prop} {n : Nat} (h : HasS w v p n) : HasL w v p n := by obtain ⟨l, h1, _, h2⟩ := h; exact ⟨l, h1, h2⟩
theorem eqS {w : World} {v u : Value} {p q : Int → Prop} {n m : Nat} (h : HasS w v p n) (h' : HasS w u q m) (hpq : ∀ x, p x ↔ q x) : Calls Tryz.prog 7 #[v, u] w fun e w' => e = .returned (.bool true) ∧ Ext w w' := by
  obtain ⟨l, h1, h2, h3, _⟩ := h
  obtain ⟨l', h1', h2', h3', _⟩ := h'
  obtain rfl : l = l' := asc_ext h2 h2' fun x => by rw [h3, h3', hpq]
  refine (equal_read l l v u w h1 h1').mono ?_
  rintro e w' ⟨rfl, e1⟩
  exact ⟨by simp, e1⟩
theorem sub_len {l a b : List Int} (hl : Asc l) (h : ∀ x ∈ l, x ∈ a ∨ x ∈ b) : l.length ≤ a.length + b.length := by
  have := nodup_le (b := a ++ b) (asc_nodup hl) (fun x hx => List.mem_append.2 (h x hx))
  rwa [List.length_append] at this

theorem doH1 {w : World} {va vb : Value} {p q : Int → Prop} {n m : Nat} (ha : HasL w va p n) (hb : HasL w vb q m) (hn : n ≤ 1000) (hm : m ≤ 1000) :
    Calls Tryz.prog 5 #[.int .i64 1, va, vb] w fun e w' => ∃ v, e = .returned v ∧ HasS w' v (fun x => p x ∨ q x) (n + m) ∧ Ext w w' := by
  obtain ⟨a, a1, a2, a3⟩ := ha
  obtain ⟨b, b1, b2, b3⟩ := hb
  refine (do1 a b va vb w a1 b1 (by omega) (by omega)).mono ?_
  rintro e w' ⟨v, l, rfl, h1, h2, h3, e1⟩
  refine ⟨v, rfl, ⟨l, h1, h2, fun x => ?_, ?_⟩, e1⟩
  · rw [h3]; simp [inK, a2, b2]
  · have := sub_len (a := a) (b := b) h2 (fun x hx => by have := (h3 x).1 hx; simp only [inK] at this; simp at this; exact this)
    omega
theorem doH2 {w : World} {va vb : Value} {p q : Int → Prop} {n m : Nat} (ha : HasL w va p n) (hb : HasL w vb q m) (hn : n ≤ 1000) (hm : m ≤ 1000) :
    Calls Tryz.prog 5 #[.int .i64 2, va, vb] w fun e w' => ∃ v, e = .returned v ∧ HasS w' v (fun x => p x ∧ q x) (n + m) ∧ Ext w w' := by
  obtain ⟨a, a1, a2, a3⟩ := ha
  obtain ⟨b, b1, b2, b3⟩ := hb
  refine (do2 a b va vb w a1 b1 (by omega) (by omega)).mono ?_
  rintro e w' ⟨v, l, rfl, h1, h2, h3, e1⟩
  refine ⟨v, rfl, ⟨l, h1, h2, fun x => ?_, ?_⟩, e1⟩
  · rw [h3]; simp [inK, a2, b2]
  · have := sub_len (a := a) (b := b) h2 (fun x hx => by have := (h3 x).1 hx; simp only [inK] at this; simp at this; exact .inl this.1)
    omega
theorem doH3 {w : World} {va vb : Value} {p q : Int → Prop} {n m : Nat} (ha : HasL w va p n) (hb : HasL w vb q m) (hn : n ≤ 1000) (hm : m ≤ 1000) :
    Calls Tryz.prog 5 #[.int .i64 3, va, vb] w fun e w' => ∃ v, e = .returned v ∧ HasS w' v (fun x => p x ∧ ¬ q x) (n + m) ∧ Ext w w' := by
  obtain ⟨a, a1, a2, a3⟩ := ha
  obtain ⟨b, b1, b2, b3⟩ := hb
  refine (do3 a b va vb w a1 b1 (by omega) (by omega)).mono ?_
  rintro e w' ⟨v, l, rfl, h1, h2, h3, e1⟩
  refine ⟨v, rfl, ⟨l, h1, h2, fun x => ?_, ?_⟩, e1⟩
  · rw [h3]; simp [inK, a2, b2]
  · have := sub_len (a := a) (b := b) h2 (fun x hx => by have := (h3 x).1 hx; simp only [inK] at this; simp at this; exact .inl this.1)
    omega
theorem doH4 {w : World} {va vb : Value} {p q : Int → Prop} {n m : Nat} (ha : HasL w va p n) (hb : HasL w vb q m) (hn : n ≤ 1000) (hm : m ≤ 1000) :
    Calls Tryz.prog 5 #[.int .i64 4, va, vb] w fun e w' => ∃ v, e = .returned v ∧ HasS w' v (fun x => (p x ∧ ¬ q x) ∨ (q x ∧ ¬ p x)) (n + m) ∧ Ext w w' := by
  obtain ⟨a, a1, a2, a3⟩ := ha
  obtain ⟨b, b1, b2, b3⟩ := hb
  refine (do4 a b va vb w a1 b1 (by omega) (by omega)).mono ?_
  rintro e w' ⟨v, l, rfl, h1, h2, h3, e1⟩
  refine ⟨v, rfl, ⟨l, h1, h2, fun x => ?_, ?_⟩, e1⟩
  · rw [h3]; simp [inK, a2, b2]
  · have := sub_len (a := a) (b := b) h2 (fun x hx => by have := (h3 x).1 hx; simp only [inK] at this; simp at this; exact this.elim (fun h => .inl h.1) (fun h => .inr h.1))
    omega
theorem sets6H {w : World} {va vb : Value} {p q : Int → Prop} {n m : Nat} (ha : HasL w va p n) (hb : HasL w vb q m) (hn : n ≤ 1000) (hm : m ≤ 1000) :
    Calls Tryz.prog 6 #[.int .i64 6, va, vb] w fun e w' => ∃ r : Bool, e = .returned (.tuple #[.slice none 0 0, .bool r]) ∧ (r = true ↔ ∀ x, q x → p x) ∧ Ext w w' := by
  obtain ⟨a, a1, a2, a3⟩ := ha
  obtain ⟨b, b1, b2, b3⟩ := hb
  refine (sets6 a b va vb w a1 b1 (by omega) (by omega)).mono ?_
  rintro e w' ⟨r, rfl, h, e1⟩
  exact ⟨r, rfl, by rw [h]; simp only [a2, b2], e1⟩
theorem eqS2 {w : World} {v u : Value} {p q : Int → Prop} {n m : Nat} (h : HasS w v p n) (h' : HasS w u q m) : Calls Tryz.prog 7 #[v, u] w fun e w' => ∃ r : Bool, e = .returned (.bool r) ∧ (r = true ↔ ∀ x, p x ↔ q x) ∧ Ext w w' := by
  obtain ⟨l, h1, h2, h3, _⟩ := h
  obtain ⟨l', h1', h2', h3', _⟩ := h'
  refine (equal_read l l' v u w h1 h1').mono ?_
  rintro e w' ⟨rfl, e1⟩
  refine ⟨_, rfl, ?_, e1⟩
  rw [beq_iff_eq]
  constructor
  · rintro rfl x; rw [← h3, ← h3']
  · intro hx; exact asc_ext h2 h2' fun x => by rw [h3, h3', hx]
theorem filter_two (l : List Int) (p : Int → Bool) : (l.filter p).length + (l.filter (fun x => !p x)).length = l.length := by
  induction l with
  | nil => rfl
  | cons x l ih => cases h : p x <;> simp [h] <;> omega
theorem sizes {u m a b : List Int} (hu : Asc u) (hm : Asc m) (ha : Asc a) (hb : Asc b) (h1 : ∀ x, x ∈ u ↔ x ∈ a ∨ x ∈ b) (h2 : ∀ x, x ∈ m ↔ x ∈ a ∧ x ∈ b) : u.length + m.length = a.length + b.length := by
  have e1 : m.length = (b.filter (fun x => decide (x ∈ a))).length := nodup_same (asc_nodup hm) ((asc_nodup hb).filter _) fun x => by rw [h2, List.mem_filter]; simp [And.comm]
  have e2 : u.length = (a ++ b.filter (fun x => !decide (x ∈ a))).length := nodup_same (asc_nodup hu) (by
    rw [List.nodup_append]
    refine ⟨asc_nodup ha, (asc_nodup hb).filter _, fun x hx y hy => ?_⟩
    rintro rfl
    have := (List.mem_filter.1 hy).2
    simp [hx] at this) fun x => by
      rw [h1, List.mem_append, List.mem_filter]
      by_cases hx : x ∈ a <;> simp [hx]
  have e3 := filter_two b (fun x => decide (x ∈ a))
  rw [e2, e1, List.length_append]
  omega
theorem nilL (w : World) : HasL w (.slice none 0 0) (fun _ => False) 0 := ⟨[], nil_iv w any, by simp, by simp⟩
set_option maxRecDepth 40000 in
set_option maxHeartbeats 16000000 in
theorem walk_SetsAlgebra (a : List Int) (va : Value) (b : List Int) (vb : Value) (c : List Int) (vc : Value) (w : World) (ha : (Rp.slice Rp.iv).K w any a [va]) (hb : (Rp.slice Rp.iv).K w any b [vb]) (hc : (Rp.slice Rp.iv).K w any c [vc]) (hT : TabOk w) :
    Calls Tryz.prog 3 #[va, vb, vc] w fun e w' => e = .returned (.bool true) ∧ Ext w w' := by
  have HT := Lib.hid hT
  have HA := Lib.hid ha
  have HB := Lib.hid hb
  have HC := Lib.hid hc
  obtain ⟨A, ca, rfl, k1, k2, _⟩ := slice_shape ha
  obtain ⟨B, cb, rfl, k3, k4, _⟩ := slice_shape hb
  obtain ⟨C, cc, rfl, k5, k6, _⟩ := slice_shape hc
  clear ha hb hc hT
  by_cases ga : 2147483647 < a.length
  · have da : decide ((2147483647 : Int) < (a.length : Int)) = true := by simp; omega
    go_enter Tryz.func3, Tryz.ntmps3
    go_wp2_with fail
    go_ret
    exact ⟨rfl, Ext.refl _⟩
  have da : decide ((2147483647 : Int) < (a.length : Int)) = false := by simp; omega
  by_cases gb : 2147483647 < b.length
  · have db : decide ((2147483647 : Int) < (b.length : Int)) = true := by simp; omega
    go_enter Tryz.func3, Tryz.ntmps3
    go_wp2_with fail
    go_ret
    exact ⟨rfl, Ext.refl _⟩
  have db : decide ((2147483647 : Int) < (b.length : Int)) = false := by simp; omega
  by_cases gc : 2147483647 < c.length
  · have dc : decide ((2147483647 : Int) < (c.length : Int)) = true := by simp; omega
    go_enter Tryz.func3, Tryz.ntmps3
    go_wp2_with fail
    go_ret
    exact ⟨rfl, Ext.refl _⟩
  have dc : decide ((2147483647 : Int) < (c.length : Int)) = false := by simp; omega
  by_cases sa : 200 < a.length
  · have fa : decide ((200 : Int) < (a.length : Int)) = true := by simp; omega
    go_enter Tryz.func3, Tryz.ntmps3
    go_wp2_with fail
    refine (live_any w (HT.out.ext (Ext.refl _))).mono ?_
    rintro e w99 ⟨rfl, e99⟩
    go_wp2_with fail
    go_ret
    exact ⟨rfl, ((Ext.refl _)).trans e99⟩
  have fa : decide ((200 : Int) < (a.length : Int)) = false := by simp; omega
  by_cases sb : 200 < b.length
  · have fb : decide ((200 : Int) < (b.length : Int)) = true := by simp; omega
    go_enter Tryz.func3, Tryz.ntmps3
    go_wp2_with fail
    refine (live_any w (HT.out.ext (Ext.refl _))).mono ?_
    rintro e w99 ⟨rfl, e99⟩
    go_wp2_with fail
    go_ret
    exact ⟨rfl, ((Ext.refl _)).trans e99⟩
  have fb : decide ((200 : Int) < (b.length : Int)) = false := by simp; omega
  by_cases sc : 200 < c.length
  · have fc : decide ((200 : Int) < (c.length : Int)) = true := by simp; omega
    go_enter Tryz.func3, Tryz.ntmps3
    go_wp2_with fail
    refine (live_any w (HT.out.ext (Ext.refl _))).mono ?_
    rintro e w99 ⟨rfl, e99⟩
    go_wp2_with fail
    go_ret
    exact ⟨rfl, ((Ext.refl _)).trans e99⟩
  have fc : decide ((200 : Int) < (c.length : Int)) = false := by simp; omega
  have a0 : Hid (HasL w (.slice A a.length ca) (fun x => x ∈ a) 200) := Lib.hid ⟨a, HA.out, fun _ => Iff.rfl, by omega⟩
  have b0 : Hid (HasL w (.slice B b.length cb) (fun x => x ∈ b) 200) := Lib.hid ⟨b, HB.out, fun _ => Iff.rfl, by omega⟩
  have c0 : Hid (HasL w (.slice C c.length cc) (fun x => x ∈ c) 200) := Lib.hid ⟨c, HC.out, fun _ => Iff.rfl, by omega⟩
  have EE : Ext w w := Ext.refl _
  go_enter Tryz.func3, Tryz.ntmps3
  go_wp2_with fail
  refine (doH1 a0.out b0.out (by omega) (by omega)).mono ?_
  rintro e w1 ⟨v1, rfl, h1, e1⟩
  have a0 := Lib.hid (a0.out.ext e1)
  have b0 := Lib.hid (b0.out.ext e1)
  have c0 := Lib.hid (c0.out.ext e1)
  have EE := EE.trans e1
  have U := Lib.hid h1
  clear h1 e1
  go_wp2_with fail
  refine (doH2 a0.out b0.out (by omega) (by omega)).mono ?_
  rintro e w2 ⟨v2, rfl, h2, e2⟩
  have a0 := Lib.hid (a0.out.ext e2)
  have b0 := Lib.hid (b0.out.ext e2)
  have c0 := Lib.hid (c0.out.ext e2)
  have U := Lib.hid (U.out.ext e2)
  have EE := EE.trans e2
  have M := Lib.hid h2
  clear h2 e2
  go_wp2_with fail
  refine (doH4 a0.out b0.out (by omega) (by omega)).mono ?_
  rintro e w3 ⟨v3, rfl, h3, e3⟩
  have a0 := Lib.hid (a0.out.ext e3)
  have b0 := Lib.hid (b0.out.ext e3)
  have c0 := Lib.hid (c0.out.ext e3)
  have U := Lib.hid (U.out.ext e3)
  have M := Lib.hid (M.out.ext e3)
  have EE := EE.trans e3
  have O := Lib.hid h3
  clear h3 e3
  go_wp2_with fail
  refine (doH1 b0.out a0.out (by omega) (by omega)).mono ?_
  rintro e w4 ⟨v4, rfl, h4, e4⟩
  have a0 := Lib.hid (a0.out.ext e4)
  have b0 := Lib.hid (b0.out.ext e4)
  have c0 := Lib.hid (c0.out.ext e4)
  have U := Lib.hid (U.out.ext e4)
  have M := Lib.hid (M.out.ext e4)
  have O := Lib.hid (O.out.ext e4)
  have EE := EE.trans e4
  have t1 := Lib.hid h4
  clear h4 e4
  go_wp2_with fail
  refine (eqS U.out t1.out (fun x => by by_cases h1 : x ∈ a <;> by_cases h2 : x ∈ b <;> by_cases h3 : x ∈ c <;> simp [h1, h2, h3])).mono ?_
  rintro e w5 ⟨rfl, e5⟩
  have a0 := Lib.hid (a0.out.ext e5)
  have b0 := Lib.hid (b0.out.ext e5)
  have c0 := Lib.hid (c0.out.ext e5)
  have U := Lib.hid (U.out.ext e5)
  have M := Lib.hid (M.out.ext e5)
  have O := Lib.hid (O.out.ext e5)
  have t1 := Lib.hid (t1.out.ext e5)
  have EE := EE.trans e5
  clear e5
  go_wp2_with fail
  refine (doH2 b0.out a0.out (by omega) (by omega)).mono ?_
  rintro e w6 ⟨v6, rfl, h6, e6⟩
  have a0 := Lib.hid (a0.out.ext e6)
  have b0 := Lib.hid (b0.out.ext e6)
  have c0 := Lib.hid (c0.out.ext e6)
  have U := Lib.hid (U.out.ext e6)
  have M := Lib.hid (M.out.ext e6)
  have O := Lib.hid (O.out.ext e6)
  have EE := EE.trans e6
  have t1 := Lib.hid h6
  clear h6 e6
  go_wp2_with fail
  refine (eqS M.out t1.out (fun x => by by_cases h1 : x ∈ a <;> by_cases h2 : x ∈ b <;> by_cases h3 : x ∈ c <;> simp [h1, h2, h3])).mono ?_
  rintro e w7 ⟨rfl, e7⟩
  have a0 := Lib.hid (a0.out.ext e7)
  have b0 := Lib.hid (b0.out.ext e7)
  have c0 := Lib.hid (c0.out.ext e7)
  have U := Lib.hid (U.out.ext e7)
  have M := Lib.hid (M.out.ext e7)
  have O := Lib.hid (O.out.ext e7)
  have t1 := Lib.hid (t1.out.ext e7)
  have EE := EE.trans e7
  clear e7
  go_wp2_with fail
  refine (doH4 b0.out a0.out (by omega) (by omega)).mono ?_
  rintro e w8 ⟨v8, rfl, h8, e8⟩
  have a0 := Lib.hid (a0.out.ext e8)
  have b0 := Lib.hid (b0.out.ext e8)
  have c0 := Lib.hid (c0.out.ext e8)
  have U := Lib.hid (U.out.ext e8)
  have M := Lib.hid (M.out.ext e8)
  have O := Lib.hid (O.out.ext e8)
  have EE := EE.trans e8
  have t1 := Lib.hid h8
  clear h8 e8
  go_wp2_with fail
  refine (eqS O.out t1.out (fun x => by by_cases h1 : x ∈ a <;> by_cases h2 : x ∈ b <;> by_cases h3 : x ∈ c <;> simp [h1, h2, h3])).mono ?_
  rintro e w9 ⟨rfl, e9⟩
  have a0 := Lib.hid (a0.out.ext e9)
  have b0 := Lib.hid (b0.out.ext e9)
  have c0 := Lib.hid (c0.out.ext e9)
  have U := Lib.hid (U.out.ext e9)
  have M := Lib.hid (M.out.ext e9)
  have O := Lib.hid (O.out.ext e9)
  have t1 := Lib.hid (t1.out.ext e9)
  have EE := EE.trans e9
  clear e9
  go_wp2_with fail
  refine (doH3 U.out.l M.out.l (by omega) (by omega)).mono ?_
  rintro e w10 ⟨v10, rfl, h10, e10⟩
  have a0 := Lib.hid (a0.out.ext e10)
  have b0 := Lib.hid (b0.out.ext e10)
  have c0 := Lib.hid (c0.out.ext e10)
  have U := Lib.hid (U.out.ext e10)
  have M := Lib.hid (M.out.ext e10)
  have O := Lib.hid (O.out.ext e10)
  have EE := EE.trans e10
  have t1 := Lib.hid h10
  clear h10 e10
  go_wp2_with fail
  refine (eqS O.out t1.out (fun x => by by_cases h1 : x ∈ a <;> by_cases h2 : x ∈ b <;> by_cases h3 : x ∈ c <;> simp [h1, h2, h3])).mono ?_
  rintro e w11 ⟨rfl, e11⟩
  have a0 := Lib.hid (a0.out.ext e11)
  have b0 := Lib.hid (b0.out.ext e11)
  have c0 := Lib.hid (c0.out.ext e11)
  have U := Lib.hid (U.out.ext e11)
  have M := Lib.hid (M.out.ext e11)
  have O := Lib.hid (O.out.ext e11)
  have t1 := Lib.hid (t1.out.ext e11)
  have EE := EE.trans e11
  clear e11
  go_wp2_with fail
  obtain ⟨lU, pp1, pp2, pp3, bU⟩ := U.out
  obtain ⟨AU, cU, hvU, _, _, _⟩ := slice_shape pp1
  subst hvU
  have pU := Lib.hid pp2
  have qU := Lib.hid pp3
  clear pp1 pp2 pp3
  obtain ⟨lM, pp1, pp2, pp3, bM⟩ := M.out
  obtain ⟨AM, cM, hvM, _, _, _⟩ := slice_shape pp1
  subst hvM
  have pM := Lib.hid pp2
  have qM := Lib.hid pp3
  clear pp1 pp2 pp3
  refine (doH3 a0.out b0.out (by omega) (by omega)).mono ?_
  rintro e w12 ⟨v12, rfl, h12, e12⟩
  have a0 := Lib.hid (a0.out.ext e12)
  have b0 := Lib.hid (b0.out.ext e12)
  have c0 := Lib.hid (c0.out.ext e12)
  have U := Lib.hid (U.out.ext e12)
  have M := Lib.hid (M.out.ext e12)
  have EE := EE.trans e12
  have t1 := Lib.hid h12
  clear h12 e12
  go_wp2_with fail
  refine (doH1 t1.out.l M.out.l (by omega) (by omega)).mono ?_
  rintro e w13 ⟨v13, rfl, h13, e13⟩
  have a0 := Lib.hid (a0.out.ext e13)
  have b0 := Lib.hid (b0.out.ext e13)
  have c0 := Lib.hid (c0.out.ext e13)
  have U := Lib.hid (U.out.ext e13)
  have M := Lib.hid (M.out.ext e13)
  have t1 := Lib.hid (t1.out.ext e13)
  have EE := EE.trans e13
  have t2 := Lib.hid h13
  clear h13 e13
  go_wp2_with fail
  refine (doH1 a0.out (nilL _) (by omega) (by omega)).mono ?_
  rintro e w14 ⟨v14, rfl, h14, e14⟩
  have a0 := Lib.hid (a0.out.ext e14)
  have b0 := Lib.hid (b0.out.ext e14)
  have c0 := Lib.hid (c0.out.ext e14)
  have U := Lib.hid (U.out.ext e14)
  have M := Lib.hid (M.out.ext e14)
  have t1 := Lib.hid (t1.out.ext e14)
  have t2 := Lib.hid (t2.out.ext e14)
  have EE := EE.trans e14
  have t3 := Lib.hid h14
  clear h14 e14
  go_wp2_with fail
  refine (eqS t2.out t3.out (fun x => by by_cases h1 : x ∈ a <;> by_cases h2 : x ∈ b <;> by_cases h3 : x ∈ c <;> simp [h1, h2, h3])).mono ?_
  rintro e w15 ⟨rfl, e15⟩
  have a0 := Lib.hid (a0.out.ext e15)
  have b0 := Lib.hid (b0.out.ext e15)
  have c0 := Lib.hid (c0.out.ext e15)
  have U := Lib.hid (U.out.ext e15)
  have M := Lib.hid (M.out.ext e15)
  have t1 := Lib.hid (t1.out.ext e15)
  have t2 := Lib.hid (t2.out.ext e15)
  have t3 := Lib.hid (t3.out.ext e15)
  have EE := EE.trans e15
  clear e15
  go_wp2_with fail
  refine (doH1 a0.out (nilL _) (by omega) (by omega)).mono ?_
  rintro e w16 ⟨v16, rfl, h16, e16⟩
  have a0 := Lib.hid (a0.out.ext e16)
  have b0 := Lib.hid (b0.out.ext e16)
  have c0 := Lib.hid (c0.out.ext e16)
  have U := Lib.hid (U.out.ext e16)
  have M := Lib.hid (M.out.ext e16)
  have EE := EE.trans e16
  have X := Lib.hid h16
  clear h16 e16
  obtain ⟨lX, pp1, pp2, pp3, bX⟩ := X.out
  obtain ⟨AX, cX, hvX, _, _, _⟩ := slice_shape pp1
  subst hvX
  have pX := Lib.hid pp2
  have qX := Lib.hid pp3
  clear pp1 pp2 pp3
  go_wp2_with fail
  refine (doH1 b0.out (nilL _) (by omega) (by omega)).mono ?_
  rintro e w17 ⟨v17, rfl, h17, e17⟩
  have a0 := Lib.hid (a0.out.ext e17)
  have b0 := Lib.hid (b0.out.ext e17)
  have c0 := Lib.hid (c0.out.ext e17)
  have U := Lib.hid (U.out.ext e17)
  have M := Lib.hid (M.out.ext e17)
  have X := Lib.hid (X.out.ext e17)
  have EE := EE.trans e17
  have Y := Lib.hid h17
  clear h17 e17
  obtain ⟨lY, pp1, pp2, pp3, bY⟩ := Y.out
  obtain ⟨AY, cY, hvY, _, _, _⟩ := slice_shape pp1
  subst hvY
  have pY := Lib.hid pp2
  have qY := Lib.hid pp3
  clear pp1 pp2 pp3
  have hsum := sizes pU.out pM.out pX.out pY.out (fun x => by rw [qU.out, qX.out, qY.out]; simp) (fun x => by rw [qM.out, qX.out, qY.out]; simp)
  have y1 : (((lU.length : Int) + (lM.length : Int)) != ((lX.length : Int) + (lY.length : Int))) = false := by simp; omega
  have y2 : (((lU.length : Int) + (lM.length : Int)) = ((lX.length : Int) + (lY.length : Int))) = True := by simp; omega
  clear hsum
  go_wp2_with fail
  refine (doH1 b0.out c0.out (by omega) (by omega)).mono ?_
  rintro e w18 ⟨v18, rfl, h18, e18⟩
  have a0 := Lib.hid (a0.out.ext e18)
  have b0 := Lib.hid (b0.out.ext e18)
  have c0 := Lib.hid (c0.out.ext e18)
  have U := Lib.hid (U.out.ext e18)
  have M := Lib.hid (M.out.ext e18)
  have EE := EE.trans e18
  have t1 := Lib.hid h18
  clear h18 e18
  go_wp2_with fail
  refine (doH2 a0.out t1.out.l (by omega) (by omega)).mono ?_
  rintro e w19 ⟨v19, rfl, h19, e19⟩
  have a0 := Lib.hid (a0.out.ext e19)
  have b0 := Lib.hid (b0.out.ext e19)
  have c0 := Lib.hid (c0.out.ext e19)
  have U := Lib.hid (U.out.ext e19)
  have M := Lib.hid (M.out.ext e19)
  have t1 := Lib.hid (t1.out.ext e19)
  have EE := EE.trans e19
  have t2 := Lib.hid h19
  clear h19 e19
  go_wp2_with fail
  refine (doH2 a0.out c0.out (by omega) (by omega)).mono ?_
  rintro e w20 ⟨v20, rfl, h20, e20⟩
  have a0 := Lib.hid (a0.out.ext e20)
  have b0 := Lib.hid (b0.out.ext e20)
  have c0 := Lib.hid (c0.out.ext e20)
  have U := Lib.hid (U.out.ext e20)
  have M := Lib.hid (M.out.ext e20)
  have t1 := Lib.hid (t1.out.ext e20)
  have t2 := Lib.hid (t2.out.ext e20)
  have EE := EE.trans e20
  have t3 := Lib.hid h20
  clear h20 e20
  go_wp2_with fail
  refine (doH1 M.out.l t3.out.l (by omega) (by omega)).mono ?_
  rintro e w21 ⟨v21, rfl, h21, e21⟩
  have a0 := Lib.hid (a0.out.ext e21)
  have b0 := Lib.hid (b0.out.ext e21)
  have c0 := Lib.hid (c0.out.ext e21)
  have U := Lib.hid (U.out.ext e21)
  have M := Lib.hid (M.out.ext e21)
  have t1 := Lib.hid (t1.out.ext e21)
  have t2 := Lib.hid (t2.out.ext e21)
  have t3 := Lib.hid (t3.out.ext e21)
  have EE := EE.trans e21
  have t4 := Lib.hid h21
  clear h21 e21
  go_wp2_with fail
  refine (eqS t2.out t4.out (fun x => by by_cases h1 : x ∈ a <;> by_cases h2 : x ∈ b <;> by_cases h3 : x ∈ c <;> simp [h1, h2, h3])).mono ?_
  rintro e w22 ⟨rfl, e22⟩
  have a0 := Lib.hid (a0.out.ext e22)
  have b0 := Lib.hid (b0.out.ext e22)
  have c0 := Lib.hid (c0.out.ext e22)
  have U := Lib.hid (U.out.ext e22)
  have M := Lib.hid (M.out.ext e22)
  have t1 := Lib.hid (t1.out.ext e22)
  have t2 := Lib.hid (t2.out.ext e22)
  have t3 := Lib.hid (t3.out.ext e22)
  have t4 := Lib.hid (t4.out.ext e22)
  have EE := EE.trans e22
  clear e22
  go_wp2_with fail
  refine (doH1 b0.out c0.out (by omega) (by omega)).mono ?_
  rintro e w23 ⟨v23, rfl, h23, e23⟩
  have a0 := Lib.hid (a0.out.ext e23)
  have b0 := Lib.hid (b0.out.ext e23)
  have c0 := Lib.hid (c0.out.ext e23)
  have U := Lib.hid (U.out.ext e23)
  have M := Lib.hid (M.out.ext e23)
  have EE := EE.trans e23
  have t1 := Lib.hid h23
  clear h23 e23
  go_wp2_with fail
  refine (doH3 a0.out t1.out.l (by omega) (by omega)).mono ?_
  rintro e w24 ⟨v24, rfl, h24, e24⟩
  have a0 := Lib.hid (a0.out.ext e24)
  have b0 := Lib.hid (b0.out.ext e24)
  have c0 := Lib.hid (c0.out.ext e24)
  have U := Lib.hid (U.out.ext e24)
  have M := Lib.hid (M.out.ext e24)
  have t1 := Lib.hid (t1.out.ext e24)
  have EE := EE.trans e24
  have t2 := Lib.hid h24
  clear h24 e24
  go_wp2_with fail
  refine (doH3 a0.out b0.out (by omega) (by omega)).mono ?_
  rintro e w25 ⟨v25, rfl, h25, e25⟩
  have a0 := Lib.hid (a0.out.ext e25)
  have b0 := Lib.hid (b0.out.ext e25)
  have c0 := Lib.hid (c0.out.ext e25)
  have U := Lib.hid (U.out.ext e25)
  have M := Lib.hid (M.out.ext e25)
  have t1 := Lib.hid (t1.out.ext e25)
  have t2 := Lib.hid (t2.out.ext e25)
  have EE := EE.trans e25
  have t3 := Lib.hid h25
  clear h25 e25
  go_wp2_with fail
  refine (doH3 a0.out c0.out (by omega) (by omega)).mono ?_
  rintro e w26 ⟨v26, rfl, h26, e26⟩
  have a0 := Lib.hid (a0.out.ext e26)
  have b0 := Lib.hid (b0.out.ext e26)
  have c0 := Lib.hid (c0.out.ext e26)
  have U := Lib.hid (U.out.ext e26)
  have M := Lib.hid (M.out.ext e26)
  have t1 := Lib.hid (t1.out.ext e26)
  have t2 := Lib.hid (t2.out.ext e26)
  have t3 := Lib.hid (t3.out.ext e26)
  have EE := EE.trans e26
  have t4 := Lib.hid h26
  clear h26 e26
  go_wp2_with fail
  refine (doH2 t3.out.l t4.out.l (by omega) (by omega)).mono ?_
  rintro e w27 ⟨v27, rfl, h27, e27⟩
  have a0 := Lib.hid (a0.out.ext e27)
  have b0 := Lib.hid (b0.out.ext e27)
  have c0 := Lib.hid (c0.out.ext e27)
  have U := Lib.hid (U.out.ext e27)
  have M := Lib.hid (M.out.ext e27)
  have t1 := Lib.hid (t1.out.ext e27)
  have t2 := Lib.hid (t2.out.ext e27)
  have t3 := Lib.hid (t3.out.ext e27)
  have t4 := Lib.hid (t4.out.ext e27)
  have EE := EE.trans e27
  have t5 := Lib.hid h27
  clear h27 e27
  go_wp2_with fail
  refine (eqS t2.out t5.out (fun x => by by_cases h1 : x ∈ a <;> by_cases h2 : x ∈ b <;> by_cases h3 : x ∈ c <;> simp [h1, h2, h3])).mono ?_
  rintro e w28 ⟨rfl, e28⟩
  have a0 := Lib.hid (a0.out.ext e28)
  have b0 := Lib.hid (b0.out.ext e28)
  have c0 := Lib.hid (c0.out.ext e28)
  have U := Lib.hid (U.out.ext e28)
  have M := Lib.hid (M.out.ext e28)
  have t1 := Lib.hid (t1.out.ext e28)
  have t2 := Lib.hid (t2.out.ext e28)
  have t3 := Lib.hid (t3.out.ext e28)
  have t4 := Lib.hid (t4.out.ext e28)
  have t5 := Lib.hid (t5.out.ext e28)
  have EE := EE.trans e28
  clear e28
  go_wp2_with fail
  refine (sets6H a0.out b0.out (by omega) (by omega)).mono ?_
  rintro e w29 ⟨r, rfl, hr, e29⟩
  have HR := Lib.hid hr
  clear hr
  have a0 := Lib.hid (a0.out.ext e29)
  have b0 := Lib.hid (b0.out.ext e29)
  have c0 := Lib.hid (c0.out.ext e29)
  have U := Lib.hid (U.out.ext e29)
  have EE := EE.trans e29
  clear e29
  go_wp2_with fail
  refine (doH1 a0.out (nilL _) (by omega) (by omega)).mono ?_
  rintro e w30 ⟨v30, rfl, h30, e30⟩
  have a0 := Lib.hid (a0.out.ext e30)
  have b0 := Lib.hid (b0.out.ext e30)
  have c0 := Lib.hid (c0.out.ext e30)
  have U := Lib.hid (U.out.ext e30)
  have EE := EE.trans e30
  have t1 := Lib.hid h30
  clear h30 e30
  go_wp2_with fail
  refine (eqS2 U.out t1.out).mono ?_
  rintro e w31 ⟨r2, rfl, hr2, e31⟩
  have hrr : r2 = r := by
    rw [Bool.eq_iff_iff, hr2, HR.out]
    constructor
    · intro h x hx
      have := (h x).1 (.inr hx)
      simpa using this
    · intro h x
      constructor
      · rintro (h1 | h1)
        · exact .inl h1
        · exact .inl (h x h1)
      · rintro (h1 | h1)
        · exact .inl h1
        · exact h1.elim
  subst hrr
  have EE := EE.trans e31
  clear hr2 e31
  cases r2 <;> (go_wp2_with fail; refine (live_any _ (HT.out.ext EE)).mono ?_; rintro e w99 ⟨rfl, e99⟩; go_wp2_with fail; go_ret; exact ⟨rfl, EE.trans e99⟩)
end Go.Proofs.YtfefnflcgkanpaaGreatDoor
