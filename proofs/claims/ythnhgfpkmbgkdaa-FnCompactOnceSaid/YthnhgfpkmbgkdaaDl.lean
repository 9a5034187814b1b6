/-
  The guards of the laws on rounds: zzFits4, ckRoundsGood.
-/
import Derived.Test.YthnhgfpkmbgkdaaDj
import Derived.Handy
import Derived.Deep.Cut
namespace Go.Proofs.Ythnhgfpkmbgkdaa
open Go.RowKit
set_option linter.unusedSimpArgs false
set_option linter.unusedVariables false

def BoolAns (w : World) (e : Ending) (w' : World) : Prop := ∃ c : Bool, e = .returned (.bool c) ∧ Ext w w'
/-- an element of a slice of slices -/
theorem rows_at {α : Type} {d : Rp α} {w wr : World} {ok : Nat → Prop} {A : Option Addr} {xss : List (List α)} (h : (Rp.slice d).row w ok A xss) {b o : Nat} (hA : A = some ⟨b, o, none⟩) {k : Nat} {xs : List α} (hx : xss[k]? = some xs) (he : Ext w wr) :
    ∃ A' cap, wr.cell? ⟨b, o + k, none⟩ = some (.slice A' xs.length cap) ∧ xs.length ≤ cap ∧ cap ≤ maxLen ∧ (Rp.slice d).K wr ok xs [.slice A' xs.length cap] := by
  obtain ⟨cs, _, hK, hc⟩ := h.at hA hx
  obtain ⟨A', cap, rfl, h1, h2, h3⟩ := id hK
  have h0 := (hc 0 (show 0 < 1 by decide)).trans rfl
  rw [show (Rp.slice d).sz = 1 from rfl, Nat.mul_one, Nat.add_zero] at h0
  exact ⟨A', cap, he.cellS h0, h1, h2, (Rp.slice d).ext' he hK⟩
set_option maxRecDepth 20000 in
set_option maxHeartbeats 2000000 in
theorem fits6_any (pss : List (List CkD)) (v : Value) (w : World) (hp : (Rp.slice (Rp.slice Rp.ck)).K w any pss [v]) : Calls Try.prog 34 #[v] w (BoolAns w) := by
  obtain ⟨A, cap, he, p1, p2, p3, hrow⟩ := hp
  simp only [List.cons.injEq, and_true] at he
  subst he
  have HR := Lib.hid hrow
  clear hrow p3
  go_enter Try.func34, Try.ntmps34
  by_cases hbig : (2147483647 : Int) < pss.length
  · go_wp2_with fail
    go_ret
    exact ⟨_, rfl, Ext.refl w⟩
  have hsm : decide ((2147483647 : Int) < pss.length) = false := decide_eq_false hbig
  go_wp2_with fail
  go_loopw [10] (fun i wr => ∃ k : Nat, i = .int .i64 k ∧ k ≤ pss.length ∧ Ext w wr) (fun i _ => pss.length - (intOf i).toNat)
  case atStart => exact ⟨0, rfl, Nat.zero_le _, Ext.refl _⟩
  case round =>
    obtain ⟨k, rfl, hk, hE⟩ := hrel
    by_cases hlt : k < pss.length
    · obtain ⟨ps, hps⟩ : ∃ p, pss[k]? = some p := ⟨_, List.getElem?_eq_getElem hlt⟩
      obtain ⟨ba, o, rfl, _⟩ := HR.out.addr (List.ne_nil_of_length_pos (by omega))
      obtain ⟨A', c', hc, q1, q2, hK⟩ := rows_at HR.out rfl hps hE
      clear hps hK
      by_cases hb2 : (2147483647 : Int) < ps.length
      · go_wp2_with fail
        go_ret
        exact ⟨_, rfl, hE⟩
      · have hs2 : decide ((2147483647 : Int) < ps.length) = false := decide_eq_false hb2
        go_wp2_with fail
        go_roundw
        case rel => exact ⟨k + 1, by go_num, by omega, hE⟩
        case measure => simp [intOf]; omega
    · go_wp2_with fail
      go_ret
      exact ⟨_, rfl, hE⟩
abbrev rdV (Ah : Option Addr) (nh ch : Nat) (Ar : Option Addr) (nr cr : Nat) (Ap : Option Addr) (np cp : Nat) : Value := .agg #[.slice Ah nh ch, .slice Ar nr cr, .slice Ap np cp]
set_option maxRecDepth 20000 in
set_option maxHeartbeats 2000000 in
theorem fits5_any (r : RdD) (Ah Ar Ap : Option Addr) (nh ch nr cr np cp : Nat) (w : World) (hh : nh ≤ 9223372036854775807) (hr : nr ≤ 9223372036854775807) (hp : (Rp.slice (Rp.slice Rp.ck)).K w any r.pss [.slice Ap np cp]) :
    Calls Try.prog 26 #[rdV Ah nh ch Ar nr cr Ap np cp] w (BoolAns w) := by
  have HP := Lib.hid hp
  clear hp
  go_enter Try.func26, Try.ntmps26
  by_cases hb1 : (2147483647 : Int) < nh
  · go_wp2_with fail
    go_ret
    exact ⟨_, rfl, (Ext.refl w).alloc _⟩
  have hs1 : decide ((2147483647 : Int) < nh) = false := decide_eq_false hb1
  by_cases hb2 : (2147483647 : Int) < nr
  · go_wp2_with fail
    go_ret
    exact ⟨_, rfl, (Ext.refl w).alloc _⟩
  have hs2 : decide ((2147483647 : Int) < nr) = false := decide_eq_false hb2
  go_wp2_with fail
  refine (fits6_any r.pss _ _ ((Rp.slice (Rp.slice Rp.ck)).ext' ((Ext.refl w).alloc _) HP.out)).mono ?_
  rintro e w1 ⟨c, rfl, E1⟩
  have E01 := ((Ext.refl w).alloc _).trans E1
  cases c with
  | false =>
    go_wp2_with fail
    go_ret
    exact ⟨_, rfl, E01⟩
  | true =>
    go_wp2_with fail
    go_ret
    exact ⟨_, rfl, E01⟩
/-- a round's cells in a slice of rounds -/
theorem rd_at {w wr : World} {ok : Nat → Prop} {A : Option Addr} {rs : List RdD} (h : Rp.rd.row w ok A rs) {b o : Nat} (hA : A = some ⟨b, o, none⟩) {k : Nat} {r : RdD} (hx : rs[k]? = some r) (he : Ext w wr) :
    ∃ Ah ch Ar cr Ap cp, wr.cell? ⟨b, o + k * 3, none⟩ = some (.slice Ah r.hs.length ch) ∧ wr.cell? ⟨b, o + k * 3 + 1, none⟩ = some (.slice Ar r.revs.length cr) ∧ wr.cell? ⟨b, o + k * 3 + 2, none⟩ = some (.slice Ap r.pss.length cp) ∧
      (Rp.slice Rp.hs).K wr ok r.hs [.slice Ah r.hs.length ch] ∧ (Rp.slice Rp.i64).K wr ok r.revs [.slice Ar r.revs.length cr] ∧ (Rp.slice (Rp.slice Rp.ck)).K wr ok r.pss [.slice Ap r.pss.length cp] := by
  obtain ⟨cs, _, hK, hc⟩ := h.at hA hx
  obtain ⟨c1, c23, rfl, hh1, c2, c3, rfl, hr1, hp1⟩ := hK
  obtain ⟨Ah, ch, rfl, _⟩ := id hh1
  obtain ⟨Ar, cr, rfl, _⟩ := id hr1
  obtain ⟨Ap, cp, rfl, _⟩ := id hp1
  have d0 := (hc 0 (show 0 < 3 by decide)).trans rfl
  have d1 := (hc 1 (show 1 < 3 by decide)).trans rfl
  have d2 := (hc 2 (show 2 < 3 by decide)).trans rfl
  rw [show Rp.rd.sz = 3 from rfl] at d0 d1 d2
  simp only [Nat.add_zero, ← Nat.add_assoc] at d0 d1 d2
  exact ⟨Ah, ch, Ar, cr, Ap, cp, he.cellS d0, he.cellS d1, he.cellS d2, (Rp.slice Rp.hs).ext' he hh1, (Rp.slice Rp.i64).ext' he hr1, (Rp.slice (Rp.slice Rp.ck)).ext' he hp1⟩
theorem sl_cap {α : Type} {d : Rp α} {w : World} {ok : Nat → Prop} {xs : List α} {A : Option Addr} {n c : Nat} (h : (Rp.slice d).K w ok xs [.slice A n c]) : n = xs.length ∧ xs.length ≤ c ∧ c ≤ maxLen ∧ d.row w ok A xs := by
  obtain ⟨A', c', he, h1, h2, _, h4⟩ := h
  simp only [List.cons.injEq, Value.slice.injEq, and_true] at he
  obtain ⟨rfl, rfl, rfl⟩ := he
  exact ⟨rfl, h1, h2, h4⟩
set_option maxRecDepth 20000 in
set_option maxHeartbeats 2000000 in
theorem fits4_any (rs : List RdD) (v : Value) (w : World) (hp : (Rp.slice Rp.rd).K w any rs [v]) : Calls Try.prog 12 #[v] w (BoolAns w) := by
  obtain ⟨A, cap, he, p1, p2, p3, hrow⟩ := hp
  simp only [List.cons.injEq, and_true] at he
  subst he
  have HR := Lib.hid hrow
  clear hrow p3
  go_enter Try.func12, Try.ntmps12
  by_cases hbig : (2147483647 : Int) < rs.length
  · go_wp2_with fail
    go_ret
    exact ⟨_, rfl, Ext.refl w⟩
  have hsm : decide ((2147483647 : Int) < rs.length) = false := decide_eq_false hbig
  go_wp2_with fail
  go_loopw [10] (fun i wr => ∃ k : Nat, i = .int .i64 k ∧ k ≤ rs.length ∧ Ext w wr) (fun i _ => rs.length - (intOf i).toNat)
  case atStart => exact ⟨0, rfl, Nat.zero_le _, Ext.refl _⟩
  case round =>
    obtain ⟨k, rfl, hk, hE⟩ := hrel
    by_cases hlt : k < rs.length
    · obtain ⟨r, hr⟩ : ∃ p, rs[k]? = some p := ⟨_, List.getElem?_eq_getElem hlt⟩
      obtain ⟨ba, o, rfl, _⟩ := HR.out.addr (List.ne_nil_of_length_pos (by omega))
      obtain ⟨Ah, ch, Ar, cr, Ap, cp, d0, d1, d2, h0, h1, h2⟩ := rd_at HR.out rfl hr hE
      obtain ⟨_, g1, g2, _⟩ := sl_cap h0
      obtain ⟨_, g3, g4, _⟩ := sl_cap h1
      have HP := Lib.hid h2
      have b1 : r.hs.length ≤ 9223372036854775807 := by unfold maxLen at g2; omega
      have b2 : r.revs.length ≤ 9223372036854775807 := by unfold maxLen at g4; omega
      clear h0 h1 h2 hr g1 g2 g3 g4
      go_wp2_with fail
      refine (fits5_any r Ah Ar Ap _ _ _ _ _ _ _ b1 b2 ((Rp.slice (Rp.slice Rp.ck)).ext' ((Ext.refl wr).alloc _) HP.out)).mono ?_
      rintro e w1 ⟨c, rfl, E1⟩
      have E01 := ((Ext.refl wr).alloc _).trans E1
      cases c with
      | false =>
        go_wp2_with fail
        go_ret
        exact ⟨_, rfl, hE.trans E01⟩
      | true =>
        go_wp2_with fail
        go_roundw
        case rel => exact ⟨k + 1, by go_num, by omega, hE.trans E01⟩
        case measure => simp [intOf]; omega
    · go_wp2_with fail
      go_ret
      exact ⟨_, rfl, hE⟩
end Go.Proofs.Ythnhgfpkmbgkdaa
