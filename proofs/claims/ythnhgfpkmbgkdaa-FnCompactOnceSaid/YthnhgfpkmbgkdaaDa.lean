/-
  The peers of a round, by revision (the closure of CompactCheck).
-/
import Derived.Test.YthnhgfpkmbgkdaaCz
import Derived.Deep.Cut
namespace Go.Proofs.Ythnhgfpkmbgkdaa
open Go.RowKit
set_option linter.unusedSimpArgs false
set_option linter.unusedVariables false

def peersD (revs : List Int) (pss : List (List CkD)) (r : Int) : List CkD := if r ∈ revs then (pss[revs.idxOf r]?).getD [] else []
set_option maxRecDepth 20000 in
set_option maxHeartbeats 2000000 in
theorem clo22 (k : Nat) (vh vr vp : Value) (revs : List Int) (pss : List (List CkD)) (r : Int) (w : World) (K : Blk w k 34 [vh, vr, vp]) (hr : (Rp.slice Rp.i64).K w any revs [vr]) (hp : (Rp.slice (Rp.slice Rp.ck)).K w any pss [vp])
    (hlen : ∀ ps ∈ pss, ps.length ≤ 1000) :
    Calls Try.prog 22 #[.int .i64 r, .pointer (some ⟨k, 0, none⟩)] w fun e w' => ∃ v', e = .returned v' ∧ OwnP Rp.pe w' (fun k => w.heap.size ≤ k) w.heap.size 88 v' (peersD revs pss r) ∧ Ext w w' := by
  obtain ⟨A, cap, he, p1, p2, p3, hrow⟩ := hp
  simp only [List.cons.injEq, and_true] at he
  subst he
  have c1 := K.cell (o := 1) rfl
  have c2 := K.cell (o := 2) rfl
  have HR := Lib.hid hr
  have HRow := Lib.hid hrow
  have HK := Lib.hid K
  clear hr hrow K
  obtain ⟨Av, nv, capv, rfl⟩ : ∃ a n c, vr = .slice a n c := by obtain ⟨A, cap, hx, _⟩ := HR.out; simp at hx; exact ⟨_, _, _, hx⟩
  by_cases hm : r ∈ revs
  · have hi : idxD revs r = (revs.idxOf r : Nat) := by unfold idxD; rw [if_pos hm]
    obtain ⟨i, hix⟩ : ∃ i, i = revs.idxOf r := ⟨_, rfl⟩
    rw [← hix] at hi
    by_cases hlt : i < pss.length
    · obtain ⟨ps, hps⟩ : ∃ ps, pss[i]? = some ps := ⟨_, List.getElem?_eq_getElem hlt⟩
      have hD : Hid (peersD revs pss r = ps) := Lib.hid (by unfold peersD; rw [if_pos hm, ← hix, hps]; rfl)
      have hl := hlen ps (List.mem_of_getElem? hps)
      obtain ⟨ba, o, rfl, _⟩ := HRow.out.addr (List.ne_nil_of_length_pos (by omega))
      obtain ⟨cs, hcl, hKs, hc⟩ := HRow.out.at rfl hps
      obtain ⟨A1, cap1, rfl, q⟩ := id hKs
      have d0 := (hc 0 (by decide)).trans rfl
      simp only [Nat.add_zero, ← Nat.add_assoc] at d0
      have hz1 : (Rp.slice Rp.ck).sz = 1 := rfl
      rw [hz1, Nat.mul_one] at d0
      have HS := Lib.hid hKs
      clear hc hKs hcl q hps hm hlen
      replace hix := Lib.hid hix
      rw [hD.out]
      go_enter Try.func22, Try.ntmps22
      go_wp2_with fail
      refine (index_any revs r _ _ HR.out).mono ?_
      rintro e w1 ⟨rfl, E1⟩
      rw [hi]
      have c2 := E1.cellS c2
      have d0 := E1.cellS d0
      go_wp2_with fail
      refine (peersIn_any ps _ _ (Rp.toAny _ ((Rp.slice Rp.ck).ext' E1 HS.out)) hl).mono ?_
      rintro e w2 ⟨v', rfl, O2, E2⟩
      have HO := Lib.hid O2
      clear O2
      obtain ⟨A2, n2, cap2, rfl⟩ := own_shape HO.out
      go_wp2_with fail
      go_ret
      exact ⟨_, rfl, HO.out.turn' (fun k hk _ => Nat.le_trans E1.size hk) E1.size, E1.trans E2⟩
    · have hD : Hid (peersD revs pss r = []) := Lib.hid (by unfold peersD; rw [if_pos hm, ← hix, List.getElem?_eq_none (by omega)]; rfl)
      have hge : (pss.length : Int) ≤ (i : Int) := by omega
      clear hm hlen
      replace hix := Lib.hid hix
      rw [hD.out]
      go_enter Try.func22, Try.ntmps22
      go_wp2_with fail
      refine (index_any revs r _ _ HR.out).mono ?_
      rintro e w1 ⟨rfl, E1⟩
      rw [hi]
      have c2 := E1.cellS c2
      go_wp2_with fail
      go_ret
      exact ⟨_, rfl, OwnP.nil _ _ _ _ _, E1⟩
  · have hi : idxD revs r = -1 := by unfold idxD; rw [if_neg hm]
    have hD : Hid (peersD revs pss r = []) := Lib.hid (by unfold peersD; rw [if_neg hm])
    clear hm hlen
    rw [hD.out]
    go_enter Try.func22, Try.ntmps22
    go_wp2_with fail
    refine (index_any revs r _ _ HR.out).mono ?_
    rintro e w1 ⟨rfl, E1⟩
    rw [hi]
    have c2 := E1.cellS c2
    go_wp2_with fail
    go_ret
    exact ⟨_, rfl, OwnP.nil _ _ _ _ _, E1⟩
set_option maxRecDepth 20000 in
/-- the closure that a round hands to its hasher -/
theorem clo29 (c k : Nat) (vh vr vp : Value) (revs : List Int) (pss : List (List CkD)) (r : Int) (w : World) (KC : w.cell? ⟨c, 0, none⟩ = some (.func (.func 22) #[] #[.pointer (some ⟨k, 0, none⟩)]))
    (K : Blk w k 34 [vh, vr, vp]) (hr : (Rp.slice Rp.i64).K w any revs [vr]) (hp : (Rp.slice (Rp.slice Rp.ck)).K w any pss [vp]) (hlen : ∀ ps ∈ pss, ps.length ≤ 1000) (hl2 : (peersD revs pss r).length ≤ 1000) :
    Calls Try.prog 29 #[.int .i64 r, .pointer (some ⟨c, 0, none⟩)] w (AskAns (peersD revs pss r) w) := by
  have HK := Lib.hid K
  have HR := Lib.hid hr
  have HP := Lib.hid hp
  have HL := Lib.hid hlen
  clear K hr hp hlen
  go_enter Try.func29, Try.ntmps29
  go_wp2_with fail
  refine (clo22 k vh vr vp revs pss r _ HK.out HR.out HP.out HL.out).mono ?_
  rintro e w1 ⟨v', rfl, O1, E1⟩
  have HO := Lib.hid O1
  clear O1
  go_wp2_with fail
  refine (zzPeers_any _ _ _ (Rp.toAny _ HO.out.slice) hl2).mono ?_
  rintro e w2 ⟨v2, rfl, O2, E2⟩
  have HO2 := Lib.hid O2
  clear O2
  obtain ⟨A2, n2, cap2, rfl⟩ := own_shape HO2.out
  go_wp2
  go_ret
  exact ⟨_, rfl, HO2.out.turn' (fun k hk _ => Nat.le_trans E1.size hk) E1.size, E1.trans E2⟩
end Go.Proofs.Ythnhgfpkmbgkdaa
