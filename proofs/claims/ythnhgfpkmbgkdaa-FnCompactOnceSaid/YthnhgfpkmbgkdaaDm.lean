/-
  The guard on rounds (ckRoundsGood).
-/
import Derived.Test.YthnhgfpkmbgkdaaDl
import Derived.Handy
import Derived.Deep.Cut
namespace Go.Proofs.Ythnhgfpkmbgkdaa
open Go.RowKit
set_option linter.unusedSimpArgs false
set_option linter.unusedVariables false

/-- a round that the laws speak of -/
structure GoodR (r : RdD) : Prop where
  nh : r.hs.length ≤ 12
  nr : r.revs.length ≤ 12
  np : r.pss.length = r.revs.length
  ps : ∀ ps ∈ r.pss, ps.length ≤ 12
  nd : (r.hs.map (·.rev)).Nodup
def RoundsAns (rs : List RdD) (w : World) (e : Ending) (w' : World) : Prop := ∃ c : Bool, e = .returned (.bool c) ∧ (c = true → rs.length ≤ 8 ∧ ∀ r ∈ rs, GoodR r) ∧ Ext w w'
theorem RoundsAns.no {rs : List RdD} {w w' : World} (h : Ext w w') : RoundsAns rs w (.returned (.bool false)) w' := ⟨false, rfl, (fun hc => by cases hc), h⟩
theorem all_snoc {α : Type} {P : α → Prop} {xs : List α} {k : Nat} {x : α} (h : xs[k]? = some x) (hp : ∀ y ∈ xs.take k, P y) (hx : P x) : ∀ y ∈ xs.take (k + 1), P y := by
  rw [take_snoc' h]; intro y hy
  rcases List.mem_append.1 hy with hy | hy
  · exact hp y hy
  · rw [List.mem_singleton.1 hy]; exact hx
theorem infoHsI : (Try.prog.info? 25).map (·.size) = some 3 := by kernel_rfl
theorem infoI64s : (Try.prog.info? 2).map (·.size) = some 1 := by kernel_rfl
set_option maxRecDepth 20000 in
set_option maxHeartbeats 8000000 in
theorem roundsGood_any (own : Int) (rs : List RdD) (v : Value) (w : World) (hp : (Rp.slice Rp.rd).K w any rs [v]) : Calls Try.prog 13 #[.int .u64 own, v] w (RoundsAns rs w) := by
  obtain ⟨A, cap, he, p1, p2, p3, hrow⟩ := hp
  simp only [List.cons.injEq, and_true] at he
  subst he
  have HR := Lib.hid hrow
  have hlen : rs.length ≤ 9223372036854775807 := by unfold maxLen at p2; omega
  clear hrow p3
  go_enter Try.func13, Try.ntmps13
  go_wp2_with fail
  go_loopw [17] (fun i wr => ∃ k : Nat, i = .int .i64 k ∧ k ≤ rs.length ∧ Hid (∀ r ∈ rs.take k, GoodR r) ∧ Ext w wr) (fun i _ => rs.length - (intOf i).toNat)
  case atStart => exact ⟨0, rfl, Nat.zero_le _, Lib.hid (by simp), Ext.refl _⟩
  case round =>
    obtain ⟨wo, rfl⟩ : ∃ wo : World, wo = wr := ⟨_, rfl⟩
    obtain ⟨k, rfl, hk, hG, hE⟩ := hrel
    by_cases hlt : k < rs.length
    · obtain ⟨r, hr⟩ : ∃ p, rs[k]? = some p := ⟨_, List.getElem?_eq_getElem hlt⟩
      obtain ⟨ba, o, rfl, _⟩ := HR.out.addr (List.ne_nil_of_length_pos (by omega))
      obtain ⟨Ah, ch, Ar, cr, Ap, cp, d0, d1, d2, h0, h1, h2⟩ := rd_at HR.out rfl hr hE
      obtain ⟨_, g1, g2, rowh⟩ := sl_cap h0
      obtain ⟨_, g3, g4, rowr⟩ := sl_cap h1
      obtain ⟨_, g5, g6, rowp⟩ := sl_cap h2
      have HRH := Lib.hid rowh
      have HRR := Lib.hid rowr
      have HRP := Lib.hid rowp
      have HRK := Lib.hid hr
      unfold maxLen at g2 g4 g6
      clear h0 h1 h2 hr rowh rowr rowp
      by_cases c1 : (12 : Int) < r.hs.length
      · go_wp2_with fail
        go_ret
        exact RoundsAns.no (hE.alloc _)
      have c1' : decide ((12 : Int) < r.hs.length) = false := decide_eq_false c1
      by_cases c2 : (12 : Int) < r.revs.length
      · go_wp2_with fail
        go_ret
        exact RoundsAns.no (hE.alloc _)
      have c2' : decide ((12 : Int) < r.revs.length) = false := decide_eq_false c2
      by_cases c3 : r.pss.length = r.revs.length
      rotate_left
      · have c3' : ((r.pss.length : Int) != r.revs.length) = true := by simp; omega
        go_wp2_with fail
        go_ret
        exact RoundsAns.no (hE.alloc _)
      have c3' : ((r.pss.length : Int) != r.revs.length) = false := by simp [c3]
      have HC3 := Lib.hid c3
      clear c3
      go_wp2_with fail
      obtain ⟨W, hW⟩ : ∃ W, W = wo.alloc (.cells #[.slice Ah r.hs.length ch, .slice Ar r.revs.length cr, .slice Ap r.pss.length cp] 34) := ⟨_, rfl⟩
      have E0 : Ext wo W := by rw [hW]; exact (Ext.refl wo).alloc _
      have KR : Blk W wo.heap.size 34 [.slice Ah r.hs.length ch, .slice Ar r.revs.length cr, .slice Ap r.pss.length cp] := by rw [hW]; exact Blk.new wo _ _
      change Code.wp _ _ _ _ (wo.alloc (.cells #[.slice Ah r.hs.length ch, .slice Ar r.revs.length cr, .slice Ap r.pss.length cp] 34))
      rw [← hW]
      clear hW d0 d1 d2 c1' c2' c3'
      have EW := hE.trans E0
      go_loopw [43] (fun i wr => ∃ i1 : Nat, i = .int .i64 i1 ∧ i1 ≤ r.hs.length ∧ Hid ((r.hs.take i1).map (·.rev)).Nodup ∧ Ext W wr) (fun i _ => r.hs.length - (intOf i).toNat)
      case atStart => exact ⟨0, rfl, Nat.zero_le _, Lib.hid (by simp), Ext.refl _⟩
      case round =>
        obtain ⟨w1, rfl⟩ : ∃ wo : World, wo = wr := ⟨_, rfl⟩
        obtain ⟨i1, rfl, hi1, hN, hE1⟩ := hrel
        have K1 := KR.ext hE1
        have hlt1 : wo.heap.size < w1.heap.size := K1.lt
        have e0 := K1.cell (o := 0) rfl
        have e2 := K1.cell (o := 2) rfl
        by_cases hl1 : i1 < r.hs.length
        · obtain ⟨h, hh⟩ : ∃ p, r.hs[i1]? = some p := ⟨_, List.getElem?_eq_getElem hl1⟩
          obtain ⟨bh, oh, rfl, _⟩ := HRH.out.addr (List.ne_nil_of_length_pos (by omega))
          obtain ⟨_, hc⟩ := flat_at HRH.out rfl hh (E0.trans hE1)
          have s0 := hc 0 _ rfl
          have s1 := hc 1 _ rfl
          have s2 := hc 2 _ rfl
          simp only [Nat.add_zero, ← Nat.add_assoc] at s0 s1 s2
          have HH1 := Lib.hid hh
          clear hh hc
          by_cases q1 : h.rev < 1
          · have q1' : decide (h.rev < 1) = true := decide_eq_true q1
            go_wp2_with fail
            go_ret
            exact RoundsAns.no ((EW.trans hE1).alloc _)
          have q1' : decide (h.rev < 1) = false := decide_eq_false q1
          by_cases q2 : h.rev = 9223372036854775807
          · have q2' : (h.rev == 9223372036854775807) = true := by simp [q2]
            replace q2 := Lib.hid q2
            go_wp2_with fail
            go_ret
            exact RoundsAns.no ((EW.trans hE1).alloc _)
          have q2' : (h.rev == 9223372036854775807) = false := by simp [q2]
          have r1 := fun w => run_sliceAt_to (P := Try.prog) Try.underlying31 infoHsI (some ⟨bh, oh, none⟩) r.hs.length ch i1 (by omega) w
          clear q2
          go_wp2_with fail
          obtain ⟨W2, hW2⟩ : ∃ W, W = w1.alloc (.cells (hsCells h).toArray 25) := ⟨_, rfl⟩
          have E2 : Ext w1 W2 := by rw [hW2]; exact (Ext.refl w1).alloc _
          have KH : Blk W2 w1.heap.size 25 (hsCells h) := by rw [hW2]; exact Blk.new w1 _ _
          change Code.wp _ _ _ _ (w1.alloc (.cells (hsCells h).toArray 25))
          rw [← hW2]
          clear hW2 s0 s1 s2 r1 e0 e2 q1' q2'
          go_loopw [61] (fun i wr => ∃ j : Nat, i = .int .i64 j ∧ j ≤ i1 ∧ Hid (∀ g ∈ r.hs.take j, g.rev ≠ h.rev) ∧ Ext W2 wr) (fun i _ => i1 - (intOf i).toNat)
          case atStart => exact ⟨0, rfl, Nat.zero_le _, Lib.hid (by simp), Ext.refl _⟩
          case round =>
            obtain ⟨j, rfl, hj, hD, hE2⟩ := hrel
            have KHr := KH.ext hE2
            have y2 := KHr.cell (o := 2) rfl
            have hlt2 : w1.heap.size < wr.heap.size := KHr.lt
            by_cases hl2 : j < i1
            · obtain ⟨g, hg⟩ : ∃ p, r.hs[j]? = some p := ⟨_, List.getElem?_eq_getElem (by omega)⟩
              obtain ⟨_, hc⟩ := flat_at HRH.out rfl hg (E0.trans (hE1.trans (E2.trans hE2)))
              have s0 := hc 0 _ rfl
              have s1 := hc 1 _ rfl
              have s2 := hc 2 _ rfl
              simp only [Nat.add_zero, ← Nat.add_assoc] at s0 s1 s2
              have HG1 := Lib.hid hg
              clear hg hc
              by_cases q3 : g.rev = h.rev
              · have q3' : (g.rev == h.rev) = true := by simp [q3]
                replace q3 := Lib.hid q3
                go_wp2_with fail
                go_ret
                exact RoundsAns.no ((EW.trans (hE1.trans (E2.trans hE2))).alloc _)
              have q3' : (g.rev == h.rev) = false := by simp [q3]
              go_wp2_with fail
              go_roundw
              case rel => exact ⟨j + 1, by go_num, by omega, Lib.hid (all_snoc HG1.out hD.out q3), hE2.alloc _⟩
              case measure => simp [intOf]; omega
            · have hN2 : Hid ((r.hs.take (i1 + 1)).map (·.rev)).Nodup := Lib.hid (by
                rw [take_snoc' HH1.out, List.map_append, List.nodup_append]
                refine ⟨hN.out, by simp, fun a ha b hb => ?_⟩
                obtain ⟨g, hg, rfl⟩ := List.mem_map.1 ha
                simp only [List.map_cons, List.map_nil, List.mem_singleton] at hb
                subst hb
                have hji : j = i1 := by omega
                subst hji
                exact hD.out g hg)
              go_wp2_with fail
              go_roundw
              case rel => exact ⟨i1 + 1, by go_num, by omega, hN2, hE1.trans (E2.trans hE2)⟩
              case measure => simp [intOf]; omega
        · have hND : Hid (r.hs.map (·.rev)).Nodup := Lib.hid (by have := hN.out; rw [show i1 = r.hs.length by omega, List.take_length] at this; exact this)
          go_wp2_with fail
          clear e0 e2
          go_loopw [75] (fun i wr => ∃ i3 : Nat, i = .int .i64 i3 ∧ i3 ≤ r.pss.length ∧ Hid (∀ ps ∈ r.pss.take i3, ps.length ≤ 12) ∧ Ext w1 wr) (fun i _ => r.pss.length - (intOf i).toNat)
          case atStart => exact ⟨0, rfl, Nat.zero_le _, Lib.hid (by simp), Ext.refl _⟩
          case round =>
            obtain ⟨w3, rfl⟩ : ∃ wo : World, wo = wr := ⟨_, rfl⟩
            obtain ⟨i3, rfl, hi3, hP, hE3⟩ := hrel
            have E13 := hE1.trans hE3
            by_cases hl3 : i3 < r.pss.length
            · obtain ⟨ps, hps⟩ : ∃ p, r.pss[i3]? = some p := ⟨_, List.getElem?_eq_getElem hl3⟩
              obtain ⟨bp, op, rfl, _⟩ := HRP.out.addr (List.ne_nil_of_length_pos (by omega))
              obtain ⟨A4, c4, t0, _, _, hK4⟩ := rows_at HRP.out rfl hps (E0.trans E13)
              have HK4 := Lib.hid hK4
              have HPS := Lib.hid hps
              clear hps hK4
              go_wp2_with fail
              refine (peersGood_any own ps _ w3 HK4.out).mono ?_
              rintro e w4 ⟨cg, rfl, hg4, E4⟩
              have HG4 := Lib.hid hg4
              clear hg4 t0
              cases cg with
              | false =>
                go_wp2_with fail
                go_ret
                exact RoundsAns.no ((EW.trans E13).trans E4)
              | true =>
                have E14 := E13.trans E4
                have K4 := KR.ext E14
                have e1 := K4.cell (o := 1) rfl
                have hir : i3 < r.revs.length := by have := HC3.out; omega
                obtain ⟨rv, hrv⟩ : ∃ p, r.revs[i3]? = some p := ⟨_, List.getElem?_eq_getElem hir⟩
                obtain ⟨br, or, rfl, _⟩ := HRR.out.addr (List.ne_nil_of_length_pos (by omega))
                have r1 := fun w => run_sliceAt_to (P := Try.prog) Try.underlying27 infoI64s (some ⟨br, or, none⟩) r.revs.length cr i3 (by omega) w
                have HRV := Lib.hid hrv
                clear hrv
                have hP4 : Hid (∀ ps ∈ r.pss.take (i3 + 1), ps.length ≤ 12) := Lib.hid (all_snoc HPS.out hP.out (HG4.out rfl))
                go_wp2_with fail
                clear r1
                go_loopw [89] (fun i wr => ∃ j : Nat, i = .int .i64 j ∧ j ≤ i3 ∧ Ext w4 wr) (fun i _ => i3 - (intOf i).toNat)
                case atStart => exact ⟨0, rfl, Nat.zero_le _, Ext.refl _⟩
                case round =>
                  obtain ⟨j, rfl, hj, hE5⟩ := hrel
                  by_cases hl5 : j < i3
                  · obtain ⟨rj, hrj⟩ : ∃ p, r.revs[j]? = some p := ⟨_, List.getElem?_eq_getElem (by omega)⟩
                    obtain ⟨_, hc⟩ := flat_at HRR.out rfl hrj (E0.trans (E14.trans hE5))
                    have s0 := hc 0 _ rfl
                    obtain ⟨_, hc'⟩ := flat_at HRR.out rfl HRV.out (E0.trans (E14.trans hE5))
                    have s1 := hc' 0 _ rfl
                    simp only [Nat.add_zero, Nat.mul_one] at s0 s1
                    have e1 := hE5.cellS e1
                    clear hrj hc hc'
                    by_cases q3 : rj = rv
                    · have q3' : (rj == rv) = true := by simp [q3]
                      replace q3 := Lib.hid q3
                      go_wp2_with fail
                      go_ret
                      exact RoundsAns.no ((EW.trans E14).trans hE5)
                    have q3' : (rj == rv) = false := by simp [q3]
                    go_wp2_with fail
                    go_roundw
                    case rel => exact ⟨j + 1, by go_num, by omega, hE5⟩
                    case measure => simp [intOf]; omega
                  · go_wp2_with fail
                    go_roundw
                    case rel => exact ⟨i3 + 1, by go_num, by omega, hP4, hE3.trans (E4.trans hE5)⟩
                    case measure => simp [intOf]; omega
            · have hPS : Hid (∀ ps ∈ r.pss, ps.length ≤ 12) := Lib.hid (by have := hP.out; rw [show i3 = r.pss.length by omega, List.take_length] at this; exact this)
              have hGR : Hid (∀ r ∈ rs.take (k + 1), GoodR r) := Lib.hid (all_snoc HRK.out hG.out ⟨by omega, by omega, HC3.out, hPS.out, hND.out⟩)
              go_wp2_with fail
              go_roundw
              case rel => exact ⟨k + 1, by go_num, by omega, hGR, EW.trans E13⟩
              case measure => simp [intOf]; omega
    · have hGR : Hid (∀ r ∈ rs, GoodR r) := Lib.hid (by have := hG.out; rw [show k = rs.length by omega, List.take_length] at this; exact this)
      go_wp2_with fail
      go_ret
      refine ⟨_, rfl, fun hc => ⟨?_, hGR.out⟩, hE⟩
      simp at hc
      omega
end Go.Proofs.Ythnhgfpkmbgkdaa
