/-
  Lists compared (slices.Equal), and the ring that is alive (laws.rgLive).
-/
import Derived.Test.YtgebafnbkglmaaaRingL
namespace Go.Proofs.Ytgebafnbkglmaaa
open Go.RowKit
set_option linter.unusedSimpArgs false
set_option linter.unusedVariables false

theorem num_at {w wr : World} {A : Option Addr} {xs : List Int} (h : Rp.num.row w any A xs) {b o : Nat} (hA : A = some ⟨b, o, none⟩) {k : Nat} (hk : k < xs.length) (he : Ext w wr) : wr.cell? ⟨b, o + k, none⟩ = some (.int .i64 xs[k]) := by
  obtain ⟨cs, hl, hK, hc⟩ := h.at hA (List.getElem?_eq_getElem hk)
  have hcs : cs = [.int .i64 xs[k]] := hK
  subst hcs
  exact he.cellS (by have := hc 0 (by decide); simpa [Rp.num] using this)

set_option maxHeartbeats 1000000 in
theorem equal_any (v1 v2 : Value) (xs ys : List Int) (w : World) (h1 : (Rp.slice Rp.num).K w any xs [v1]) (h2 : (Rp.slice Rp.num).K w any ys [v2]) :
    Calls Try.prog 6 #[v1, v2] w fun e w' => e = .returned (.bool (decide (xs = ys))) ∧ Ext w w' := by
  obtain ⟨A1, k1, hv1, p1, q1, r1, hrow1⟩ := h1
  obtain ⟨A2, k2, hv2, p2, q2, r2, hrow2⟩ := h2
  simp only [List.cons.injEq, and_true] at hv1 hv2
  subst hv1 hv2
  have l1 : xs.length ≤ 9223372036854775807 := by unfold maxLen at q1; omega
  have l2 : ys.length ≤ 9223372036854775807 := by unfold maxLen at q2; omega
  by_cases hlen : xs.length = ys.length
  · have hl' : (xs.length : Int) = (ys.length : Int) := by omega
    have HROW1 := Lib.hid hrow1
    have HROW2 := Lib.hid hrow2
    have HLN := Lib.hid hlen
    clear hrow1 hrow2 hlen
    go_enter Try.func6, Try.ntmps6
    go_wp2
    go_loopw [13] (fun i wr => ∃ k : Nat, k ≤ xs.length ∧ i = .int .i64 k ∧ Ext w wr ∧ Hid (xs.take k = ys.take k)) (fun i _ => xs.length - (intOf i).toNat)
    case atStart => exact ⟨0, Nat.zero_le _, rfl, Ext.refl _, Lib.hid (by simp)⟩
    case round =>
      obtain ⟨k, hk, rfl, he, hdone⟩ := hrel
      by_cases hlt : k < xs.length
      · have hlt2 : k < ys.length := by have := HLN.out; omega
        obtain ⟨b1, o1, rfl, _⟩ := HROW1.out.addr (by intro h; simp [h] at hlt)
        obtain ⟨b2, o2, rfl, _⟩ := HROW2.out.addr (by intro h; simp [h] at hlt2)
        have c1 := num_at HROW1.out rfl hlt he
        have c2 := num_at HROW2.out rfl hlt2 he
        have HT : Hid (xs.take (k + 1) = xs.take k ++ [xs[k]] ∧ ys.take (k + 1) = ys.take k ++ [ys[k]]) := Lib.hid ⟨List.take_succ_eq_append_getElem hlt, List.take_succ_eq_append_getElem hlt2⟩
        have HX : Hid (xs[k]? = some xs[k] ∧ ys[k]? = some ys[k]) := Lib.hid ⟨List.getElem?_eq_getElem _, List.getElem?_eq_getElem _⟩
        generalize xs[k] = x at *
        generalize ys[k] = y at *
        go_wp2
        go_quiet (fail)
        by_cases hxy : x = y
        · have hxy' : (x != y) = false := by simpa using hxy
          go_wp2
          go_roundw
          case rel => exact ⟨k + 1, by omega, by go_num, he, Lib.hid (by rw [HT.out.1, HT.out.2, hdone.out, hxy])⟩
          case measure => simp [intOf]; omega
        · have hxy' : (x != y) = true := by simpa using hxy
          go_wp2
          go_ret
          refine ⟨?_, he⟩
          rw [decide_eq_false]
          · rfl
          intro h
          apply hxy
          have h1 := HX.out.1
          rw [h, HX.out.2] at h1
          exact (Option.some.inj h1).symm
      · have hkx : k = xs.length := by omega
        have HD := hdone.out
        rw [List.take_of_length_le (by omega), List.take_of_length_le (by have := HLN.out; omega)] at HD
        have HDD := Lib.hid HD
        clear HD
        go_wp2
        go_ret
        exact ⟨by rw [decide_eq_true HDD.out]; rfl, he⟩
  · have hl' : ((xs.length : Int) != (ys.length : Int)) = true := by simp; omega
    go_enter Try.func6, Try.ntmps6
    go_wp2
    go_ret
    refine ⟨?_, Ext.refl _⟩
    rw [decide_eq_false]
    · rfl
    intro h
    exact hlen (by rw [h])

/-- the cells of an answer in a row of answers -/
theorem ans_at {w wr : World} {ok : Nat → Prop} {A : Option Addr} {xs : List RAns} (h : kAns.row w ok A xs) {b o : Nat} (hA : A = some ⟨b, o, none⟩) {k : Nat} (hk : k < xs.length) (he : Ext w wr) :
    ∃ v, (Rp.slice Rp.num).K w ok xs[k].2.2 [v] ∧ wr.cell? ⟨b, o + k * 3, none⟩ = some (.bool xs[k].1) ∧ wr.cell? ⟨b, o + k * 3 + 1, none⟩ = some (.int .i64 xs[k].2.1) ∧ wr.cell? ⟨b, o + k * 3 + 2, none⟩ = some v := by
  obtain ⟨cs, hl, hK, hc⟩ := h.at hA (List.getElem?_eq_getElem hk)
  obtain ⟨c1, r1, rfl, h1, c2, r2, rfl, h2, h3⟩ := hK
  obtain rfl : c1 = [.bool xs[k].1] := h1
  obtain rfl : c2 = [.int .i64 xs[k].2.1] := h2
  obtain ⟨A3, k3, rfl, h3'⟩ := id h3
  refine ⟨_, h3, he.cellS (hc 0 (by decide)), he.cellS ?_, he.cellS ?_⟩
  · have := hc 1 (by decide); rwa [← Nat.add_assoc] at this
  · have := hc 2 (by decide); rwa [← Nat.add_assoc] at this

set_option maxHeartbeats 1000000 in
theorem live_any (w : World) : Calls Try.prog 4 #[] w fun e w' => e = .returned (.bool true) ∧ Ext w w' := by
  go_enter Try.func4, Try.ntmps4
  go_wp2_with fail
  have e1 : Ext w ((w.alloc (.cells #[.int .i64 7] 3)).alloc (.cells #[.int .i64 1, .slice (some ⟨w.heap.size, 0, none⟩) 1 1, .int .i64 2, .slice none 0 0] 26)) := ((Ext.refl w).alloc _).alloc _
  have K0 : Blk ((w.alloc (.cells #[.int .i64 7] 3)).alloc (.cells #[.int .i64 1, .slice (some ⟨w.heap.size, 0, none⟩) 1 1, .int .i64 2, .slice none 0 0] 26)) w.heap.size 3 [.int .i64 7] := (Blk.new w 3 [.int .i64 7]).ext ((Ext.refl _).alloc _)
  have K1 : Blk ((w.alloc (.cells #[.int .i64 7] 3)).alloc (.cells #[.int .i64 1, .slice (some ⟨w.heap.size, 0, none⟩) 1 1, .int .i64 2, .slice none 0 0] 26)) (w.heap.size + 1) 26 [.int .i64 1, .slice (some ⟨w.heap.size, 0, none⟩) 1 1, .int .i64 2, .slice none 0 0] := by
    have := Blk.new (w.alloc (.cells #[.int .i64 7] 3)) 26 [.int .i64 1, .slice (some ⟨w.heap.size, 0, none⟩) 1 1, .int .i64 2, .slice none 0 0]
    rwa [World.size_alloc] at this
  have hops : (Rp.slice kOp).K ((w.alloc (.cells #[.int .i64 7] 3)).alloc (.cells #[.int .i64 1, .slice (some ⟨w.heap.size, 0, none⟩) 1 1, .int .i64 2, .slice none 0 0] 26)) any [some 7, none] [.slice (some ⟨w.heap.size + 1, 0, none⟩) 2 2] := by
    refine slice_of_blk K1 trivial (show (4 : Nat) ≤ 4 from Nat.le_refl 4) (fun i x hx => ?_) (by decide) (by decide)
    match i, hx with
    | 0, hx =>
      obtain rfl : some 7 = x := by simpa using hx
      exact ⟨w.heap.size, 0, rfl, trivial, K0.cell rfl⟩
    | 1, hx =>
      obtain rfl : none = x := by simpa using hx
      rfl
    | n + 2, hx => simp at hx
  refine (ring_any 0 0 0 (by decide) (by decide) (by decide) _ [some 7, none] (by decide) _ hops).mono ?_
  rintro e w2 ⟨v', rfl, hv, e2⟩
  obtain ⟨A, cap, hv', p1, p2, p3, hrow⟩ := hv
  simp only [List.cons.injEq, and_true] at hv'
  subst hv'
  obtain ⟨ba, oa, rfl, _⟩ := hrow.addr (by simp [answersQ])
  obtain ⟨v, h2, a0, a1, a2⟩ := ans_at hrow rfl (k := 1) (by decide) (Ext.refl w2)
  obtain ⟨A4, k4, hv4, q1, q2, q3, hrow4⟩ := h2
  simp only [List.cons.injEq, and_true] at hv4
  subst hv4
  obtain ⟨bb, ob, rfl, _⟩ := hrow4.addr (by simp [answersQ, ansQ, stepQ])
  have c4 := num_at (hrow4.mono (fun _ _ => trivial)) rfl (k := 0) (by decide) (Ext.refl w2)
  have a0' : w2.cell? ⟨ba, oa + 3, none⟩ = some (.bool true) := a0
  have a2' : w2.cell? ⟨ba, oa + 3 + 2, none⟩ = some (.slice (some ⟨bb, ob, none⟩) 1 k4) := a2
  have a2'' : w2.cell? ⟨ba, oa + 5, none⟩ = some (.slice (some ⟨bb, ob, none⟩) 1 k4) := a2
  have c4' : w2.cell? ⟨bb, ob, none⟩ = some (.int .i64 7) := c4
  have p1' : 2 ≤ cap := p1
  clear hrow hrow4 a0 a1 a2 c4 hops K0 K1 p1
  have E := e1.trans e2
  clear e1 e2
  rw [show (answersQ [] [some 7, none]).length = 2 from rfl]
  go_wp2
  go_ret
  exact ⟨rfl, E⟩
end Go.Proofs.Ytgebafnbkglmaaa
