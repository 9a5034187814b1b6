/-
  The revisions that were not checked yet.
-/
import Derived.Test.YthnhgfpkmbgkdaaCx
import Derived.Handy
import Derived.Deep.Cut
namespace Go.Proofs.Ythnhgfpkmbgkdaa
open Go.RowKit
set_option linter.unusedSimpArgs false
set_option linter.unusedVariables false

theorem flC_of : ∀ (l : List HsD) (cells : List Value), cells.length = l.length * 3 → (∀ i x, l[i]? = some x → (cells.drop (i * 3)).take 3 = hsCells x) → cells = flC l
  | [], cells, hl, _ => List.eq_nil_of_length_eq_zero (by simpa using hl)
  | x :: l, cells, hl, h => by
    have h0 := h 0 x rfl
    have h1 := flC_of l (cells.drop 3) (by rw [List.length_drop, hl, List.length_cons]; omega) (fun i y hy => by
      have := h (i + 1) y (by simpa using hy)
      rw [List.drop_drop]
      rw [show 3 + i * 3 = (i + 1) * 3 by omega]; exact this)
    rw [Nat.zero_mul, List.drop_zero] at h0
    have : cells = cells.take 3 ++ cells.drop 3 := (List.take_append_drop 3 cells).symm
    rw [this, h0, h1]; rfl
theorem own_blk {w : World} {ok : Nat → Prop} {base : Nat} {v : Value} {l : List HsD} (h : OwnP Rp.hs w ok base 55 v l) :
    (v = .slice none 0 0 ∧ l = []) ∨ ∃ g cap rest, v = .slice (some ⟨g, 0, none⟩) l.length cap ∧ base ≤ g ∧ l.length ≤ cap ∧ cap ≤ maxLen ∧ Blk w g 55 (flC l ++ rest) := by
  obtain ⟨h0, cells, h1, h2⟩ := h
  have hlen := h1.1
  rcases h1.2 with ⟨rfl, hn⟩ | ⟨g, cap, cur, rfl, hb, hg, hc, hm, hs, ht⟩
  · exact .inl ⟨rfl, List.eq_nil_of_length_eq_zero hn⟩
  · refine .inr ⟨g, cap, cur.toList.drop cells.length, rfl, hb, hc, hm, ?_⟩
    have hcl : cells = flC l := flC_of l cells hlen (fun i x hx => (h2 i x hx).1)
    have hct : cells ++ cur.toList.drop cells.length = cur.toList := by
      have h9 : cells.length = l.length * Rp.hs.sz := hlen
      rw [h9, ← ht]; exact List.take_append_drop _ _
    rw [← hcl, hct]
    unfold Blk
    simpa using hg
theorem flC_sub {l : List HsD} {rest : List Value} {j : Nat} {x : HsD} (h : l[j]? = some x) : ((flC l ++ rest).drop (j * 3)).take 3 = hsCells x := by
  obtain ⟨h1, h2⟩ := flC_split h
  have h4 : flC l ++ rest = flC (l.take j) ++ (hsCells x ++ (flC (l.drop (j + 1)) ++ rest)) := by
    conv => lhs; rw [h1]
    simp [flC, List.append_assoc]
  rw [h4, ← h2, List.drop_left]; rfl
/-- the first ones of what lies in a block -/
theorem hs_slice {w : World} {g cap : Nat} {l : List HsD} {rest : List Value} (K : Blk w g 55 (flC l ++ rest)) {ok : Nat → Prop} (ho : ok g) (n : Nat) (hn : n ≤ l.length) (hc : l.length ≤ cap) (hm : cap ≤ maxLen) :
    (Rp.slice Rp.hs).K w ok (l.take n) [.slice (some ⟨g, 0, none⟩) n cap] := by
  have hl : (l.take n).length = n := by rw [List.length_take, Nat.min_eq_left hn]
  have := slice_of_blk (d := Rp.hs) (ok := ok) (xs := l.take n) (cap := cap) K ho (by rw [hl, List.length_append, flC_len]; have : n * 3 ≤ l.length * 3 := Nat.mul_le_mul_right _ hn; exact Nat.le_trans this (Nat.le_add_right _ _)) (fun i x hx => ⟨flC_sub (l := l) (by rw [List.getElem?_take] at hx; split at hx; exact hx; cases hx), trivial⟩) (by omega) hm
  rw [hl] at this; exact this
def unchk (latest : Int) (l : List HsD) : List HsD := (sortD l).takeWhile (fun h => decide (latest < h.rev))
theorem takeWhile_at {p : HsD → Bool} : ∀ (l : List HsD) (k : Nat) (x : HsD), l[k]? = some x → (∀ y ∈ l.take k, p y = true) → p x = false → l.takeWhile p = l.take k
  | [], k, x, h, _, _ => by simp at h
  | y :: l, 0, x, h, _, hx => by simp at h; subst h; simp [List.takeWhile, hx]
  | y :: l, k + 1, x, h, hp, hx => by
    have h1 : p y = true := hp y (by simp)
    rw [List.takeWhile_cons_of_pos h1, List.take_succ_cons, takeWhile_at l k x (by simpa using h) (fun z hz => hp z (by simp [hz])) hx]
theorem takeWhile_all {p : HsD → Bool} : ∀ (l : List HsD), (∀ y ∈ l, p y = true) → l.takeWhile p = l
  | [], _ => rfl
  | y :: l, hp => by rw [List.takeWhile_cons_of_pos (hp y (by simp)), takeWhile_all l (fun z hz => hp z (by simp [hz]))]
def UnAns (latest : Int) (l : List HsD) (w : World) (e : Ending) (w' : World) : Prop := ∃ v', e = .returned v' ∧ (Rp.slice Rp.hs).K w' (fun k => w.heap.size ≤ k) (unchk latest l) [v'] ∧ Ext w w'
set_option maxRecDepth 20000 in
set_option maxHeartbeats 2000000 in
theorem unchecked_any (c b B : Nat) (latest : Int) (x : HSt) (al rl : List Int) (l : List HsD) (w : World) (hK : CkAt w c b latest) (h : HAt w b B x al rl) (hl : (Rp.slice Rp.hs).K w any l [x.hashes]) (hn : l.length ≤ 12) :
    Calls Try.prog 39 #[.pointer (some ⟨c, 0, none⟩)] w (UnAns latest l w) := by
  have K : Blk w c 81 [.pointer none, .iface 69 (.pointer (some ⟨b, 0, none⟩)), .int .i64 latest] := hK
  have k1 := K.cell (o := 1) rfl
  have k2 := K.cell (o := 2) rfl
  have hm1 := mux_at K
  have hm2 : ∀ n, (partAt ⟨c, 0, none⟩ 2 24).run Try.prog (w.drewN n) = .ok ⟨c, 2, none⟩ (w.drewN n) := fun n => mux_at (K.drewN n)
  have HH := Lib.hid h
  have HL := Lib.hid hl
  clear h hl K
  go_enter Try.func39, Try.ntmps39
  go_wp2_with fail
  refine (rlock_any _ _).mono ?_
  rintro e w1 ⟨rfl, rfl⟩
  go_wp2_with fail
  refine (runlock_any _ _).mono ?_
  rintro e w1 ⟨rfl, rfl⟩
  go_wp2_with (go_invoke)
  refine (hashes_any b B x al rl l _ HH.out HL.out (by omega)).mono ?_
  rintro e w2 ⟨v, rfl, O2, E2⟩
  clear hm1 hm2 k1 k2
  rcases own_blk O2 with ⟨rfl, rfl⟩ | ⟨g, cap, rest, rfl, hg, hc, hcm, KB⟩
  · have HE := Lib.hid E2
    clear O2 E2
    go_wp2_with fail
    refine (sortN_any _ _).mono ?_
    rintro e w3 ⟨rfl, rfl⟩
    go_wp2_with fail
    go_loopw [28] (fun i wr => i = .int .i64 0 ∧ wr = w3) (fun i _ => 0)
    case atStart => exact ⟨rfl, rfl⟩
    case round =>
      obtain ⟨rfl, rfl⟩ := hrel
      go_wp2_with fail
      go_ret
      exact ⟨_, rfl, (OwnP.nil Rp.hs _ _ 0 55).slice, HE.out⟩
  · have HE := Lib.hid E2
    have HKB := Lib.hid KB
    clear O2 E2 KB
    have hsl := sortD_len l
    go_wp2_with fail
    refine (sort_any l g cap rest _ HKB.out hn).mono ?_
    rintro e w3 ⟨rfl, K3, X3⟩
    have K3 := Lib.hid K3
    have E3 : Ext w w3 := ((HE.out.toX (fun k => k = g)).trans X3).toExt (fun k hk => by subst hk; exact hg)
    have hcap : (sortD l).length ≤ cap := by omega
    clear X3
    have hnl : ((sortD l).length : Int) = (l.length : Int) := by omega
    go_wp2_with fail
    go_loopw [28] (fun i wr => ∃ k : Nat, i = .int .i64 k ∧ k ≤ l.length ∧ Hid (∀ y ∈ (sortD l).take k, decide (latest < y.rev) = true) ∧ Ext w3 wr) (fun i _ => l.length - (intOf i).toNat)
    case atStart => exact ⟨0, rfl, Nat.zero_le _, Lib.hid (by simp), Ext.refl _⟩
    case round =>
      obtain ⟨k, rfl, hk, hP, hE⟩ := hrel
      by_cases hlt : k < l.length
      · obtain ⟨y, hy⟩ : ∃ y, (sortD l)[k]? = some y := ⟨_, List.getElem?_eq_getElem (by omega)⟩
        have KR := K3.out.ext hE
        have y0 := KR.cell (flC_get (rest := rest) hy (k := 0) rfl)
        have y1 := KR.cell (flC_get (rest := rest) hy (k := 1) rfl)
        have y2 := KR.cell (flC_get (rest := rest) hy (k := 2) rfl)
        simp only [Nat.add_zero] at y0
        have hY := Lib.hid hy
        clear hy KR
        by_cases hq : y.rev ≤ latest
        · have hR : Hid (unchk latest l = (sortD l).take k) := Lib.hid (takeWhile_at _ k y hY.out hP.out (by simp; omega))
          replace hR := hR
          have hkc : k ≤ cap := by omega
          go_wp2_with fail
          go_ret
          refine ⟨_, rfl, ?_, (E3.trans hE).alloc _⟩
          rw [hR.out]
          exact hs_slice ((K3.out.ext hE).ext ((Ext.refl _).alloc _)) hg k (by omega) hcap hcm
        · have hq2 : latest < y.rev := by omega
          go_wp2_with fail
          go_roundw
          case rel => exact ⟨k + 1, by go_num, by omega, Lib.hid (by rw [take_snoc' hY.out]; intro z hz; rcases List.mem_append.1 hz with hz | hz; exact hP.out z hz; rw [List.mem_singleton.1 hz]; simpa using hq2), hE.alloc _⟩
          case measure => simp [intOf]; omega
      · have hkn : k = l.length := by omega
        have hR : Hid (unchk latest l = (sortD l).take l.length) := Lib.hid (by have h1 := hP.out; rw [hkn, ← hsl, List.take_length] at h1; rw [← hsl, List.take_length]; exact takeWhile_all _ h1)
        go_wp2_with fail
        go_ret
        refine ⟨_, rfl, ?_, E3.trans hE⟩
        rw [hR.out]
        exact hs_slice (K3.out.ext hE) hg l.length (by omega) hcap hcm
end Go.Proofs.Ythnhgfpkmbgkdaa
