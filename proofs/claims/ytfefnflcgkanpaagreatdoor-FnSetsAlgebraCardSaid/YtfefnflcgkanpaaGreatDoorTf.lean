/-
  set.Set[int]: SortedList.
-/
import Derived.Test.YtfefnflcgkanpaaGreatDoorTe
namespace Go.Proofs.YtfefnflcgkanpaaGreatDoor
open Go.RowKit Go.Sort Go.Shelf
set_option linter.unusedSimpArgs false
set_option linter.unusedVariables false

theorem sortSort_any (base : Nat) (v : Value) (xs : List Int) (w : World) (h : OwnP Rp.iv w any base 3 v xs) (hn : xs.length ≤ 2000) (hnd : xs.Nodup) :
    Calls Tryz.prog 29 #[.iface 48 v] w (SortAns base v xs w) := by
  have hi := h.ints
  by_cases h2 : xs.length ≤ 1
  · obtain ⟨A, cap, rfl, _, _⟩ := h.shape
    refine (Any.sort_Sort_tiny Tryz.laysGt11 48 (.slice A xs.length cap) _ (lenS_reached _ _ _) xs.length h2 w (lenS_M _ _ _ _)).mono ?_
    rintro e w' ⟨rfl, q, rfl⟩
    have hs : srt xs = xs := by
      match xs, h2 with
      | [], _ => simp [srt]
      | [x], _ => simp [srt]
    exact ⟨rfl, by rw [hs]; exact h.ext ((Ext.refl w).drewN q), ((Ext.refl w).drewN q).toX _⟩
  · rcases hi.2 with ⟨rfl, hl0⟩ | ⟨g, cap, cur, rfl, hb, hg, hc, hm, hs, ht⟩
    · omega
    · have hH : Holds (Value.int .i64) w g 0 xs.toArray := holds_of_blockI hg (by rw [Nat.mul_one] at ht; exact ht)
      have hsz : xs.toArray.size = xs.length := by simp
      have hgl := (Array.getElem?_eq_some_iff.1 hg).1
      have := Any.sort_Sort_sorted Tryz.laysGt11 48 (.slice (some ⟨g, 0, none⟩) xs.toArray.size cap) _ _ _ (lenS_reached _ _ _) (lessS_reached _ _ _) (swapS_reached _ _ _) (Value.int .i64) ltInt swo_ltInt g 0 xs.toArray (by rw [hsz]; omega) (by rw [hsz]; omega) w (lenS_M _ _ _ _)
        (lessS_M g 0 cap xs.toArray w hH hgl (by rw [hsz]; omega)) (swapS_M g 0 cap xs.toArray.size (by rw [hsz]; omega)) hH hgl
      rw [hsz] at this
      refine this.mono ?_
      rintro e w' ⟨rfl, d', n, os, hP, hS, rfl⟩
      obtain rfl := perm_srt (xs := xs) (by rw [hsz]; exact hP) (by rw [hsz]; exact hS) hnd
      obtain ⟨a, b⟩ := sort_own (n := n) (os := os) (v := .slice (some ⟨g, 0, none⟩) xs.length cap) rfl hb hg hc hm hs
      exact ⟨rfl, a, b⟩
/-- an empty slice with room -/
theorem make0S (n : Nat) (hn : n ≤ 1000000) (w : World) {ok : Nat → Prop} {base : Nat} (hok : ok w.heap.size) (hb : base ≤ w.heap.size) :
    ∃ w', (Instr.makeSlice 48 (.int .i64 0) (.int .i64 (n : Nat))).run Tryz.prog w = .ok (.slice (some ⟨w.heap.size, 0, none⟩) 0 n) w' ∧ OwnP Rp.iv w' ok base 3 (.slice (some ⟨w.heap.size, 0, none⟩) 0 n) [] ∧ Ext w w' ∧ w'.heap.size = w.heap.size + 1 := by
  obtain ⟨i0, hi, hz0, hz1, hz2⟩ := info_parts3 infoI
  have hrun := run_make (P := Tryz.prog) (w := w) 48 3 i0 _ Tryz.underlying48 hi hz0 .i64 .i64 0 (n : Int) (by omega) (by omega) (by rw [hz2]; omega) (by omega)
  refine ⟨_, hrun, ⟨fun g hg => by simp [Value.ownBlock] at hg; rw [← hg]; exact hok, [], ⟨rfl, .inr ⟨w.heap.size, n, _, rfl, hb, heap_alloc_new w _, Nat.zero_le _, by unfold maxLen; omega, ?_, by simp⟩⟩, fun i x hx => by simp at hx⟩, (Ext.refl w).alloc _, World.size_alloc _ _⟩
  rw [hz1, Int.toNat_natCast, Rp.iv]
  show (madeCells (Value.int .i64 0).cells (n * 1)).size = n * 1
  simp [madeCells]
set_option maxRecDepth 20000 in
set_option maxHeartbeats 2000000 in
theorem sortedS_any (b : Nat) (ks : List Int) (w : World) (H : SetI w b ks) (hn : ks.length ≤ 2000) :
    Calls Tryz.prog 12 #[.map (some b)] w fun e w' => ∃ v l, e = .returned v ∧ OwnP Rp.iv w' any w.heap.size 3 v l ∧ Asc l ∧ (∀ x, x ∈ l ↔ x ∈ ks) ∧ Ext w w' := by
  have hbl : b < w.heap.size := H.lt
  have HH := Lib.hid H
  obtain ⟨w1, hmk, O1, E1, s1⟩ := make0S ks.length (by omega) w (ok := fun k => w.heap.size ≤ k ∧ k ≠ w.heap.size + 1) (base := w.heap.size) (by omega) (Nat.le_refl _)
  obtain ⟨w2, hrg, HI, E2, s2⟩ := IterL.start (P := Tryz.prog) keyI (H.extW E1) Tryz.underlying32
  rw [s1] at hrg HI
  rw [unit_keys] at HI
  have HI2 := Lib.hid HI
  have HO1 := Lib.hid (O1.ext E2)
  have E02 := E1.trans E2
  obtain ⟨i0, hi, hz0, hz1, hz2⟩ := info_parts3 infoI
  clear H HI O1 s1 s2 E1 E2
  go_enter Tryz.func12, Tryz.ntmps12
  go_wp2_with fail
  refine (setLen_any b ks w HH.out).mono ?_
  rintro e wl ⟨rfl, hwl⟩
  rw [hwl]
  clear hwl wl
  go_wp2_with fail
  clear hrg hmk
  go_loopg [3] ks.length (fun g u3 wr => ∃ left done, left.length ≤ g ∧ Hid (IterL (Value.int .i64) wr b (w.heap.size + 1) (ks.map unitP) left) ∧ Hid (OwnP Rp.iv wr (fun k => w.heap.size ≤ k ∧ k ≠ w.heap.size + 1) w.heap.size 3 u3 done) ∧ Hid (Came ks left done) ∧ Ext w wr)
  case atStart => exact ⟨ks, [], Nat.le_refl _, HI2, HO1, Lib.hid Came.start, E02⟩
  case round =>
    obtain ⟨left, done, hg, hI, hO, hC, hE⟩ := hrel
    obtain ⟨A3, n3, cap3, rfl⟩ := own_shape hO.out
    rcases hI.out.next (P := Tryz.prog) keyI 0 with ⟨h0, hnx⟩ | ⟨k9, v9, w9, hk9, hkv, hnx, HI9, X9, s9, hen⟩
    · subst h0
      have hOa := Lib.hid (hO.out.turn (ok' := any) (fun _ _ _ => trivial))
      have hdl : done.length ≤ 2000 := Nat.le_trans hC.out.len hn
      have hfin := Lib.hid hC.out.fin
      have hown := Lib.hid hO.out.own
      clear hI hO hC
      go_wp2_with fail
      refine (sortSort_any w.heap.size _ done _ hOa.out hdl hfin.out.1).mono ?_
      rintro e w5 ⟨rfl, hO5, x5⟩
      have HO5 := Lib.hid hO5
      have E5 : Ext w w5 := ((hE.toX _).trans x5).toExt (fun k hk => (hown.out k hk).1)
      clear hO5 x5
      go_wp2_with fail
      go_ret
      exact ⟨_, _, rfl, HO5.out, srt_asc hfin.out.1, fun x => by rw [mem_srt, hfin.out.2], E5⟩
    · obtain rfl := unit_val hkv
      have hC2 := Lib.hid (hC.out.step hk9)
      have hless := filter_less hk9
      have HI9 := Lib.hid HI9
      have hrl := HI9.out.lt
      have O9 := Lib.hid (hO.out.extX X9 (fun k hk _ hm => hk.2 hm))
      have E9 : Ext w w9 := ((hE.toX _).trans X9).toExt (fun k hk => by have hk : k = w.heap.size + 1 := hk; omega)
      have hown := Lib.hid hO.out.1
      have hdl : done.length ≤ 2000 := Nat.le_trans hC.out.len hn
      clear hkv hk9 X9 s9 hI hC
      go_wp2_with (at_builtin; refine wpList_app (d := Rp.iv) (base := w.heap.size) rfl (.tmp 14) (.tmp 16) 48 rfl 3 i0 _ 8 Tryz.underlying48 hi hz0 hz1 hz2 rfl (v := (.slice A3 n3 cap3)) rfl (O9.out.ext ((Ext.refl w9).alloc _)) (fun q hq => by simp at hq; omega) ⟨w9.heap.size, 0, none⟩ 1 [.int .i64 k9] [k9] rfl rfl (lit_at _ _ _ _ (by simp)) (one_elem (p := fun i y => (Rp.iv).K _ (fun q => (w.heap.size ≤ q ∧ q ≠ w.heap.size + 1) ∧ some q ≠ Value.ownBlock (.slice A3 n3 cap3)) y (([.int .i64 k9].drop (i * (Rp.iv).sz)).take (Rp.iv).sz)) ⟨rfl,trivial⟩) (by simp [maxLen]; omega) (by simp; omega) (by simp; omega) ?_; intro v2 w2 own2 g2 f2; have O2 := Lib.hid own2; have G2 := Lib.hid g2; have F2 := Lib.hid f2; clear own2 g2 f2; obtain ⟨A2, n2, cap2, rfl⟩ := own_shape O2.out; skip)
      have X92 : ExtX (fun q => some q = Value.ownBlock (.slice A3 n3 cap3)) w9 w2 := (((Ext.refl w9).alloc _).toX _).grown G2.out (fun q h => h.symm)
      have HI10 := Lib.hid (HI9.out.extX X92 (fun hm => by have := hown.out _ hm.symm; omega) (fun hm => by have := hown.out _ hm.symm; omega))
      have hE2 : Ext w w2 := ((E9.toX _).trans X92).toExt (fun q hq => (hown.out q hq.symm).1)
      go_wp2_with fail
      go_roundg (left.length - 1)
      case measure => omega
      case rel => exact ⟨_, _, by omega, HI10, O2, hC2, hE2⟩
end Go.Proofs.YtfefnflcgkanpaaGreatDoor
