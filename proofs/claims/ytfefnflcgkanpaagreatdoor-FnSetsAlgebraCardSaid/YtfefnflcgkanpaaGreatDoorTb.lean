/-
  set.Set[int]: UnsortedList, Difference, Intersection, IsSuperset, Union, SymmetricDifference.
-/
import Derived.Test.YtfefnflcgkanpaaGreatDoorTa
namespace Go.Proofs.YtfefnflcgkanpaaGreatDoor
open Go.RowKit
set_option linter.unusedSimpArgs false
set_option linter.unusedVariables false

/-- what a filter has kept -/
def Kept (ks2 done rs : List Int) (s : Bool) : Prop := ∀ x, x ∈ rs ↔ x ∈ done ∧ (decide (x ∈ ks2) = s)
theorem Kept.skip {ks2 done rs : List Int} {s : Bool} {k : Int} (h : Kept ks2 done rs s) (hk : decide (k ∈ ks2) ≠ s) : Kept ks2 (done ++ [k]) rs s := fun x => by
  rw [h x, List.mem_append]
  constructor
  · rintro ⟨a, b⟩; exact ⟨.inl a, b⟩
  · rintro ⟨a | a, b⟩
    · exact ⟨a, b⟩
    · simp at a; subst a; exact absurd b hk
theorem Kept.put {ks2 done rs : List Int} {s : Bool} {k : Int} (h : Kept ks2 done rs s) (hk : decide (k ∈ ks2) = s) : Kept ks2 (done ++ [k]) (insk rs k) s := fun x => by
  rw [mem_insk, h x, List.mem_append]
  constructor
  · rintro (⟨a, b⟩ | rfl)
    · exact ⟨.inl a, b⟩
    · exact ⟨.inr (by simp), hk⟩
  · rintro ⟨a | a, b⟩
    · exact .inl ⟨a, b⟩
    · simp at a; exact .inr a
set_option maxRecDepth 20000 in
set_option maxHeartbeats 2000000 in
theorem unsortedS_any (b : Nat) (ks : List Int) (w : World) (H : SetI w b ks) (hn : ks.length ≤ 2000) :
    Calls Tryz.prog 27 #[.map (some b)] w fun e w' => ∃ v done, e = .returned v ∧ OwnP Rp.iv w' any w.heap.size 3 v done ∧ (done.Nodup ∧ ∀ x, x ∈ done ↔ x ∈ ks) ∧ Ext w w' := by
  have hbl : b < w.heap.size := H.lt
  have hlen := SetI.lenS _ b ks H 3
  obtain ⟨w1, hmk, O1, E1, s1⟩ := make0 ks.length (by omega) w (ok := fun k => w.heap.size ≤ k ∧ k ≠ w.heap.size + 1) (base := w.heap.size) (by omega) (Nat.le_refl _)
  obtain ⟨w2, hrg, HI, E2, s2⟩ := IterL.start (P := Tryz.prog) keyI (H.extW E1) Tryz.underlying32
  rw [s1] at hrg HI
  rw [unit_keys] at HI
  have HI2 := Lib.hid HI
  have HO1 := Lib.hid (O1.ext E2)
  have E02 := E1.trans E2
  obtain ⟨i0, hi, hz0, hz1, hz2⟩ := info_parts3 infoI
  clear H HI O1 s1 s2 E1 E2
  go_enter Tryz.func27, Tryz.ntmps27
  go_wp2_with fail
  clear hrg hmk hlen
  go_loopg [3] ks.length (fun g u3 wr => ∃ left done, left.length ≤ g ∧ Hid (IterL (Value.int .i64) wr b (w.heap.size + 1) (ks.map unitP) left) ∧ Hid (OwnP Rp.iv wr (fun k => w.heap.size ≤ k ∧ k ≠ w.heap.size + 1) w.heap.size 3 u3 done) ∧ Hid (Came ks left done) ∧ Ext w wr)
  case atStart => exact ⟨ks, [], Nat.le_refl _, HI2, HO1, Lib.hid Came.start, E02⟩
  case round =>
    obtain ⟨left, done, hg, hI, hO, hC, hE⟩ := hrel
    obtain ⟨A3, n3, cap3, rfl⟩ := own_shape hO.out
    rcases hI.out.next (P := Tryz.prog) keyI 0 with ⟨h0, hnx⟩ | ⟨k9, v9, w9, hk9, hkv, hnx, HI9, X9, s9, hen⟩
    · subst h0
      go_wp2_with fail
      go_ret
      exact ⟨_, done, rfl, hO.out.turn (fun _ _ _ => trivial), hC.out.fin, hE⟩
    · obtain rfl := unit_val hkv
      have hC2 := Lib.hid (hC.out.step hk9)
      have hless := filter_less hk9
      have HI9 := Lib.hid HI9
      have hrl := HI9.out.lt
      have O9 := Lib.hid (hO.out.extX X9 (fun k hk _ hm => hk.2 hm))
      have E9 : Ext w w9 := ((hE.toX _).trans X9).toExt (fun k hk => by have hk : k = w.heap.size + 1 := hk; omega)
      have hown := Lib.hid hO.out.1
      have hdl : done.length ≤ 2000 := Nat.le_trans hC.out.len hn
      clear hkv hk9 X9 s9 hI hC
      go_wp2_with (at_builtin; refine wpList_app (d := Rp.iv) (base := w.heap.size) rfl (.tmp 14) (.tmp 16) 22 rfl 3 i0 _ 8 Tryz.underlying22 hi hz0 hz1 hz2 rfl (v := (.slice A3 n3 cap3)) rfl (O9.out.ext ((Ext.refl w9).alloc _)) (fun q hq => by simp at hq; omega) ⟨w9.heap.size, 0, none⟩ 1 [.int .i64 k9] [k9] rfl rfl (lit_at _ _ _ _ (by simp)) (one_elem (p := fun i y => (Rp.iv).K _ (fun q => (w.heap.size ≤ q ∧ q ≠ w.heap.size + 1) ∧ some q ≠ Value.ownBlock (.slice A3 n3 cap3)) y (([.int .i64 k9].drop (i * (Rp.iv).sz)).take (Rp.iv).sz)) ⟨rfl,trivial⟩) (by simp [maxLen]; omega) (by simp; omega) (by simp; omega) ?_; intro v2 w2 own2 g2 f2; have O2 := Lib.hid own2; have G2 := Lib.hid g2; have F2 := Lib.hid f2; clear own2 g2 f2; obtain ⟨A2, n2, cap2, rfl⟩ := own_shape O2.out; skip)
      have X92 : ExtX (fun q => some q = Value.ownBlock (.slice A3 n3 cap3)) w9 w2 := (((Ext.refl w9).alloc _).toX _).grown G2.out (fun q h => h.symm)
      have HI10 := Lib.hid (HI9.out.extX X92 (fun hm => by have := hown.out _ hm.symm; omega) (fun hm => by have := hown.out _ hm.symm; omega))
      have hE2 : Ext w w2 := ((E9.toX _).trans X92).toExt (fun q hq => (hown.out q hq.symm).1)
      go_wp2_with fail
      go_roundg (left.length - 1)
      case measure => omega
      case rel => exact ⟨_, _, by omega, HI10, O2, hC2, hE2⟩
def FiltS (w : World) (ks ks2 : List Int) (s : Bool) (e : Ending) (w' : World) : Prop :=
  ∃ r rs, e = .returned (.map (some r)) ∧ w.heap.size ≤ r ∧ SetI w' r rs ∧ (∀ x, x ∈ rs ↔ x ∈ ks ∧ decide (x ∈ ks2) = s) ∧ Ext w w'
set_option maxRecDepth 20000 in
set_option maxHeartbeats 2000000 in
theorem diffS_any (b b2 : Nat) (ks ks2 : List Int) (w : World) (H : SetI w b ks) (H2 : SetI w b2 ks2) :
    Calls Tryz.prog 14 #[.map (some b), .map (some b2)] w (FiltS w ks ks2 false) := by
  have hbl : b < w.heap.size := H.lt
  have hbl2 : b2 < w.heap.size := H2.lt
  have HS2 := Lib.hid H2
  have hmm := @run_makeMap Tryz.prog
  have E1 := (Ext.refl w).alloc (.map #[] 0)
  obtain ⟨w2, hrg, HI, E2, s2⟩ := IterL.start (P := Tryz.prog) keyI (H.extW E1) Tryz.underlying32
  rw [unit_keys, World.size_alloc] at HI
  rw [World.size_alloc] at hrg
  have HI2 := Lib.hid HI
  have HR2 := Lib.hid ((SetI.newAt w rfl).extW E2)
  have E02 := E1.trans E2
  clear H H2 HI E1 E2 s2
  go_enter Tryz.func14, Tryz.ntmps14
  go_wp2_with fail
  clear hrg hmm
  go_loopg [6] ks.length (fun g u6 wr => ∃ left done rs, left.length ≤ g ∧ Hid (IterL (Value.int .i64) wr b (w.heap.size + 1) (ks.map unitP) left) ∧ Hid (SetI wr w.heap.size rs) ∧ Hid (Came ks left done) ∧ Hid (Kept ks2 done rs false) ∧ Ext w wr)
  case atStart => exact ⟨ks, [], [], Nat.le_refl _, HI2, HR2, Lib.hid Came.start, Lib.hid (fun x => by simp), E02⟩
  case round =>
    obtain ⟨left, done, rs, hg, hI, hR, hC, hD, hE⟩ := hrel
    rcases hI.out.next (P := Tryz.prog) keyI 0 with ⟨h0, hnx⟩ | ⟨k9, v9, w9, hk9, hkv, hnx, HI9, X9, s9, hen⟩
    · subst h0
      go_wp2_with fail
      go_ret
      exact ⟨_, rs, rfl, Nat.le_refl _, hR.out, fun x => by rw [hD.out x, hC.out.fin.2], hE⟩
    · obtain rfl := unit_val hkv
      have hC2 := Lib.hid (hC.out.step hk9)
      have hless := filter_less hk9
      have HI9 := Lib.hid HI9
      have hrl9 := HI9.out.lt
      have HR9 : Hid (SetI w9 w.heap.size rs) := Lib.hid (MapL.extX hR.out X9 (fun hm => by have hm : w.heap.size = w.heap.size + 1 := hm; omega))
      have E9 : Ext w w9 := ((hE.toX _).trans X9).toExt (fun k hk => by have hk : k = w.heap.size + 1 := hk; omega)
      clear hkv hk9 X9 s9 hI hC hR
      go_wp2_with fail
      refine (setHas_any b2 ks2 k9 _ (HS2.out.extW E9)).mono ?_
      rintro e w3 ⟨rfl, e3⟩
      have HI10 := Lib.hid (HI9.out.ext e3)
      have HR3 := Lib.hid (HR9.out.extW e3)
      have E93 := E9.trans e3
      have hI3 := HI10.out.lt
      clear hnx hen HI9 HR9
      by_cases hin : k9 ∈ ks2
      · have hD2 := Lib.hid (hD.out.skip (k := k9) (by simp [hin]))
        rw [show decide (k9 ∈ ks2) = true by simp [hin]]
        replace hin := Lib.hid hin
        go_wp2_with fail
        go_roundg (left.length - 1)
        case measure => omega
        case rel => exact ⟨_, _, _, by omega, HI10, HR3, hC2, hD2, E93⟩
      · have hD2 := Lib.hid (hD.out.put (k := k9) (by simp [hin]))
        rw [show decide (k9 ∈ ks2) = false by simp [hin]]
        replace hin := Lib.hid hin
        go_wp2_with fail
        refine (insert_any w.heap.size rs [k9] _ _ (HR3.out.extW ((Ext.refl w3).alloc _)) (one_iv w3 k9 (by omega))).mono ?_
        rintro e w4 ⟨rfl, h4, x4⟩
        have X4 : ExtX (fun k => k = w.heap.size) w3 w4 := (((Ext.refl w3).alloc _).toX _).trans x4
        have HR4 : Hid (SetI w4 w.heap.size (insk rs k9)) := Lib.hid h4
        have HI11 := Lib.hid (HI10.out.extX X4 (fun h => by have h : b = w.heap.size := h; omega) (fun h => by have h : w.heap.size + 1 = w.heap.size := h; omega))
        have E4 : Ext w w4 := ((E93.toX _).trans X4).toExt (fun k hk => by have hk : k = w.heap.size := hk; omega)
        clear h4 x4 X4
        go_wp2_with fail
        go_roundg (left.length - 1)
        case measure => omega
        case rel => exact ⟨_, _, _, by omega, HI11, HR4, hC2, hD2, E4⟩
end Go.Proofs.YtfefnflcgkanpaaGreatDoor
