/-
  cpuset: Size, IsEmpty, Contains, IsSubsetOf, Equals, UnsortedList, filter, Union.
-/
import Derived.Test.YtfefnflcgkanpaaGreatDoorSa
import Derived.Laws.MakeOwn
namespace Go.Proofs.YtfefnflcgkanpaaGreatDoor
open Go.RowKit
set_option linter.unusedSimpArgs false
set_option linter.unusedVariables false

theorem SetI.extW {w w' : World} {b : Nat} {ks : List Int} (h : SetI w b ks) (e : Ext w w') : SetI w' b ks := MapL.ext h e
theorem SetI.len (w : World) (b : Nat) (ks : List Int) (h : SetI w b ks) (ty : TypeId) : (Builtin.len_ #[39] ty #[.map (some b)]).run Tryz.prog w = .ok (.int .i64 (ks.length : Nat)) w := by
  have := MapL.length (P := Tryz.prog) h Tryz.underlying39 ty
  rwa [List.length_map] at this
set_option maxRecDepth 20000 in
theorem size_any (b : Nat) (ks : List Int) (w : World) (H : SetI w b ks) : Calls Tryz.prog 48 #[setV b] w fun e w' => e = .returned (.int .i64 (ks.length : Nat)) ∧ Ext w w' := by
  have hn := SetI.len _ b ks (H.extW ((Ext.refl w).alloc (.cells #[.map (some b)] 41))) 3
  clear H
  go_enter Tryz.func48, Tryz.ntmps48
  go_wp2_with fail
  go_ret
  exact ⟨rfl, (Ext.refl w).alloc _⟩
set_option maxRecDepth 20000 in
theorem isEmpty_any (b : Nat) (ks : List Int) (w : World) (H : SetI w b ks) : Calls Tryz.prog 37 #[setV b] w fun e w' => e = .returned (.bool (decide (ks.length = 0))) ∧ Ext w w' := by
  have HS := Lib.hid H
  clear H
  go_enter Tryz.func37, Tryz.ntmps37
  go_wp2_with fail
  refine (size_any b ks _ (HS.out.extW ((Ext.refl w).alloc _))).mono ?_
  rintro e w2 ⟨rfl, e2⟩
  go_wp2_with fail
  go_ret
  refine ⟨?_, ((Ext.refl w).alloc _).trans e2⟩
  congr 2
  by_cases h : ks.length = 0 <;> simp [h]
theorem SetI.lookAt (w : World) (b : Nat) (ks : List Int) (h : SetI w b ks) (x : Int) : (Instr.lookup 39 (.map (some b)) (.int .i64 x) true).run Tryz.prog w = .ok (.tuple #[.agg #[], .bool (decide (x ∈ ks))]) w := by
  have := MapL.look (P := Tryz.prog) keyI h Tryz.underlying39 (zeroUnit w) x true
  rw [aget_unit, aget_unit_val] at this
  exact this
theorem infoI : (Tryz.prog.info? 3).map (fun i => (i.zero, i.size, i.bytes)) = some (some (.int .i64 0), 1, 8) := by kernel_rfl
/-- an empty slice with room -/
theorem make0 (n : Nat) (hn : n ≤ 1000000) (w : World) {ok : Nat → Prop} {base : Nat} (hok : ok w.heap.size) (hb : base ≤ w.heap.size) :
    ∃ w', (Instr.makeSlice 22 (.int .i64 0) (.int .i64 (n : Nat))).run Tryz.prog w = .ok (.slice (some ⟨w.heap.size, 0, none⟩) 0 n) w' ∧ OwnP Rp.iv w' ok base 3 (.slice (some ⟨w.heap.size, 0, none⟩) 0 n) [] ∧ Ext w w' ∧ w'.heap.size = w.heap.size + 1 := by
  obtain ⟨i0, hi, hz0, hz1, hz2⟩ := info_parts3 infoI
  have hrun := run_make (P := Tryz.prog) (w := w) 22 3 i0 _ Tryz.underlying22 hi hz0 .i64 .i64 0 (n : Int) (by omega) (by omega) (by rw [hz2]; omega) (by omega)
  refine ⟨_, hrun, ⟨fun g hg => by simp [Value.ownBlock] at hg; rw [← hg]; exact hok, [], ⟨rfl, .inr ⟨w.heap.size, n, _, rfl, hb, heap_alloc_new w _, Nat.zero_le _, by unfold maxLen; omega, ?_, by simp⟩⟩, fun i x hx => by simp at hx⟩, (Ext.refl w).alloc _, World.size_alloc _ _⟩
  rw [hz1, Int.toNat_natCast, Rp.iv]
  show (madeCells (Value.int .i64 0).cells (n * 1)).size = n * 1
  simp [madeCells]
theorem unit_val {ks : List Int} {k : Int} {v : Value} (h : (k, v) ∈ ks.map unitP) : v = .agg #[] := by
  obtain ⟨x, _, hx⟩ := List.mem_map.1 h
  exact (congrArg Prod.snd hx).symm
/-- what has come of a set's keys -/
def Came (ks left done : List Int) : Prop := done.Nodup ∧ (∀ x ∈ done, x ∉ left) ∧ ∀ x, x ∈ ks ↔ x ∈ done ∨ x ∈ left
theorem Came.start {ks : List Int} : Came ks ks [] := ⟨List.nodup_nil, by simp, by simp⟩
theorem Came.step {ks left done : List Int} {k : Int} (h : Came ks left done) (hk : k ∈ left) : Came ks (left.filter (fun x => decide (x ≠ k))) (done ++ [k]) := by
  obtain ⟨h1, h2, h3⟩ := h
  refine ⟨?_, ?_, fun x => ?_⟩
  · rw [List.nodup_append]
    exact ⟨h1, by simp, fun a ha b hb => by simp at hb; subst hb; rintro rfl; exact h2 _ ha hk⟩
  · intro x hx hf
    rcases List.mem_append.1 hx with h | h
    · exact h2 x h (List.mem_filter.1 hf).1
    · simp at h; subst h; simpa using (List.mem_filter.1 hf).2
  · rw [h3, List.mem_append, List.mem_filter]
    by_cases hxk : x = k
    · subst hxk; simp [hk]
    · simp [hxk]
theorem Came.fin {ks done : List Int} (h : Came ks [] done) : done.Nodup ∧ ∀ x, x ∈ done ↔ x ∈ ks := ⟨h.1, fun x => by rw [h.2.2]; simp⟩
theorem Came.len {ks left done : List Int} (h : Came ks left done) : done.length ≤ ks.length := nodup_le h.1 fun x hx => (h.2.2 x).2 (.inl hx)
theorem filter_less {left : List Int} {k : Int} (hk : k ∈ left) : (left.filter (fun x => decide (x ≠ k))).length < left.length := by
  rw [List.length_filter_lt_length_iff_exists]
  exact ⟨k, hk, by simp⟩
set_option maxRecDepth 20000 in
set_option maxHeartbeats 2000000 in
theorem unsorted_any (b : Nat) (ks : List Int) (w : World) (H : SetI w b ks) (hn : ks.length ≤ 2000) :
    Calls Tryz.prog 35 #[setV b] w fun e w' => ∃ v done, e = .returned v ∧ OwnP Rp.iv w' any w.heap.size 3 v done ∧ (done.Nodup ∧ ∀ x, x ∈ done ↔ x ∈ ks) ∧ Ext w w' := by
  have hbl : b < w.heap.size := H.lt
  obtain ⟨S, hS⟩ : ∃ S, S = w.heap.size := ⟨_, rfl⟩
  have E0 := (Ext.refl w).alloc (.cells #[.map (some b)] 41)
  have hlen := SetI.len _ b ks (H.extW E0) 3
  obtain ⟨w1, hmk, O1, E1, s1⟩ := make0 ks.length (by omega) (w.alloc (.cells #[.map (some b)] 41)) (ok := fun k => w.heap.size ≤ k ∧ k ≠ w.heap.size + 1 + 1) (base := w.heap.size) (by rw [World.size_alloc]; omega) E0.size
  obtain ⟨w2, hrg, HI, E2, s2⟩ := IterL.start (P := Tryz.prog) keyI (H.extW (E0.trans E1)) Tryz.underlying39
  rw [World.size_alloc] at s1 hmk O1
  rw [s1] at hrg HI
  rw [unit_keys] at HI
  have K0 : Blk w2 w.heap.size 41 [.map (some b)] := (Blk.new w _ _).ext (E1.trans E2)
  have c1 := ((Blk.new w 41 [.map (some b)]).ext E1).cell (o := 0) rfl
  have HI2 := Lib.hid HI
  have HO1 := Lib.hid (O1.ext E2)
  have E02 := (E0.trans E1).trans E2
  have HN := Lib.hid H.nodup
  obtain ⟨i0, hi, hz0, hz1, hz2⟩ := info_parts3 infoI
  clear H HI O1 s1 s2 E0 E1 E2 K0
  go_enter Tryz.func35, Tryz.ntmps35
  go_wp2_with fail
  clear hrg hmk hlen c1
  go_loopg [3] ks.length (fun g u3 wr => ∃ left done, left.length ≤ g ∧ Hid (IterL (Value.int .i64) wr b (w.heap.size + 1 + 1) (ks.map unitP) left) ∧ Hid (OwnP Rp.iv wr (fun k => w.heap.size ≤ k ∧ k ≠ w.heap.size + 1 + 1) w.heap.size 3 u3 done) ∧ Hid (Came ks left done) ∧ Ext w wr)
  case atStart => exact ⟨ks, [], Nat.le_refl _, HI2, HO1, Lib.hid Came.start, E02⟩
  case round =>
    obtain ⟨left, done, hg, hI, hO, hC, hE⟩ := hrel
    obtain ⟨A3, n3, cap3, rfl⟩ := own_shape hO.out
    rcases hI.out.next (P := Tryz.prog) keyI 0 with ⟨h0, hnx⟩ | ⟨k9, v9, w9, hk9, hkv, hnx, HI9, X9, s9, hen⟩
    · subst h0
      go_wp2_with fail
      go_ret
      exact ⟨_, done, rfl, hO.out.turn (fun _ _ _ => trivial), hC.out.fin, hE⟩
    · obtain rfl := unit_val hkv
      have hC2 := Lib.hid (hC.out.step hk9)
      have hless := filter_less hk9
      have HI9 := Lib.hid HI9
      have hrl := HI9.out.lt
      have O9 := Lib.hid (hO.out.extX X9 (fun k hk _ hm => hk.2 hm))
      have E9 : Ext w w9 := ((hE.toX _).trans X9).toExt (fun k hk => by have hk : k = w.heap.size + 1 + 1 := hk; omega)
      have hown := Lib.hid hO.out.1
      have hdl : done.length ≤ 2000 := Nat.le_trans hC.out.len hn
      clear hkv hk9 X9 s9 hI hC
      go_wp2_with (at_builtin; refine wpList_app (d := Rp.iv) (base := w.heap.size) rfl (.tmp 16) (.tmp 18) 22 rfl 3 i0 _ 8 Tryz.underlying22 hi hz0 hz1 hz2 rfl (v := (.slice A3 n3 cap3)) rfl (O9.out.ext ((Ext.refl w9).alloc _)) (fun q hq => by simp at hq; omega) ⟨w9.heap.size, 0, none⟩ 1 [.int .i64 k9] [k9] rfl rfl (lit_at _ _ _ _ (by simp)) (one_elem (p := fun i y => (Rp.iv).K _ (fun q => (w.heap.size ≤ q ∧ q ≠ w.heap.size + 1 + 1) ∧ some q ≠ Value.ownBlock (.slice A3 n3 cap3)) y (([.int .i64 k9].drop (i * (Rp.iv).sz)).take (Rp.iv).sz)) ⟨rfl,trivial⟩) (by simp [maxLen]; omega) (by simp; omega) (by simp; omega) ?_; intro v2 w2 own2 g2 f2; have O2 := Lib.hid own2; have G2 := Lib.hid g2; have F2 := Lib.hid f2; clear own2 g2 f2; obtain ⟨A2, n2, cap2, rfl⟩ := own_shape O2.out; skip)
      have X92 : ExtX (fun q => some q = Value.ownBlock (.slice A3 n3 cap3)) w9 w2 := (((Ext.refl w9).alloc _).toX _).grown G2.out (fun q h => h.symm)
      have HI10 := Lib.hid (HI9.out.extX X92 (fun hm => by have := hown.out _ hm.symm; omega) (fun hm => by have := hown.out _ hm.symm; omega))
      have hE2 : Ext w w2 := ((E9.toX _).trans X92).toExt (fun q hq => (hown.out q hq.symm).1)
      go_wp2_with fail
      go_roundg (left.length - 1)
      case measure => omega
      case rel => exact ⟨_, _, by omega, HI10, O2, hC2, hE2⟩
end Go.Proofs.YtfefnflcgkanpaaGreatDoor
