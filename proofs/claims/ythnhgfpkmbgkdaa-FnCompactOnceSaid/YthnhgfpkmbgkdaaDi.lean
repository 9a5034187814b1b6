/-
  The small cases (ckAwake) have their answers.
-/
import Derived.Test.YthnhgfpkmbgkdaaDh
import Derived.Handy
import Derived.Deep.Cut
namespace Go.Proofs.Ythnhgfpkmbgkdaa
open Go.RowKit
set_option linter.unusedSimpArgs false
set_option linter.unusedVariables false

def awH : HsD := ⟨7, 2, 5⟩
def awP : List CkD := [⟨2, true, 7, 2, 5, 0⟩, ⟨3, true, 8, 2, 5, 0⟩]
def awR : RdD := ⟨[awH], [5], [awP]⟩
theorem aw_ok : RdOk 1 (fun _ => true) (fun _ => false) (fun _ => [3]) awR where
  chk := fun latest c b x hx h hm hpf x' rl' w' v hx' hK hH hcb hp => by
    obtain rfl : awH = h := (List.mem_singleton.1 (unchk_mem hm)).symm
    refine check_awake c b b x' [] rl' latest awH awP 7 8 1 2 3 v w' hK hH ((Rp.slice Rp.pp).mono (fun k hk => hk.1) hp) rfl ?_ (by simp) hcb
    rw [hx', hx]; rfl
  st0 := fun h hm hp => by
    obtain rfl : awH = h := (List.mem_singleton.1 hm).symm
    cases hp
  st1 := fun h hm hp => by cases hp
  al1 := fun h => by simp
  n := by decide
  pl := fun q => by
    unfold peersD
    split
    · rename_i hq
      have : q = 5 := by simpa [awR] using hq
      subst this
      decide
    · simp
  ps := fun ps hps => by
    obtain rfl : awP = ps := (List.mem_singleton.1 hps).symm
    decide
theorem aw_comp : compD (fun _ _ => true) (fun _ _ => false) (fun _ _ => [3]) [awR] = (0, [[3]], [[5]]) := by decide
theorem aw_per : periodicD awH awH 5 1 awP = [3] := by decide
theorem aw_init : initD awH awP = false := by decide
theorem lit_u64 (w : World) (x : Int) (T : TypeId) : (Rp.slice Rp.u64).K (w.alloc (.cells #[.int .u64 x] T)) any [x] [.slice (some ⟨w.heap.size, 0, none⟩) 1 1] :=
  slice_of_blk (xs := [x]) (Blk.new w T [.int .u64 x]) trivial (show 1 * 1 ≤ 1 by decide) (one_elem (p := fun i y => Rp.u64.K _ any y ((([.int .u64 x] : List Value).drop (i * Rp.u64.sz)).take Rp.u64.sz)) ⟨rfl, trivial⟩) (Nat.le_refl _) (by decide)
theorem lit_i64 (w : World) (x : Int) (T : TypeId) : (Rp.slice Rp.i64).K (w.alloc (.cells #[.int .i64 x] T)) any [x] [.slice (some ⟨w.heap.size, 0, none⟩) 1 1] :=
  slice_of_blk (xs := [x]) (Blk.new w T [.int .i64 x]) trivial (show 1 * 1 ≤ 1 by decide) (one_elem (p := fun i y => Rp.i64.K _ any y ((([.int .i64 x] : List Value).drop (i * Rp.i64.sz)).take Rp.i64.sz)) ⟨rfl, trivial⟩) (Nat.le_refl _) (by decide)
theorem row_one {α : Type} {d : Rp α} {w : World} {ok : Nat → Prop} {xs : List α} {v : Value} (h : (Rp.slice (Rp.slice d)).K w ok [xs] [v]) : ∃ b o cap u, v = .slice (some ⟨b, o, none⟩) 1 cap ∧ 1 ≤ cap ∧ w.cell? ⟨b, o, none⟩ = some u ∧ (Rp.slice d).K w ok xs [u] := by
  obtain ⟨A, cap, he, p1, p2, p3, hrow⟩ := h
  simp only [List.cons.injEq, and_true] at he
  subst he
  obtain ⟨b, o, rfl, _⟩ := hrow.addr (by simp)
  obtain ⟨cs, hl, hK, hc⟩ := hrow.at rfl (i := 0) (x := xs) rfl
  obtain ⟨u, rfl⟩ : ∃ u, cs = [u] := by obtain ⟨A, cap, h, _⟩ := hK; exact ⟨_, h⟩
  have h0 := (hc 0 (show 0 < 1 by decide)).trans rfl
  simp only [Nat.add_zero, Nat.zero_mul] at h0
  exact ⟨b, o, cap, u, rfl, p1, h0, hK⟩
set_option maxRecDepth 20000 in
set_option maxHeartbeats 4000000 in
theorem ckAwake_any (w : World) : Calls Try.prog 11 #[] w fun e w' => e = .returned (.bool true) ∧ Ext w w' := by
  go_enter Try.func11, Try.ntmps11
  go_wp2_with fail
  obtain ⟨W, hW⟩ : ∃ W, W = (((((w.alloc (.cells #[.int .u32 7, .int .i64 2, .int .i64 5] 25)).alloc (.cells #[.int .u64 2, .bool true, .int .u32 7, .int .i64 2, .int .i64 5, .int .i64 0, .int .u64 3, .bool true, .int .u32 8, .int .i64 2, .int .i64 5, .int .i64 0] 30)).alloc (.cells #[.int .u32 7, .int .i64 2, .int .i64 5] 25)).alloc (.cells #[.int .i64 5] 2)).alloc (.cells #[.slice (some ⟨w.heap.size + 1, 0, none⟩) 2 2] 26)).alloc (.cells #[.slice (some ⟨w.heap.size + 1 + 1, 0, none⟩) 1 1, .slice (some ⟨w.heap.size + 1 + 1 + 1, 0, none⟩) 1 1, .slice (some ⟨w.heap.size + 1 + 1 + 1 + 1, 0, none⟩) 1 1] 34) := ⟨_, rfl⟩
  have E0 : Ext w W := by rw [hW]; exact ((((((Ext.refl w).alloc _).alloc _).alloc _).alloc _).alloc _).alloc _
  have K0 : Blk W w.heap.size 25 (hsCells awH) := by rw [hW]; exact (Blk.new w _ _).ext ((((((Ext.refl _).alloc _).alloc _).alloc _).alloc _).alloc _)
  have K1 : Blk W (w.heap.size + 1) 30 (awP.flatMap ckCells) := by rw [hW]; exact (blk_at _ _ _ _ (by simp)).ext (((((Ext.refl _).alloc _).alloc _).alloc _).alloc _)
  have K2 : Blk W (w.heap.size + 1 + 1) 25 (hsCells awH) := by rw [hW]; exact (blk_at _ _ _ _ (by simp)).ext ((((Ext.refl _).alloc _).alloc _).alloc _)
  have K3 : Blk W (w.heap.size + 1 + 1 + 1) 2 [.int .i64 5] := by rw [hW]; exact (blk_at _ _ _ _ (by simp)).ext (((Ext.refl _).alloc _).alloc _)
  have K4 : Blk W (w.heap.size + 1 + 1 + 1 + 1) 26 [.slice (some ⟨w.heap.size + 1, 0, none⟩) 2 2] := by rw [hW]; exact (blk_at _ _ _ _ (by simp)).ext ((Ext.refl _).alloc _)
  have K5 : Blk W (w.heap.size + 1 + 1 + 1 + 1 + 1) 34 [.slice (some ⟨w.heap.size + 1 + 1, 0, none⟩) 1 1, .slice (some ⟨w.heap.size + 1 + 1 + 1, 0, none⟩) 1 1, .slice (some ⟨w.heap.size + 1 + 1 + 1 + 1, 0, none⟩) 1 1] := by rw [hW]; exact blk_at _ _ _ _ (by simp)
  have S1 : (Rp.slice Rp.ck).K W any awP [.slice (some ⟨w.heap.size + 1, 0, none⟩) 2 2] := slice_of_blk (xs := awP) K1 trivial (by decide) (fun i x hx => by
    match i, hx with
    | 0, hx => obtain rfl := Option.some.inj hx; exact ⟨rfl, by decide, by decide, by decide, by decide, by decide⟩
    | 1, hx => obtain rfl := Option.some.inj hx; exact ⟨rfl, by decide, by decide, by decide, by decide, by decide⟩) (by decide) (by decide)
  have S2 : (Rp.slice Rp.hs).K W any [awH] [.slice (some ⟨w.heap.size + 1 + 1, 0, none⟩) 1 1] := slice_of_blk (xs := [awH]) K2 trivial (by decide) (one_elem (p := fun i y => Rp.hs.K W any y (((hsCells awH).drop (i * Rp.hs.sz)).take Rp.hs.sz)) ⟨rfl, trivial⟩) (by decide) (by decide)
  have S3 : (Rp.slice Rp.i64).K W any [5] [.slice (some ⟨w.heap.size + 1 + 1 + 1, 0, none⟩) 1 1] := slice_of_blk (xs := [5]) K3 trivial (by decide) (one_elem (p := fun i y => Rp.i64.K W any y ((([.int .i64 5] : List Value).drop (i * Rp.i64.sz)).take Rp.i64.sz)) ⟨rfl, trivial⟩) (by decide) (by decide)
  have S4 : (Rp.slice (Rp.slice Rp.ck)).K W any [awP] [.slice (some ⟨w.heap.size + 1 + 1 + 1 + 1, 0, none⟩) 1 1] := slice_of_blk (d := Rp.slice Rp.ck) (xs := [awP]) K4 trivial (show 1 * 1 ≤ 1 by decide) (one_elem (p := fun i y => (Rp.slice Rp.ck).K W any y ((([.slice (some ⟨w.heap.size + 1, 0, none⟩) 2 2] : List Value).drop (i * 1)).take 1)) S1) (by decide) (by decide)
  have S5 : (Rp.slice Rp.rd).K W any [awR] [.slice (some ⟨w.heap.size + 1 + 1 + 1 + 1 + 1, 0, none⟩) 1 1] := slice_of_blk (d := Rp.rd) (xs := [awR]) K5 trivial (show 1 * 3 ≤ 3 by decide) (one_elem (p := fun i y => Rp.rd.K W any y ((([.slice (some ⟨w.heap.size + 1 + 1, 0, none⟩) 1 1, .slice (some ⟨w.heap.size + 1 + 1 + 1, 0, none⟩) 1 1, .slice (some ⟨w.heap.size + 1 + 1 + 1 + 1, 0, none⟩) 1 1] : List Value).drop (i * 3)).take 3)) ⟨_, _, rfl, S2, _, _, rfl, S3, S4⟩) (by decide) (by decide)
  change Calls _ _ _ ((((((w.alloc (.cells #[.int .u32 7, .int .i64 2, .int .i64 5] 25)).alloc (.cells #[.int .u64 2, .bool true, .int .u32 7, .int .i64 2, .int .i64 5, .int .i64 0, .int .u64 3, .bool true, .int .u32 8, .int .i64 2, .int .i64 5, .int .i64 0] 30)).alloc (.cells #[.int .u32 7, .int .i64 2, .int .i64 5] 25)).alloc (.cells #[.int .i64 5] 2)).alloc (.cells #[.slice (some ⟨w.heap.size + 1, 0, none⟩) 2 2] 26)).alloc (.cells #[.slice (some ⟨w.heap.size + 1 + 1, 0, none⟩) 1 1, .slice (some ⟨w.heap.size + 1 + 1 + 1, 0, none⟩) 1 1, .slice (some ⟨w.heap.size + 1 + 1 + 1 + 1, 0, none⟩) 1 1] 34)) _
  rw [← hW]
  clear hW K1 K2 K3 K4 K5 S2 S3 S4
  have HP := Lib.hid S1
  have HK0 := Lib.hid K0
  clear S1 K0
  refine (compactCheck_any 1 (fun _ _ => true) (fun _ _ => false) (fun _ _ => [3]) [awR] _ W S5 (by decide) (Lib.hid (fun r hr => by obtain rfl : awR = r := (List.mem_singleton.1 hr).symm; exact aw_ok))).mono ?_
  rintro e w1 ⟨v1, v2, rfl, h1, h2, E1⟩
  have h1 : (Rp.slice (Rp.slice Rp.u64)).K w1 any [[3]] [v1] := by have := h1; rw [aw_comp] at this; exact this
  have h2 : (Rp.slice (Rp.slice Rp.i64)).K w1 any [[5]] [v2] := by have := h2; rw [aw_comp] at this; exact this
  have H1 := Lib.hid h1
  have H2 := Lib.hid h2
  obtain ⟨A1, o1, c1, u1, rfl, _⟩ := row_one h1
  obtain ⟨A2, o2, c2, u2, rfl, _⟩ := row_one h2
  clear h1 h2 S5
  have K0 := HK0.out.ext E1
  have d0 := K0.cell (o := 0) rfl
  have d1 := K0.cell (o := 1) rfl
  have d2 := K0.cell (o := 2) rfl
  clear K0
  go_wp2_with fail
  refine (implPeriodic_any awH awH 5 1 awP _ w1 ((Rp.slice Rp.ck).ext' E1 HP.out) (by decide)).mono ?_
  rintro e w2 ⟨v3, rfl, h3, E2⟩
  rw [aw_per] at h3
  have H3 := Lib.hid h3
  obtain ⟨A3, c3, he3, _⟩ := id h3
  simp only [List.cons.injEq, and_true] at he3
  subst he3
  obtain ⟨_, _, _, u1, hv1, hc1, d3, HU1⟩ := row_one ((Rp.slice (Rp.slice Rp.u64)).ext' E2 H1.out)
  obtain ⟨_, _, _, u2, hv2, hc2, d4, HU2⟩ := row_one ((Rp.slice (Rp.slice Rp.i64)).ext' E2 H2.out)
  simp only [Value.slice.injEq, Option.some.injEq, Addr.mk.injEq, and_true, true_and] at hv1 hv2
  obtain ⟨⟨rfl, rfl⟩, rfl⟩ := hv1
  obtain ⟨⟨rfl, rfl⟩, rfl⟩ := hv2
  obtain ⟨Au1, cu1, hu1, _⟩ := id HU1
  obtain ⟨Au2, cu2, hu2, _⟩ := id HU2
  simp only [List.cons.injEq, and_true] at hu1 hu2
  subst hu1 hu2
  have HU1 := Lib.hid HU1
  have HU2 := Lib.hid HU2
  clear h3 d0 d1 d2
  have E02 := E1.trans E2
  go_wp2_with fail
  refine (ckIDs_same [3] _ _ _ ((Rp.slice Rp.u64).ext' ((Ext.refl _).alloc _) HU1.out) (lit_u64 _ _ _)).mono ?_
  rintro e w3 ⟨rfl, E3⟩
  have E23 := ((Ext.refl w2).alloc _).trans E3
  clear E3
  have d4 := E23.cellS d4
  go_wp2_with fail
  refine (ckRevs_same [5] _ _ _ ((Rp.slice Rp.i64).ext' (E23.alloc _) HU2.out) (lit_i64 _ _ _)).mono ?_
  rintro e w4 ⟨rfl, E4⟩
  have E24 := (E23.alloc _).trans E4
  clear E4
  go_wp2_with fail
  refine (ckIDs_same [3] _ _ _ ((Rp.slice Rp.u64).ext' (E24.alloc _) H3.out) (lit_u64 _ _ _)).mono ?_
  rintro e w5 ⟨rfl, E5⟩
  have E25 := (E24.alloc _).trans E5
  clear E5
  have K0 := HK0.out.ext (E02.trans E25)
  have d0 := K0.cell (o := 0) rfl
  have d1 := K0.cell (o := 1) rfl
  have d2 := K0.cell (o := 2) rfl
  clear K0
  go_wp2_with fail
  refine (implInit_any awH awP _ _ ((Rp.slice Rp.ck).ext' (E02.trans E25) HP.out) (by decide)).mono ?_
  rintro e w6 ⟨rfl, E6⟩
  rw [aw_init]
  go_wp2_with fail
  go_ret
  exact ⟨rfl, ((E0.trans E02).trans E25).trans E6⟩
end Go.Proofs.Ythnhgfpkmbgkdaa
