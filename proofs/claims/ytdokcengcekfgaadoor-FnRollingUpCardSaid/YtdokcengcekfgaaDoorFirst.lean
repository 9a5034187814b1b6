/-
  The first cluster (laws.verFirst); slices of a call's own, as blocks.
-/
import Derived.Test.YtdokcengcekfgaaDoorOrder
import Derived.Test.YtdokcengcekfgaaDoorVoted
import Derived.OwnWalk
namespace Go.Proofs.YtdokcengcekfgaaDoor
open Go.RowKit
set_option linter.unusedSimpArgs false
set_option linter.unusedVariables false

/-- a block that holds texts, then other cells -/
theorem OwnP.strs {w : World} {ok : Nat → Prop} {base : Nat} {T : TypeId} {v : Value} {xs : List ByteArray} (h : OwnP Rp.str w ok base T v xs) (hne : xs ≠ []) :
    ∃ ba cap rest, v = .slice (some ⟨ba, 0, none⟩) xs.length cap ∧ base ≤ ba ∧ Blk w ba T (xs.map Value.string ++ rest) ∧ xs.length + rest.length = cap ∧ cap ≤ maxLen ∧ ∀ x ∈ xs, x.size ≤ maxLen := by
  obtain ⟨h0, cells, h1, h2⟩ := h
  have hlen := h1.1
  have hsz : (Rp.str).sz = 1 := rfl
  rw [hsz, Nat.mul_one] at hlen
  have hx : ∀ x ∈ xs, x.size ≤ maxLen := by
    intro x hx
    obtain ⟨i, hi⟩ := List.getElem?_of_mem hx
    exact (h2 i x hi).2
  rcases h1.2 with ⟨_, hn⟩ | ⟨g, cap, cur, rfl, hb, hg, hc, hm, hs, ht⟩
  · exact absurd (List.eq_nil_of_length_eq_zero hn) hne
  refine ⟨g, cap, cur.toList.drop xs.length, rfl, hb, ?_, ?_, hm, hx⟩
  · have hcells : cells = xs.map Value.string := by
      apply List.ext_getElem?
      intro i
      by_cases hi : i < xs.length
      · obtain ⟨x, hx⟩ : ∃ x, xs[i]? = some x := ⟨_, List.getElem?_eq_getElem hi⟩
        have hk := (h2 i x hx).1
        rw [hsz, Nat.mul_one] at hk
        rw [List.getElem?_map, hx]
        have := congrArg (fun l => l[0]?) hk
        simpa [List.getElem?_take, List.getElem?_drop] using this
      · rw [List.getElem?_eq_none (by omega), List.getElem?_eq_none (by simp; omega)]
    have hcur : xs.map Value.string ++ cur.toList.drop xs.length = cur.toList := by
      rw [← hcells, ← ht]
      simp [hsz]
    unfold Blk
    rw [hcur]
    exact hg
  · rw [hsz, Nat.mul_one] at hs
    have hs' : cur.toList.length = cap := by rw [Array.length_toList]; exact hs
    rw [List.length_drop, hs']; omega
/-- the block, read as a slice -/
theorem strs_slice {w : World} {ba cap : Nat} {T : TypeId} {xs : List ByteArray} {rest : List Value} (h : Blk w ba T (xs.map Value.string ++ rest)) (hc : xs.length + rest.length = cap) (hm : cap ≤ maxLen) (hx : ∀ x ∈ xs, x.size ≤ maxLen) :
    (Rp.slice Rp.str).K w any xs [.slice (some ⟨ba, 0, none⟩) xs.length cap] := by
  refine slice_of_blk (d := Rp.str) h trivial (by simp [Rp.str]) (fun i x hi => ?_) (by omega) hm
  have hl : i < xs.length := (List.getElem?_eq_some_iff.1 hi).1
  refine ⟨?_, hx x (List.mem_of_getElem? hi)⟩
  have hsz : (Rp.str).sz = 1 := rfl
  rw [hsz, Nat.mul_one]
  rw [List.drop_append_of_le_length (by simp; omega), List.drop_eq_getElem_cons (by simpa using hl)]
  simp
  exact (List.getElem?_eq_some_iff.1 hi).2
def old (m : Int) : ByteArray := vt ⟨3, m, 0⟩
def firstG (m : Int) (n : Nat) : GD := ⟨old m, old m, ⟨#[]⟩, false, false, List.replicate n (old m)⟩
set_option maxRecDepth 20000 in
set_option maxHeartbeats 2000000 in
theorem verFirst_any (n : Nat) (m : Int) (w : World) (hn1 : 1 ≤ n) (hn : n ≤ 9) (h0 : 0 ≤ m) (h1 : m ≤ 9000) :
    Calls Tryd.prog 18 #[.int .i64 n, .int .i64 m] w fun e w' => ∃ ba cap rest, e = .returned (gdV (firstG m n) (some ⟨ba, 0, none⟩) n cap) ∧ w.heap.size ≤ ba ∧
      Blk w' ba 9 ((List.replicate n (old m)).map Value.string ++ rest) ∧ n + rest.length = cap ∧ cap ≤ maxLen ∧ Ext w w' := by
  have hv : VD.ok ⟨3, m, 0⟩ := ⟨by show (0 : Int) ≤ 3; decide, by show (3 : Int) ≤ 9999; decide, h0, by show m ≤ 9999; omega, by show (0 : Int) ≤ 0; decide, by show (0 : Int) ≤ 9999; decide⟩
  have hlen : (old m).size ≤ 14 := vtl_len hv
  go_enter Tryd.func18, Tryd.ntmps18
  go_wp2_with fail
  obtain ⟨W, hW⟩ : ∃ W, W = w.alloc (.cells #[.string ⟨#[]⟩, .string ⟨#[]⟩, .string ⟨#[]⟩, .bool false, .bool false, .slice none 0 0] 24) := ⟨_, rfl⟩
  have EW : Ext w W := by rw [hW]; exact (Ext.refl w).alloc _
  have KR : Blk W w.heap.size 24 [.string ⟨#[]⟩, .string ⟨#[]⟩, .string ⟨#[]⟩, .bool false, .bool false, .slice none 0 0] := by rw [hW]; exact Blk.new w _ _
  change Calls _ _ _ (w.alloc (.cells #[.string ⟨#[]⟩, .string ⟨#[]⟩, .string ⟨#[]⟩, .bool false, .bool false, .slice none 0 0] 24)) _
  rw [← hW]
  clear hW
  refine (verText_any ⟨3, m, 0⟩ hv W).mono ?_
  rintro e w1 ⟨rfl, E1⟩
  rw [show vt ⟨3, m, 0⟩ = old m from rfl]
  go_wp2_with fail
  obtain ⟨w2, hw2⟩ : ∃ w2, w2 = w1.alloc (.cells #[.string (old m), .string (old m), .string ⟨#[]⟩, .bool false, .bool false, .slice none 0 0] 24) := ⟨_, rfl⟩
  have E2 : Ext w1 w2 := by rw [hw2]; exact (Ext.refl w1).alloc _
  have KV : Blk w2 w1.heap.size 24 (gdCells (firstG m 0) none 0 0) := by rw [hw2]; exact Blk.new w1 _ _
  have hs2 : w2.heap.size = w1.heap.size + 1 := by rw [hw2]; simp
  have KR2 := (KR.ext E1).ext E2
  have E02 := EW.trans (E1.trans E2)
  have hwW : w.heap.size < W.heap.size := KR.lt
  have hb1 : w.heap.size < w1.heap.size := Nat.lt_of_lt_of_le hwW E1.size
  obtain ⟨i0, hi, hz0, hz1, hz2⟩ := info_parts infoStr
  change Code.wp _ _ _ _ (w1.alloc (.cells #[.string (old m), .string (old m), .string ⟨#[]⟩, .bool false, .bool false, .slice none 0 0] 24))
  rw [← hw2]
  clear hw2
  generalize hb6 : w1.heap.size = b6 at *
  have ho0 : OwnP Rp.str w2 (fun j => w2.heap.size ≤ j) w2.heap.size 9 (.slice none 0 0) (List.replicate 0 (old m)) := OwnP.nil _ _ _ _ _
  go_loopw [14] (fun u wr => ∃ (k : Nat) (A : Option Addr) (cap : Nat), u = .int .i64 k ∧ k ≤ n ∧ Hid (Blk wr b6 24 (gdCells (firstG m k) A k cap)) ∧ Hid (OwnP Rp.str wr (fun j => w2.heap.size ≤ j) w2.heap.size 9 (.slice A k cap) (List.replicate k (old m))) ∧ ExtX (fun j => j = b6) w2 wr) (fun u _ => n - (intOf u).toNat)
  case atStart => exact ⟨0, none, 0, rfl, Nat.zero_le _, Lib.hid KV, Lib.hid ho0, ExtX.refl _ _⟩
  case round =>
    obtain ⟨k, A, cap, rfl, hk, hKV, hO, hE⟩ := hrel
    have c5 := hKV.out.cell (o := 5) rfl
    have hs : w2.heap.size ≤ wr.heap.size := hE.size
    by_cases hlt : k < n
    · have hlen2 : (List.replicate k (old m)).length = k := List.length_replicate
      have hbytes : ((List.replicate k (old m)).length + 1) * 16 ≤ 140737488355328 := by rw [hlen2]; omega
      have h63 : (List.replicate k (old m)).length + 1 ≤ maxLen := by rw [hlen2]; unfold maxLen; omega
      go_wp2_with (first
        | (at_builtin; refine wpList_app (d := Rp.str) (base := w2.heap.size) rfl (.tmp 17) (.tmp 19) 22 rfl 9 i0 _ 16 Tryd.underlying22 hi hz0 hz1 hz2 rfl (v := .slice A k cap) rfl (hO.out.ext ((Ext.refl wr).alloc _)) (fun q hq => by simp at hq; omega) ⟨wr.heap.size, 0, none⟩ 1 [_] [old m] rfl rfl (lit_cells wr _ _) (one_elem (p := fun i y => Rp.str.K _ _ y _) ⟨rfl, by unfold maxLen; omega⟩) h63 hbytes (by simp; omega) ?_; intro v2 w3 o3 g3 f3; have O3 := Lib.hid o3; have F3 := Lib.hid f3; have X3 : ExtX (fun q => some q = (Value.slice A k cap).ownBlock) wr w3 := (((Ext.refl wr).alloc _).toX _).grown g3 (fun q h => h.symm); have K3 := hKV.out.extX X3 (fun h => by have := (hO.out.own b6 h.symm).1; omega); obtain ⟨A3, c3, hv3, q1, q2⟩ := o3.shape; subst hv3; clear o3 g3 f3)
        | (refine wpList_store rfl rfl (.tmp 21) (.tmp 20) 22 rfl rfl rfl rfl K3 rfl (Nat.le_of_ble_eq_true rfl) rfl ?_; intro w4 K4 x4))
      have hrep : List.replicate k (old m) ++ [old m] = List.replicate (k + 1) (old m) := List.replicate_succ'.symm
      have hl1 : (List.replicate k (old m) ++ [old m]).length = k + 1 := by rw [hrep]; exact List.length_replicate
      rw [hl1] at q1
      have O4 := Lib.hid (O3.out.extX x4 (fun q h1 h2 h3 => by have h3 : q = b6 := h3; omega))
      rw [hrep, List.length_replicate] at O4
      have K4' : Blk w4 b6 24 (gdCells (firstG m (k + 1)) A3 (k + 1) c3) := K4
      have hE4 : ExtX (fun j => j = b6) w2 w4 := (hE.trans' X3 (fun q h1 h2 => absurd (hO.out.own q h2.symm).1 (by omega))).trans x4
      go_roundw
      case rel => exact ⟨k + 1, A3, c3, by go_num, by omega, Lib.hid K4', O4, hE4⟩
      case measure => simp [intOf]; omega
    · obtain rfl : k = n := by omega
      obtain ⟨ba, c, rest, hv, p1, p2, p3, p4, p5⟩ := hO.out.strs (by intro h; have := congrArg List.length h; simp at this; omega)
      obtain ⟨s0, s1, s2, s3, s4, s5⟩ := gd_load hKV.out
      rw [List.length_replicate] at hv p3
      obtain ⟨rfl, -, rfl⟩ := (Value.slice.injEq _ _ _ _ _ _).mp hv
      have KRr := KR2.extX hE (by omega)
      go_wp2_with (refine wpList_store rfl rfl (.tmp 4) (.tmp 23) 24 rfl rfl rfl rfl KRr rfl (Nat.le_of_ble_eq_true rfl) rfl ?_; intro w5 K5 x5)
      refine bodyPost_ret (results_cell_row rfl _ _ w.heap.size _ _ (0, 0) _ rfl K5 Tryd.underlying24 rfl rfl) rfl ?_
      have hx2 : ExtX (fun j => j = b6 ∨ j = w.heap.size) w2 w5 := (hE.mono (fun _ _ h => .inl h)).trans (x5.mono (fun _ _ h => .inr h))
      refine ⟨ba, cap, rest, rfl, by omega, p2.extX x5 (by omega), p3, p4, ?_⟩
      exact ((E02.toX (fun j => j = b6 ∨ j = w.heap.size)).trans hx2).toExt (fun q hq => by omega)
end Go.Proofs.YtdokcengcekfgaaDoor
