/-
  The specification's least version, its cancelling of a downgrade (spec.VerLeast, spec.DownCancel, spec.ValidChange).
-/
import Derived.Test.YtdokcengcekfgaaGreatDoorVoted
import Derived.Test.YtdokcengcekfgaaGreatDoorCancel
namespace Go.Proofs.YtdokcengcekfgaaGreatDoor
open Go.RowKit Go.Maps
set_option linter.unusedSimpArgs false
set_option linter.unusedVariables false

set_option maxRecDepth 20000 in
theorem specDownCancel_any (g : GD) (A : Option Addr) (n cap : Nat) (w : World) :
    Calls Tryz.prog 20 #[gdV g A n cap] w fun e w' => e = .returned (voteV (downCancelD g)) ∧ Ext w w' := by
  obtain ⟨gc, gs, gt, gd, gh, gm⟩ := g
  cases gd with
  | true =>
    go_enter Tryz.func20, Tryz.ntmps20
    go_wp2
    refine bodyPost_ret (v := voteV { vote0 with cancelled := true }) (by simp [results, Tryz.results20, go_sem, vote0]) rfl ⟨rfl, ?_⟩
    exact ((Ext.refl w).alloc _).alloc _
  | false =>
    go_enter Tryz.func20, Tryz.ntmps20
    go_wp2
    refine bodyPost_ret (v := voteV { vote0 with err := 3 }) (by simp [results, Tryz.results20, go_sem, vote0]) rfl ⟨rfl, ?_⟩
    exact ((Ext.refl w).alloc _).alloc _
theorem Least.step {ms : List ByteArray} {k : Nat} {m : ByteArray} {v lv : VD} (hm : ms[k]? = some m) (hv : verOfD m = some v) (h : Least ((ms.take k).map verOfD) (some lv)) : Least ((ms.take (k + 1)).map verOfD) (some (if less v lv then v else lv)) := by
  have hmem : ∀ x, x ∈ (ms.take (k + 1)).map verOfD ↔ x ∈ (ms.take k).map verOfD ∨ x = some v := by
    intro x
    rw [List.take_add_one, hm]
    simp [hv]
  obtain ⟨h1, h2, h3⟩ := h
  refine ⟨fun hn => ?_, ?_, fun u hu => ?_⟩
  · rcases (hmem _).1 hn with h | h
    · exact h1 h
    · cases h
  · rw [hmem]
    split
    · exact .inr rfl
    · exact .inl h2
  · cases hl : less v lv with
    | true =>
      rw [if_pos rfl]
      rcases (hmem _).1 hu with h | h
      · have := h3 u h
        rw [less_iff] at hl
        rw [less_no] at *
        omega
      · obtain rfl := Option.some.inj h
        rw [less_no]; omega
    | false =>
      rw [if_neg (by decide)]
      rcases (hmem _).1 hu with h | h
      · exact h3 u h
      · obtain rfl := Option.some.inj h
        exact hl
theorem Least.one {ms : List ByteArray} {m : ByteArray} {v : VD} (hm : ms[0]? = some m) (hv : verOfD m = some v) : Least ((ms.take 1).map verOfD) (some v) := by
  have h0 : (ms.take 1).map verOfD = [some v] := by
    cases ms with
    | nil => simp at hm
    | cons a r => simp at hm; subst hm; simp [hv]
  rw [h0]
  exact ⟨by simp, by simp, fun u hu => by simp at hu; subst hu; rw [less_no]; omega⟩
def LeastAns (ms : List ByteArray) (w : World) (e : Ending) (w' : World) : Prop := ∃ l, Least (ms.map verOfD) l ∧ e = .returned (.tuple #[verV (l.getD zeroV), .bool l.isSome]) ∧ Ext w w'
def SoFar (ms : List ByteArray) (k : Nat) (lv : VD) : Prop := (k = 0 ∧ lv = zeroV) ∨ (0 < k ∧ Least ((ms.take k).map verOfD) (some lv))
set_option maxRecDepth 20000 in
set_option maxHeartbeats 4000000 in
theorem specLeast_any (ms : List ByteArray) (v : Value) (w : World) (h : (Rp.slice Rp.str).K w any ms [v]) (hs : ∀ m ∈ ms, m.size ≤ 20) (hl : ms.length ≤ 12) :
    Calls Tryz.prog 32 #[v] w (LeastAns ms w) := by
  obtain ⟨A, cap, hv, p1, p2, p3, hrow⟩ := h
  simp only [List.cons.injEq, and_true] at hv
  subst hv
  have HR := Lib.hid hrow
  have HS := Lib.hid hs
  clear hrow hs
  go_enter Tryz.func32, Tryz.ntmps32
  go_wp2_with fail
  obtain ⟨W, hW⟩ : ∃ W, W = (w.alloc (.cells (verCells zeroV).toArray 29)).alloc (.cells (verCells zeroV).toArray 29) := ⟨_, rfl⟩
  have EW : Ext w W := by rw [hW]; exact ((Ext.refl w).alloc _).alloc _
  have KR : Blk W w.heap.size 29 (verCells zeroV) := by rw [hW]; exact (Blk.new w _ _).ext ((Ext.refl _).alloc _)
  have KL : Blk W (w.heap.size + 1) 29 (verCells zeroV) := by
    rw [hW]
    have := Blk.new (w.alloc (.cells (verCells zeroV).toArray 29)) 29 (verCells zeroV)
    rwa [World.size_alloc] at this
  change Code.wp _ _ _ _ ((w.alloc (.cells (verCells zeroV).toArray 29)).alloc (.cells (verCells zeroV).toArray 29))
  rw [← hW]
  clear hW
  go_loopw [5] (fun u wr => ∃ (k : Nat) (lv : VD), u = .int .i64 k ∧ k ≤ ms.length ∧ Hid (SoFar ms k lv) ∧ Hid (Blk wr (w.heap.size + 1) 29 (verCells lv)) ∧ Hid (Blk wr w.heap.size 29 (verCells zeroV)) ∧ Ext w wr) (fun u _ => ms.length - (intOf u).toNat)
  case atStart => exact ⟨0, zeroV, rfl, Nat.zero_le _, Lib.hid (.inl ⟨rfl, rfl⟩), Lib.hid KL, Lib.hid KR, EW⟩
  case round =>
    obtain ⟨k, lv, rfl, hk, hF, hKL, hKR, hE⟩ := hrel
    by_cases hlt : k < ms.length
    · obtain ⟨m, hm⟩ : ∃ m, ms[k]? = some m := ⟨_, List.getElem?_eq_getElem hlt⟩
      obtain ⟨ba, o, rfl, _⟩ := HR.out.addr (List.ne_nil_of_length_pos (by omega))
      have c1 := str_at HR.out rfl hm hE
      have HM := Lib.hid hm
      have h20 := HS.out m (List.mem_of_getElem? hm)
      clear hm
      go_wp2_with fail
      refine (verOf_any m wr (by omega)).mono ?_
      rintro e w1 ⟨rfl, E1⟩
      have KL1 := hKL.out.ext E1
      have KR1 := hKR.out.ext E1
      have hsz : w.heap.size + 1 < w1.heap.size := KL1.lt
      cases hv : verOfD m with
      | none =>
        replace hv := Lib.hid hv
        have KR2 : Blk (w1.alloc (.cells (verCells zeroV).toArray 29)) w.heap.size 29 (verCells zeroV) := KR1.ext ((Ext.refl _).alloc _)
        go_wp2_with (refine wpList_store rfl rfl (.tmp 2) (.tmp 24) 29 rfl rfl rfl rfl KR2 rfl (Nat.le_of_ble_eq_true rfl) rfl ?_; intro w9 K9 x9)
        have K9' : Blk w9 w.heap.size 29 (verCells zeroV) := K9
        have r0 := K9'.cell (o := 0) rfl
        have r1 := K9'.cell (o := 1) rfl
        have r2 := K9'.cell (o := 2) rfl
        refine bodyPost_ret (v := .tuple #[verV zeroV, .bool false]) (by simp [results, Tryz.results32, go_sem, r0, r1, r2, hE]) rfl ?_
        have E9 : Ext w w9 := (((((hE.trans E1).alloc _)).toX (fun k => k = w.heap.size)).trans x9).toExt (fun q hq => Nat.le_of_eq (show q = w.heap.size from hq).symm)
        refine ⟨none, .inr ?_, rfl, E9⟩
        rw [← hv.out]
        exact List.mem_map_of_mem (List.mem_of_getElem? HM.out)
      | some v =>
        have HV := Lib.hid hv
        clear hv
        by_cases h0 : k = 0
        · subst h0
          have KL2' : Blk (w1.alloc (.cells (verCells v).toArray 29)) (w.heap.size + 1) 29 (verCells lv) := KL1.ext ((Ext.refl _).alloc _)
          go_wp2_with (refine wpList_store rfl rfl (.tmp 4) (.tmp 32) 29 rfl rfl rfl rfl KL2' rfl (Nat.le_of_ble_eq_true rfl) rfl ?_; intro w9 K9 x9)
          have K9' : Blk w9 (w.heap.size + 1) 29 (verCells v) := K9
          have KR9 := (KR1.ext ((Ext.refl w1).alloc (.cells (verCells v).toArray 29))).extX x9 (by omega)
          have E9 : Ext w w9 := ((((hE.trans E1).alloc _).toX (fun q => q = w.heap.size + 1)).trans x9).toExt (fun q hq => by have hq : q = w.heap.size + 1 := hq; omega)
          go_roundw
          case rel => exact ⟨1, v, by go_num, by omega, Lib.hid (.inr ⟨by decide, Least.one HM.out HV.out⟩), Lib.hid K9', Lib.hid KR9, E9⟩
          case measure => simp [intOf]; omega
        · have hF' : Hid (Least ((ms.take k).map verOfD) (some lv)) := Lib.hid (by
            rcases hF.out with ⟨h, _⟩ | ⟨_, h⟩
            · exact absurd h h0
            · exact h)
          have hk0 : ((k : Int) == 0) = false := by simp; omega
          have l0 := (KL1.ext ((Ext.refl w1).alloc (.cells (verCells v).toArray 29))).cell (o := 0) rfl
          have l1 := (KL1.ext ((Ext.refl w1).alloc (.cells (verCells v).toArray 29))).cell (o := 1) rfl
          have l2 := (KL1.ext ((Ext.refl w1).alloc (.cells (verCells v).toArray 29))).cell (o := 2) rfl
          go_wp2_with fail
          obtain ⟨w2, hw2⟩ : ∃ w2, w2 = w1.alloc (.cells (verCells v).toArray 29) := ⟨_, rfl⟩
          have E2 : Ext w1 w2 := by rw [hw2]; exact (Ext.refl _).alloc _
          have KX : Blk w2 w1.heap.size 29 (verCells v) := by rw [hw2]; exact Blk.new w1 _ _
          have KL2 := KL1.ext E2
          have KR2 := KR1.ext E2
          have E02 := (hE.trans E1).trans E2
          change Calls _ _ _ (w1.alloc (.cells (verCells v).toArray 29)) _
          rw [← hw2]
          clear hw2 l0 l1 l2
          refine (specLess_any v.maj v.mnr v.pat lv.maj lv.mnr lv.pat w2).mono ?_
          rintro e w3 ⟨rfl, E3⟩
          have E03 := E02.trans E3
          have KL3 := KL2.ext E3
          have KR3 := KR2.ext E3
          obtain ⟨x0, x1, x2⟩ := V3.of (KX.ext E3)
          simp only [Nat.zero_add] at x1 x2
          have hst := Least.step HM.out HV.out hF'.out
          cases hls : less v lv with
          | true =>
            rw [hls, if_pos rfl] at hst
            have HST := Lib.hid hst
            rw [show vless v.maj v.mnr v.pat lv.maj lv.mnr lv.pat = true from hls]
            clear hst hls
            go_wp2_with (refine wpList_store rfl rfl (.tmp 4) (.tmp 32) 29 rfl rfl rfl rfl KL3 rfl (Nat.le_of_ble_eq_true rfl) rfl ?_; intro w9 K9 x9)
            have K9' : Blk w9 (w.heap.size + 1) 29 (verCells v) := K9
            have KR9 := KR3.extX x9 (by omega)
            have E9 : Ext w w9 := ((E03.toX (fun q => q = w.heap.size + 1)).trans x9).toExt (fun q hq => by have hq : q = w.heap.size + 1 := hq; omega)
            go_roundw
            case rel => exact ⟨k + 1, v, by go_num, by omega, Lib.hid (.inr ⟨Nat.succ_pos _, HST.out⟩), Lib.hid K9', Lib.hid KR9, E9⟩
            case measure => simp [intOf]; omega
          | false =>
            rw [hls, if_neg (by decide)] at hst
            have HST := Lib.hid hst
            rw [show vless v.maj v.mnr v.pat lv.maj lv.mnr lv.pat = false from hls]
            clear hst hls
            go_wp2
            go_roundw
            case rel => exact ⟨k + 1, lv, by go_num, by omega, Lib.hid (.inr ⟨Nat.succ_pos _, HST.out⟩), Lib.hid KL3, Lib.hid KR3, E03⟩
            case measure => simp [intOf]; omega
    · have hkn : k = ms.length := by omega
      subst hkn
      have hl0 := hKL.out.cell (o := 0) rfl
      have hl1 := hKL.out.cell (o := 1) rfl
      have hl2 := hKL.out.cell (o := 2) rfl
      have hKR := hKR.out
      by_cases h0 : ms.length = 0
      · have d0 : decide ((0 : Int) < (ms.length : Int)) = false := decide_eq_false (by omega)
        obtain rfl : lv = zeroV := by
          rcases hF.out with ⟨_, h⟩ | ⟨h, _⟩
          · exact h
          · omega
        obtain rfl : ms = [] := List.eq_nil_of_length_eq_zero h0
        go_wp2_with (refine wpList_store rfl rfl (.tmp 2) (.tmp 33) 29 rfl rfl rfl rfl hKR rfl (Nat.le_of_ble_eq_true rfl) rfl ?_; intro w9 K9 x9)
        have K9' : Blk w9 w.heap.size 29 (verCells zeroV) := K9
        have r0 := K9'.cell (o := 0) rfl
        have r1 := K9'.cell (o := 1) rfl
        have r2 := K9'.cell (o := 2) rfl
        refine bodyPost_ret (v := .tuple #[verV zeroV, .bool false]) (by simp [results, Tryz.results32, go_sem, r0, r1, r2, hE]) rfl ?_
        have E9 : Ext w w9 := (((hE).toX (fun k => k = w.heap.size)).trans x9).toExt (fun q hq => Nat.le_of_eq (show q = w.heap.size from hq).symm)
        exact ⟨none, .inl rfl, rfl, E9⟩
      · have d0 : decide ((0 : Int) < (ms.length : Int)) = true := decide_eq_true (by omega)
        have hF' : Hid (Least (ms.map verOfD) (some lv)) := Lib.hid (by
          rcases hF.out with ⟨h, _⟩ | ⟨_, h⟩
          · exact absurd h h0
          · rw [List.take_length] at h; exact h)
        go_wp2_with (refine wpList_store rfl rfl (.tmp 2) (.tmp 33) 29 rfl rfl rfl rfl hKR rfl (Nat.le_of_ble_eq_true rfl) rfl ?_; intro w9 K9 x9)
        have K9' : Blk w9 w.heap.size 29 (verCells lv) := K9
        have r0 := K9'.cell (o := 0) rfl
        have r1 := K9'.cell (o := 1) rfl
        have r2 := K9'.cell (o := 2) rfl
        refine bodyPost_ret (v := .tuple #[verV lv, .bool true]) (by simp [results, Tryz.results32, go_sem, r0, r1, r2, Nat.pos_of_ne_zero h0]) rfl ?_
        have E9 : Ext w w9 := (((hE).toX (fun k => k = w.heap.size)).trans x9).toExt (fun q hq => Nat.le_of_eq (show q = w.heap.size from hq).symm)
        exact ⟨some lv, hF'.out, rfl, E9⟩
end Go.Proofs.YtdokcengcekfgaaGreatDoor
