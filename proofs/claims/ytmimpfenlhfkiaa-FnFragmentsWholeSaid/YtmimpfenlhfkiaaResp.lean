/-
  A response as it stands in memory, and how many bytes it has when it is written.
-/
import Derived.Test.YtmimpfenlhfkiaaPut
namespace Go.Proofs.Ytmimpfenlhfkiaa
open Go.RowKit
set_option linter.unusedSimpArgs false
set_option linter.unusedVariables false

theorem KvAt.heap {w w' : World} {ok : Nat → Prop} {x : KVd} {b : Nat} (e : ∀ b, ok b → w'.heap[b]? = w.heap[b]?) (h : KvAt w ok x b) : KvAt w' ok x b := by
  obtain ⟨h0, Ak, ck, Av, cv, K, h1, h2⟩ := h
  exact ⟨h0, Ak, ck, Av, cv, (e b h0).trans K, (Rp.slice Rp.u8).ext e h1, (Rp.slice Rp.u8).ext e h2⟩
theorem KvAt.mono {w : World} {ok ok' : Nat → Prop} {x : KVd} {b : Nat} (e : ∀ b, ok b → ok' b) (h : KvAt w ok x b) : KvAt w ok' x b := h.ext (Ext.refl w) e
theorem KvAt.lt {w : World} {ok : Nat → Prop} {x : KVd} {b : Nat} (h : KvAt w ok x b) : KvAt w (fun b => ok b ∧ b < w.heap.size) x b := by
  obtain ⟨h0, Ak, ck, Av, cv, K, h1, h2⟩ := h
  exact ⟨⟨h0, K.lt⟩, Ak, ck, Av, cv, K, (Rp.slice Rp.u8).lt h1, (Rp.slice Rp.u8).lt h2⟩
theorem EvAt.heap {w w' : World} {ok : Nat → Prop} {x : EvD} {b : Nat} (e : ∀ b, ok b → w'.heap[b]? = w.heap[b]?) (h : EvAt w ok x b) : EvAt w' ok x b := by
  obtain ⟨h0, bk, pv, K, h1, h2⟩ := h
  refine ⟨h0, bk, pv, (e b h0).trans K, h1.heap e, ?_⟩
  split at h2
  · obtain ⟨bp, rfl, h3⟩ := h2; rw [if_pos (by assumption)]; exact ⟨bp, rfl, h3.heap e⟩
  · rw [if_neg (by assumption)]; exact h2
theorem EvAt.mono {w : World} {ok ok' : Nat → Prop} {x : EvD} {b : Nat} (e : ∀ b, ok b → ok' b) (h : EvAt w ok x b) : EvAt w ok' x b := by
  obtain ⟨h0, bk, pv, K, h1, h2⟩ := h
  refine ⟨e b h0, bk, pv, K, h1.mono e, ?_⟩
  split at h2
  · obtain ⟨bp, rfl, h3⟩ := h2; rw [if_pos (by assumption)]; exact ⟨bp, rfl, h3.mono e⟩
  · rw [if_neg (by assumption)]; exact h2
theorem EvAt.lt {w : World} {ok : Nat → Prop} {x : EvD} {b : Nat} (h : EvAt w ok x b) : EvAt w (fun b => ok b ∧ b < w.heap.size) x b := by
  obtain ⟨h0, bk, pv, K, h1, h2⟩ := h
  refine ⟨⟨h0, K.lt⟩, bk, pv, K, h1.lt, ?_⟩
  split at h2
  · obtain ⟨bp, rfl, h3⟩ := h2; rw [if_pos (by assumption)]; exact ⟨bp, rfl, h3.lt⟩
  · rw [if_neg (by assumption)]; exact h2
theorem EvAt.ext {w w' : World} {ok : Nat → Prop} {x : EvD} {b : Nat} (h : EvAt w ok x b) (e : Ext w w') : EvAt w' ok x b :=
  EvAt.mono (fun _ h => h.1) (EvAt.heap (fun b hb => e.2.2.2.2 b hb.2) h.lt)
/-- a pointer to an event -/
def Rp.evp : Rp EvD where
  K w ok x cs := ∃ b, cs = [.pointer (some ⟨b, 0, none⟩)] ∧ EvAt w ok x b
  sz := 1
  pos := by decide
  len := by rintro w ok x cs ⟨b, rfl, _⟩; rfl
  ext := by rintro w w' ok x cs e ⟨b, rfl, h⟩; exact ⟨b, rfl, h.heap e⟩
  mono := by rintro w ok ok' x cs e ⟨b, rfl, h⟩; exact ⟨b, rfl, h.mono e⟩
  lt := by rintro w ok x cs ⟨b, rfl, h⟩; exact ⟨b, rfl, h.lt⟩
  one := by rintro w ok x cs ⟨b, rfl, h⟩ u hu; rw [List.mem_singleton.1 hu]; rfl

structure RespD where
  rev : Int
  id : Int
  created : Bool
  canceled : Bool
  compact : Int
  reason : ByteArray
  fragment : Bool
  events : List EvD
def b2i (b : Bool) : Int := if b then 1 else 0
def evsSize (l : List EvD) : Nat := (l.map fun x => blen x.size).sum
def RespD.bare (x : RespD) : Nat := blen (ilen x.rev) + ilen x.id + ilen (b2i x.created) + ilen (b2i x.canceled) + ilen x.compact + (if x.reason.size = 0 then 0 else blen x.reason.size) + ilen (b2i x.fragment)
def RespD.size (x : RespD) : Nat := x.bare + evsSize x.events
theorem EvD.size_le (x : EvD) (h : x.ok) : x.size ≤ 4001000 := by
  obtain ⟨h1, h2, h3, h4⟩ := h
  have z1 := KVl.size_le x.kv.l h1 h2
  have z2 := KVl.size_le x.prev.l h3 h4
  have z3 := blen_le x.kv.l.size (by omega)
  have z4 := blen_le x.prev.l.size (by omega)
  have z5 := ilen_le (if x.gone then 1 else 0)
  have z6 : (if x.hasPrev then blen x.prev.l.size else 0) ≤ 2000112 := by split <;> omega
  unfold EvD.size
  omega
theorem evsSize_le (l : List EvD) (h : ∀ x ∈ l, x.ok) : evsSize l ≤ 4002000 * l.length := by
  induction l with
  | nil => simp [evsSize]
  | cons x l ih =>
    have := ih (fun y hy => h y (by simp [hy]))
    have hx := EvD.size_le x (h x (by simp))
    have := blen_le x.size (by omega)
    simp only [evsSize, List.map_cons, List.sum_cons, List.length_cons] at *
    omega
theorem evsSize_snoc (l : List EvD) (k : Nat) (h : k < l.length) : evsSize (l.take (k + 1)) = evsSize (l.take k) + blen l[k].size := by
  unfold evsSize
  rw [List.take_succ_eq_append_getElem h, List.map_append, List.sum_append]; simp
/-- the response x stands at block b: its header at bh, its events' row is the slice s -/
def RespAt (w : World) (ok : Nat → Prop) (x : RespD) (b : Nat) : Prop :=
  ok b ∧ ∃ bh A cap, Blk w b 59 [.pointer (some ⟨bh, 0, none⟩), .int .i64 x.id, .bool x.created, .bool x.canceled, .int .i64 x.compact, .string x.reason, .bool x.fragment, .slice A x.events.length cap] ∧
    ok bh ∧ Blk w bh 56 [.int .u64 0, .int .u64 0, .int .i64 x.rev, .int .u64 0] ∧ x.reason.size ≤ maxLen ∧ (Rp.slice Rp.evp).K w ok x.events [.slice A x.events.length cap]
theorem flag_any (c : Bool) (w : World) : Calls Try.prog 47 #[.bool c] w fun e w' => e = .returned (.int .i64 (b2i c)) ∧ w = w' := by
  cases c <;>
  · go_enter Try.func47, Try.ntmps47
    go_wp2
    go_ret
    exact ⟨rfl, rfl⟩


set_option maxHeartbeats 1000000 in
set_option maxRecDepth 20000 in
theorem respPut_a (b : Nat) (x : RespD) (w : World) (h : RespAt w any x b) (ho : ∀ y : EvD, y ∈ x.events → y.ok) (hr : x.reason.size ≤ 1000000) (hn : x.events.length ≤ 1000) :
    Calls Try.prog 43 #[.pointer (some ⟨b, 0, none⟩)] w (Wrote w x.size) := by
  obtain ⟨_, bh, A, cap, K, _, KH, hm, hs⟩ := h
  have z0 := ilen_le x.rev; have z1 := ilen_le x.id; have z2 := ilen_le (b2i x.created); have z3 := ilen_le (b2i x.canceled); have z4 := ilen_le x.compact
  have z5 := ilen_le (b2i x.fragment); have z6 := blen_le x.reason.size (by omega); have z7 := blen_le (ilen x.rev) (by omega)
  have c0_ := K.cell (o := 0) rfl
  have c1_ := K.cell (o := 1) rfl
  have c2_ := K.cell (o := 2) rfl
  have c3_ := K.cell (o := 3) rfl
  have c4_ := K.cell (o := 4) rfl
  have c5_ := K.cell (o := 5) rfl
  have c6_ := K.cell (o := 6) rfl
  have c7_ := K.cell (o := 7) rfl
  have c0 := c0_
  have hnil := Lib.hid (bytes_nil w w.heap.size)
  have HS := Lib.hid hs
  have HO := Lib.hid ho
  clear hs ho
  go_enter Try.func43, Try.ntmps43
  go_wp2_with fail
  refine (headPut bh x.rev w KH).mono ?_
  rintro e w1 ⟨v1, rfl, q1, E1⟩
  obtain ⟨A1, n1, rfl⟩ := q1.shape
  have S1 := Lib.hid (src_new (w1 := w) (bytes_nil w w.heap.size) q1)
  have h0 := Lib.hid (bytes_nil w1 w.heap.size)
  clear q1
  have c0 := E1.cellS c0_
  have c1 := E1.cellS c1_
  have c2 := E1.cellS c2_
  have c3 := E1.cellS c3_
  have c4 := E1.cellS c4_
  have c5 := E1.cellS c5_
  have c6 := E1.cellS c6_
  have c7 := E1.cellS c7_
  go_wp2_with fail
  refine (putBytesC w (.slice none 0 0) _ 1 _ _ _ rfl _ (by decide) (by omega) (by omega) w1 h0.out E1 S1.out).mono ?_
  rintro e w2 ⟨v2, rfl, h2, E2⟩
  replace h2 := Lib.hid h2
  have c0 := E2.cellS c0_
  have c1 := E2.cellS c1_
  have c2 := E2.cellS c2_
  have c3 := E2.cellS c3_
  have c4 := E2.cellS c4_
  have c5 := E2.cellS c5_
  have c6 := E2.cellS c6_
  have c7 := E2.cellS c7_
  go_wp2_with (go_at_call 47; refine (flag_any _ _).mono ?_; rintro e w' ⟨rfl, rfl⟩)
  refine (putIntC w v2 _ 2 _ _ rfl (by decide) (by omega) w2 h2.out E2).mono ?_
  rintro e w3 ⟨v3, rfl, h3, E3⟩
  replace h3 := Lib.hid h3
  have c0 := E3.cellS c0_
  have c1 := E3.cellS c1_
  have c2 := E3.cellS c2_
  have c3 := E3.cellS c3_
  have c4 := E3.cellS c4_
  have c5 := E3.cellS c5_
  have c6 := E3.cellS c6_
  have c7 := E3.cellS c7_
  go_wp2_with (go_at_call 47; refine (flag_any _ _).mono ?_; rintro e w' ⟨rfl, rfl⟩)
  refine (putIntC w v3 _ 3 _ _ rfl (by decide) (by omega) w3 h3.out E3).mono ?_
  rintro e w4 ⟨v4, rfl, h4, E4⟩
  replace h4 := Lib.hid h4
  have c0 := E4.cellS c0_
  have c1 := E4.cellS c1_
  have c2 := E4.cellS c2_
  have c3 := E4.cellS c3_
  have c4 := E4.cellS c4_
  have c5 := E4.cellS c5_
  have c6 := E4.cellS c6_
  have c7 := E4.cellS c7_
  go_wp2_with (go_at_call 47; refine (flag_any _ _).mono ?_; rintro e w' ⟨rfl, rfl⟩)
  refine (putIntC w v4 _ 4 _ _ rfl (by decide) (by omega) w4 h4.out E4).mono ?_
  rintro e w5 ⟨v5, rfl, h5, E5⟩
  replace h5 := Lib.hid h5
  have c0 := E5.cellS c0_
  have c1 := E5.cellS c1_
  have c2 := E5.cellS c2_
  have c3 := E5.cellS c3_
  have c4 := E5.cellS c4_
  have c5 := E5.cellS c5_
  have c6 := E5.cellS c6_
  have c7 := E5.cellS c7_
  go_wp2_with (go_at_call 47; refine (flag_any _ _).mono ?_; rintro e w' ⟨rfl, rfl⟩)
  refine (putIntC w v5 _ 5 _ _ rfl (by decide) (by omega) w5 h5.out E5).mono ?_
  rintro e w6 ⟨v6, rfl, h6, E6⟩
  replace h6 := Lib.hid h6
  have c0 := E6.cellS c0_
  have c1 := E6.cellS c1_
  have c2 := E6.cellS c2_
  have c3 := E6.cellS c3_
  have c4 := E6.cellS c4_
  have c5 := E6.cellS c5_
  have c6 := E6.cellS c6_
  have c7 := E6.cellS c7_
  by_cases hr2 : x.reason.toList = []
  · have hr3 : x.reason.toList.isEmpty = true := by rw [hr2]; rfl
    have HC : Hid ((if x.reason.size = 0 then 0 else blen x.reason.size) = 0) := Lib.hid (if_pos (by rw [ByteArray.toList_eq] at hr2; rw [← ByteArray.size_data, ← Array.length_toList]; exact congrArg List.length hr2))
    go_wp2_with (go_at_call 47; refine (flag_any _ _).mono ?_; rintro e w' ⟨rfl, rfl⟩)
    refine (putIntC w v6 _ 7 _ _ rfl (by decide) (by omega) w6 h6.out E6).mono ?_
    rintro e w7 ⟨v7, rfl, h7, E7⟩
    replace h7 := Lib.hid h7
    have c0 := E7.cellS c0_
    have c1 := E7.cellS c1_
    have c2 := E7.cellS c2_
    have c3 := E7.cellS c3_
    have c4 := E7.cellS c4_
    have c5 := E7.cellS c5_
    have c6 := E7.cellS c6_
    have c7 := E7.cellS c7_
    go_wp2_with fail
    obtain ⟨N, HN⟩ : ∃ N, Hid (N = _) := ⟨_, Lib.hid (Eq.refl (0+blen (ilen x.rev)+ilen x.id+ilen (b2i x.created)+ilen (b2i x.canceled)+ilen x.compact+ilen (b2i x.fragment)))⟩
    go_loopw [3, 4] (fun b' i wr => ∃ k : Nat, i = .int .i64 k ∧ k ≤ x.events.length ∧ Hid (Bytes wr w.heap.size b' (N + evsSize (x.events.take k))) ∧ Ext w wr) (fun _ i _ => x.events.length - (intOf i).toNat)
    case atStart => exact ⟨0, rfl, Nat.zero_le _, Lib.hid (by rw [HN.out]; exact h7.out), E7⟩
    case round =>
      obtain ⟨k, rfl, hk, hb, he⟩ := hrel
      have c7 := he.cellS c7_
      by_cases hlt : k < x.events.length
      · obtain ⟨A', cap', hv, p1, p2, p3, hrow⟩ := HS.out
        simp only [List.cons.injEq, Value.slice.injEq, and_true] at hv
        obtain ⟨rfl, _, rfl⟩ := hv
        obtain ⟨ba, o, rfl, _⟩ := hrow.addr (List.ne_nil_of_length_pos (by omega))
        obtain ⟨cs, _, ⟨be, rfl, hev⟩, hc⟩ := hrow.at rfl (List.getElem?_eq_getElem hlt)
        have cE := he.cellS (hc 0 (by decide))
        have cE : wr.cell? ⟨ba, o + k, none⟩ = some (.pointer (some ⟨be, 0, none⟩)) := by simpa [Rp.evp] using cE
        have HE := Lib.hid hev
        clear hc hrow hev
        go_wp2_with fail
        refine (evPut be _ wr (HO.out _ (List.getElem_mem hlt)) (HE.out.ext he)).mono ?_
        rintro e w8 ⟨v8, rfl, q8, E8⟩
        obtain ⟨A8, n8, rfl⟩ := q8.shape
        have S8 := Lib.hid (src_new hb.out q8)
        have hb' := Lib.hid (OwnP.ext hb.out E8)
        replace E8 := he.trans E8
        have hsz := EvD.size_le _ (HO.out _ (List.getElem_mem hlt))
        have hes := evsSize_le (x.events.take k) (fun y hy => HO.out y (List.mem_of_mem_take hy))
        have htl : (x.events.take k).length ≤ 1000 := by rw [List.length_take]; omega
        clear q8
        go_wp2_with fail
        refine (putBytesC w _ _ 11 _ _ _ rfl _ (by decide) (by have := HN.out; omega) (by omega) w8 hb'.out E8 S8.out).mono ?_
        rintro e w9 ⟨v9, rfl, h9, E9⟩
        go_wp2
        go_roundw
        case rel => exact ⟨k + 1, by go_num, by omega, Lib.hid (by rw [evsSize_snoc _ _ hlt, ← Nat.add_assoc]; exact h9), E9⟩
        case measure => simp [intOf]; omega
      · have hkn : Hid (k = x.events.length) := Lib.hid (by omega)
        go_wp2
        go_ret
        refine ⟨_, rfl, ?_, he⟩
        have := hb.out
        rw [hkn.out, List.take_length] at this
        rw [show x.size = _ from ?_]
        · exact this
        · rw [HN.out, RespD.size, RespD.bare, HC.out]
          omega
  · have hr1 : x.reason.size ≠ 0 := by
      intro h0; apply hr2; rw [ByteArray.toList_eq]; apply List.eq_nil_of_length_eq_zero; rw [Array.length_toList]; exact h0
    have HC : Hid ((if x.reason.size = 0 then 0 else blen x.reason.size) = blen x.reason.size) := Lib.hid (if_neg hr1)
    have hr4 : x.reason.toList.isEmpty = false := by cases h : x.reason.toList with | nil => exact absurd h hr2 | cons _ _ => rfl
    clear hr1 hr2
    obtain ⟨cr, wr, rr, er, sr, kr⟩ := text_bytes (P := Try.prog) w6 9 51 5 x.reason hm Try.underlying9 Try.underlying51 Try.underlying5
    have pk := slice_count kr
    rw [show x.reason.data.toList.length = x.reason.size by rw [Array.length_toList]; rfl] at pk
    have S7 : Hid ((Rp.slice Rp.byte).K wr (fun j => some j ≠ v6.ownBlock) (List.replicate x.reason.size ()) [.slice (some ⟨w6.heap.size, 0, none⟩) x.reason.size cr]) :=
      Lib.hid ((Rp.slice Rp.byte).mono (fun j hj he => by have := (OwnP.own h6.out j he.symm).2; have hj : w6.heap.size ≤ j := hj; omega) pk)
    have h6' := Lib.hid (OwnP.ext h6.out er)
    have Er := E6.trans er
    clear kr pk
    go_wp2_with fail
    refine (putBytesC w v6 _ 6 _ _ _ rfl _ (by decide) (by omega) (by omega) wr h6'.out Er S7.out).mono ?_
    rintro e w66 ⟨v66, rfl, h66, E66⟩
    replace h66 := Lib.hid h66
    clear rr sr er Er
    have c0 := E66.cellS c0_
    have c1 := E66.cellS c1_
    have c2 := E66.cellS c2_
    have c3 := E66.cellS c3_
    have c4 := E66.cellS c4_
    have c5 := E66.cellS c5_
    have c6 := E66.cellS c6_
    have c7 := E66.cellS c7_
    go_wp2_with (go_at_call 47; refine (flag_any _ _).mono ?_; rintro e w' ⟨rfl, rfl⟩)
    refine (putIntC w v66 _ 7 _ _ rfl (by decide) (by omega) w66 h66.out E66).mono ?_
    rintro e w7 ⟨v7, rfl, h7, E7⟩
    replace h7 := Lib.hid h7
    have c0 := E7.cellS c0_
    have c1 := E7.cellS c1_
    have c2 := E7.cellS c2_
    have c3 := E7.cellS c3_
    have c4 := E7.cellS c4_
    have c5 := E7.cellS c5_
    have c6 := E7.cellS c6_
    have c7 := E7.cellS c7_
    go_wp2_with fail
    obtain ⟨N, HN⟩ : ∃ N, Hid (N = _) := ⟨_, Lib.hid (Eq.refl (0+blen (ilen x.rev)+ilen x.id+ilen (b2i x.created)+ilen (b2i x.canceled)+ilen x.compact+blen x.reason.size+ilen (b2i x.fragment)))⟩
    go_loopw [3, 4] (fun b' i wr => ∃ k : Nat, i = .int .i64 k ∧ k ≤ x.events.length ∧ Hid (Bytes wr w.heap.size b' (N + evsSize (x.events.take k))) ∧ Ext w wr) (fun _ i _ => x.events.length - (intOf i).toNat)
    case atStart => exact ⟨0, rfl, Nat.zero_le _, Lib.hid (by rw [HN.out]; exact h7.out), E7⟩
    case round =>
      obtain ⟨k, rfl, hk, hb, he⟩ := hrel
      have c7 := he.cellS c7_
      by_cases hlt : k < x.events.length
      · obtain ⟨A', cap', hv, p1, p2, p3, hrow⟩ := HS.out
        simp only [List.cons.injEq, Value.slice.injEq, and_true] at hv
        obtain ⟨rfl, _, rfl⟩ := hv
        obtain ⟨ba, o, rfl, _⟩ := hrow.addr (List.ne_nil_of_length_pos (by omega))
        obtain ⟨cs, _, ⟨be, rfl, hev⟩, hc⟩ := hrow.at rfl (List.getElem?_eq_getElem hlt)
        have cE := he.cellS (hc 0 (by decide))
        have cE : wr.cell? ⟨ba, o + k, none⟩ = some (.pointer (some ⟨be, 0, none⟩)) := by simpa [Rp.evp] using cE
        have HE := Lib.hid hev
        clear hc hrow hev
        go_wp2_with fail
        refine (evPut be _ wr (HO.out _ (List.getElem_mem hlt)) (HE.out.ext he)).mono ?_
        rintro e w8 ⟨v8, rfl, q8, E8⟩
        obtain ⟨A8, n8, rfl⟩ := q8.shape
        have S8 := Lib.hid (src_new hb.out q8)
        have hb' := Lib.hid (OwnP.ext hb.out E8)
        replace E8 := he.trans E8
        have hsz := EvD.size_le _ (HO.out _ (List.getElem_mem hlt))
        have hes := evsSize_le (x.events.take k) (fun y hy => HO.out y (List.mem_of_mem_take hy))
        have htl : (x.events.take k).length ≤ 1000 := by rw [List.length_take]; omega
        clear q8
        go_wp2_with fail
        refine (putBytesC w _ _ 11 _ _ _ rfl _ (by decide) (by have := HN.out; omega) (by omega) w8 hb'.out E8 S8.out).mono ?_
        rintro e w9 ⟨v9, rfl, h9, E9⟩
        go_wp2
        go_roundw
        case rel => exact ⟨k + 1, by go_num, by omega, Lib.hid (by rw [evsSize_snoc _ _ hlt, ← Nat.add_assoc]; exact h9), E9⟩
        case measure => simp [intOf]; omega
      · have hkn : Hid (k = x.events.length) := Lib.hid (by omega)
        go_wp2
        go_ret
        refine ⟨_, rfl, ?_, he⟩
        have := hb.out
        rw [hkn.out, List.take_length] at this
        rw [show x.size = _ from ?_]
        · exact this
        · rw [HN.out, RespD.size, RespD.bare, HC.out]
          omega

set_option maxHeartbeats 1000000 in
set_option maxRecDepth 20000 in
theorem respSize (b : Nat) (x : RespD) (w : World) (h : RespAt w any x b) (ho : ∀ y : EvD, y ∈ x.events → y.ok) (hr : x.reason.size ≤ 1000000) (hn : x.events.length ≤ 1000) :
    Calls Try.prog 14 #[.iface 40 (.pointer (some ⟨b, 0, none⟩))] w fun e w' => e = .returned (.int .i64 x.size) ∧ Ext w w' := by
  have H := Lib.hid h
  have HO := Lib.hid ho
  clear h ho
  have ta : ∀ w : World, (Instr.typeAssert (.iface 40 (.pointer (some ⟨b, 0, none⟩))) 20 49 true).run Try.prog w = .ok (.tuple #[.iface 40 (.pointer (some ⟨b, 0, none⟩)), .bool true]) w := fun w => by kernel_rfl
  go_enter Try.func14, Try.ntmps14
  go_wp2_with fail
  refine (respPut_a b x w H.out HO.out hr hn).mono ?_
  rintro e w1 ⟨v1, rfl, h1, E1⟩
  obtain ⟨A1, n1, rfl⟩ := h1.shape
  go_wp2
  go_ret
  exact ⟨rfl, E1⟩
end Go.Proofs.Ytmimpfenlhfkiaa
