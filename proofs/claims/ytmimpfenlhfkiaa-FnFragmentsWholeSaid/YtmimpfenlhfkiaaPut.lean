/-
  An event, and a response, written: how many bytes.
-/
import Derived.Test.YtmimpfenlhfkiaaEv
import Derived.Handy
namespace Go.Proofs.Ytmimpfenlhfkiaa
open Go.RowKit
set_option linter.unusedSimpArgs false
set_option linter.unusedVariables false

theorem src_new {w1 w2 : World} {B k n : Nat} {v1 v2 : Value} (h1 : Bytes w1 B v1 k) (h2 : Bytes w2 w1.heap.size v2 n) : (Rp.slice Rp.byte).K w2 (fun j => some j ≠ v1.ownBlock) (List.replicate n ()) [v2] :=
  (Rp.slice Rp.byte).mono (fun j hj he => by have := (OwnP.own h1 j he.symm).2; have hj : w1.heap.size ≤ j := hj; omega) (OwnP.slice h2)
theorem Bytes.shape {w : World} {B n : Nat} {v : Value} (h : Bytes w B v n) : ∃ A c, v = .slice A n c := by
  obtain ⟨A, c, h1, _⟩ := OwnP.shape h
  rw [List.length_replicate] at h1
  exact ⟨A, c, h1⟩
theorem KVl.size_le (x : KVl) (hk : x.key ≤ 1000000) (hv : x.value ≤ 1000000) : x.size ≤ 2000100 := by
  unfold KVl.size
  have := ilen_le x.create; have := ilen_le x.mod; have := ilen_le x.version; have := ilen_le x.lease; have := blen_le x.key (by omega); have := blen_le x.value (by omega)
  split <;> split <;> omega
/-- a key-value that stands somewhere, written -/
theorem kvPutAt (b : Nat) (x : KVd) (w : World) (hk : x.key.size ≤ 1000000) (hv : x.value.size ≤ 1000000) (h : KvAt w any x b) :
    Calls Try.prog 50 #[.pointer (some ⟨b, 0, none⟩)] w (Wrote w x.l.size) := by
  obtain ⟨_, Ak, ck, Av, cv, K, h1, h2⟩ := h
  have e : ∀ s : ByteArray, s.data.toList.length = s.size := fun s => by rw [Array.length_toList]; rfl
  have p1 := slice_count h1
  have p2 := slice_count h2
  rw [e] at p1 p2
  exact kvPut b x.l Ak Av ck cv w hk hv K p1 p2
/-- how many bytes an event has -/
def EvD.size (x : EvD) : Nat := ilen (if x.gone then 1 else 0) + blen x.kv.l.size + (if x.hasPrev then blen x.prev.l.size else 0)
/-- texts are short -/
def EvD.ok (x : EvD) : Prop := x.kv.key.size ≤ 1000000 ∧ x.kv.value.size ≤ 1000000 ∧ x.prev.key.size ≤ 1000000 ∧ x.prev.value.size ≤ 1000000


set_option maxHeartbeats 1000000 in
set_option maxRecDepth 20000 in
theorem evPut (b : Nat) (x : EvD) (w : World) (hx : x.ok) (h : EvAt w any x b) :
    Calls Try.prog 48 #[.pointer (some ⟨b, 0, none⟩)] w (Wrote w x.size) := by
  obtain ⟨gone, kv, hasPrev, prev⟩ := x
  obtain ⟨hx1, hx2, hx3, hx4⟩ := hx
  simp only at hx1 hx2 hx3 hx4
  have z1 := KVl.size_le kv.l hx1 hx2
  have z2 := KVl.size_le prev.l hx3 hx4
  have z3 := blen_le kv.l.size (by omega)
  have z4 := blen_le prev.l.size (by omega)
  have z5 := ilen_le 0
  have z6 := ilen_le 1
  obtain ⟨_, bk, pv, K, hkv, hpv⟩ := h
  have HK := Lib.hid hkv
  have HP := Lib.hid hpv
  clear hkv hpv
  have c0_ := K.cell (o := 0) rfl
  have c1_ := K.cell (o := 1) rfl
  have c2_ := K.cell (o := 2) rfl
  cases gone with
  | false =>
    have c0_ : w.cell? ⟨b, 0, none⟩ = some (.int .i32 0) := c0_
    have c0 := c0_
    have c1 := c1_
    have c2 := c2_
    go_enter Try.func48, Try.ntmps48
    go_wp2_with fail
    refine (putIntC w (.slice none 0 0) 0 1 _ 0 rfl (by decide) (by omega) w (bytes_nil w _) (Ext.refl w)).mono ?_
    rintro e w1 ⟨v1, rfl, h1, E1⟩
    replace h1 := Lib.hid h1
    have c0 := E1.cellS c0_
    have c1 := E1.cellS c1_
    have c2 := E1.cellS c2_
    go_wp2_with fail
    refine (kvPutAt bk kv w1 hx1 hx2 (HK.out.ext E1 (fun _ h => h))).mono ?_
    rintro e w2 ⟨v2, rfl, q2, E2⟩
    obtain ⟨A2, n2, rfl⟩ := q2.shape
    have S2 := Lib.hid (src_new h1.out q2)
    have h1' := Lib.hid (OwnP.ext h1.out E2)
    replace E2 := E1.trans E2
    clear q2
    have c0 := E2.cellS c0_
    have c1 := E2.cellS c1_
    have c2 := E2.cellS c2_
    go_wp2_with fail
    refine (putBytesC w v1 _ 2 _ _ _ rfl _ (by decide) (by omega) (by omega) w2 h1'.out E2 S2.out).mono ?_
    rintro e w3 ⟨v3, rfl, h3, E3⟩
    replace h3 := Lib.hid h3
    have c0 := E3.cellS c0_
    have c1 := E3.cellS c1_
    have c2 := E3.cellS c2_
    cases hasPrev with
    | false =>
      obtain rfl := HP.out
      go_wp2
      go_ret
      refine ⟨v3, rfl, ?_, E3⟩
      rw [show EvD.size ⟨false, kv, false, prev⟩ = _ from ?_]
      · exact h3.out
      · simp [EvD.size]
    | true =>
      obtain ⟨bp, rfl, hpp⟩ := HP.out
      have HPP := Lib.hid hpp
      clear hpp
      go_wp2_with fail
      refine (kvPutAt bp prev w3 hx3 hx4 (HPP.out.ext E3 (fun _ h => h))).mono ?_
      rintro e w4 ⟨v4, rfl, q4, E4⟩
      obtain ⟨A4, n4, rfl⟩ := q4.shape
      have S4 := Lib.hid (src_new h3.out q4)
      have h3' := Lib.hid (OwnP.ext h3.out E4)
      replace E4 := E3.trans E4
      clear q4
      go_wp2_with fail
      refine (putBytesC w v3 _ 3 _ _ _ rfl _ (by decide) (by omega) (by omega) w4 h3'.out E4 S4.out).mono ?_
      rintro e w5 ⟨v5, rfl, h5, E5⟩
      go_wp2
      go_ret
      refine ⟨v5, rfl, ?_, E5⟩
      rw [show EvD.size ⟨false, kv, true, prev⟩ = _ from ?_]
      · exact h5
      · simp [EvD.size]
  | true =>
    have c0_ : w.cell? ⟨b, 0, none⟩ = some (.int .i32 1) := c0_
    have c0 := c0_
    have c1 := c1_
    have c2 := c2_
    go_enter Try.func48, Try.ntmps48
    go_wp2_with fail
    refine (putIntC w (.slice none 0 0) 0 1 _ 1 rfl (by decide) (by omega) w (bytes_nil w _) (Ext.refl w)).mono ?_
    rintro e w1 ⟨v1, rfl, h1, E1⟩
    replace h1 := Lib.hid h1
    have c0 := E1.cellS c0_
    have c1 := E1.cellS c1_
    have c2 := E1.cellS c2_
    go_wp2_with fail
    refine (kvPutAt bk kv w1 hx1 hx2 (HK.out.ext E1 (fun _ h => h))).mono ?_
    rintro e w2 ⟨v2, rfl, q2, E2⟩
    obtain ⟨A2, n2, rfl⟩ := q2.shape
    have S2 := Lib.hid (src_new h1.out q2)
    have h1' := Lib.hid (OwnP.ext h1.out E2)
    replace E2 := E1.trans E2
    clear q2
    have c0 := E2.cellS c0_
    have c1 := E2.cellS c1_
    have c2 := E2.cellS c2_
    go_wp2_with fail
    refine (putBytesC w v1 _ 2 _ _ _ rfl _ (by decide) (by omega) (by omega) w2 h1'.out E2 S2.out).mono ?_
    rintro e w3 ⟨v3, rfl, h3, E3⟩
    replace h3 := Lib.hid h3
    have c0 := E3.cellS c0_
    have c1 := E3.cellS c1_
    have c2 := E3.cellS c2_
    cases hasPrev with
    | false =>
      obtain rfl := HP.out
      go_wp2
      go_ret
      refine ⟨v3, rfl, ?_, E3⟩
      rw [show EvD.size ⟨true, kv, false, prev⟩ = _ from ?_]
      · exact h3.out
      · simp [EvD.size]
    | true =>
      obtain ⟨bp, rfl, hpp⟩ := HP.out
      have HPP := Lib.hid hpp
      clear hpp
      go_wp2_with fail
      refine (kvPutAt bp prev w3 hx3 hx4 (HPP.out.ext E3 (fun _ h => h))).mono ?_
      rintro e w4 ⟨v4, rfl, q4, E4⟩
      obtain ⟨A4, n4, rfl⟩ := q4.shape
      have S4 := Lib.hid (src_new h3.out q4)
      have h3' := Lib.hid (OwnP.ext h3.out E4)
      replace E4 := E3.trans E4
      clear q4
      go_wp2_with fail
      refine (putBytesC w v3 _ 3 _ _ _ rfl _ (by decide) (by omega) (by omega) w4 h3'.out E4 S4.out).mono ?_
      rintro e w5 ⟨v5, rfl, h5, E5⟩
      go_wp2
      go_ret
      refine ⟨v5, rfl, ?_, E5⟩
      rw [show EvD.size ⟨true, kv, true, prev⟩ = _ from ?_]
      · exact h5
      · simp [EvD.size]
end Go.Proofs.Ytmimpfenlhfkiaa
