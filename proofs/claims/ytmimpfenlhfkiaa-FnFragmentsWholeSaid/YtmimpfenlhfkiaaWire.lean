/-
  Messages that are written: how many bytes (PutFields).
-/
import Derived.Test.YtmimpfenlhfkiaaByte
namespace Go.Proofs.Ytmimpfenlhfkiaa
open Go.RowKit
set_option linter.unusedSimpArgs false
set_option linter.unusedVariables false

abbrev nilB : Value := .slice none 0 0
theorem bytes_nil (w : World) (B : Nat) : Bytes w B (.slice none 0 0) 0 := OwnP.nil _ _ _ _ _
/-- what a message's writing leaves: n bytes in a new slice -/
def Wrote (w : World) (n : Nat) (e : Ending) (w' : World) : Prop := ∃ v, e = .returned v ∧ Bytes w' w.heap.size v n ∧ Ext w w'
theorem Grew.wrote {w w1 w2 : World} {v v2 : Value} {n m : Nat} (h1 : Bytes w1 w.heap.size v n) (E1 : Ext w w1) (E2 : ExtX (fun j => some j = v.ownBlock) w1 w2) : Ext w w2 :=
  ((E1.toX (fun j => some j = v.ownBlock)).trans E2).toExt (fun j hj => (OwnP.own h1 j hj.symm).1)

/-- what a further field leaves, seen from the message's beginning -/
def Adds (w0 : World) (n : Nat) (e : Ending) (w' : World) : Prop := ∃ v', e = .returned v' ∧ Bytes w' w0.heap.size v' n ∧ Ext w0 w'
theorem putIntC (w0 : World) (v : Value) (k f : Nat) (x n : Int) (hx : x = f) (hf : f < 16) (hk : k ≤ 900000000000) (w : World) (h : Bytes w w0.heap.size v k) (E : Ext w0 w) :
    Calls Try.prog 46 #[v, .int .i64 x, .int .i64 n] w (Adds w0 (k + ilen n)) := by
  subst hx
  refine (putInt w0.heap.size v k f n hf hk w h E.size).mono ?_
  rintro e w' ⟨v', rfl, h', E', F'⟩
  exact ⟨v', rfl, h', Grew.wrote (v2 := v') (m := 0) h E E'⟩
theorem putBytesC (w0 : World) (v : Value) (k f n c : Nat) (x : Int) (hx : x = f) (A : Option Addr) (hf : f < 15) (hk : k ≤ 800000000000) (hn : n ≤ 10000000000) (w : World) (h : Bytes w w0.heap.size v k) (E : Ext w0 w)
    (hs : (Rp.slice Rp.byte).K w (fun j => some j ≠ v.ownBlock) (List.replicate n ()) [.slice A n c]) :
    Calls Try.prog 44 #[v, .int .i64 x, .slice A n c] w (Adds w0 (k + blen n)) := by
  subst hx
  refine (putBytes w0.heap.size v k f n c A hf hk hn w h E.size hs).mono ?_
  rintro e w' ⟨v', rfl, h', E', F'⟩
  exact ⟨v', rfl, h', Grew.wrote (v2 := v') (m := 0) h E E'⟩
/-- bytes that were there at the beginning are not in the block that is written -/
theorem src_old {w0 w : World} {v : Value} {k n : Nat} {cs : List Value} (h : Bytes w w0.heap.size v k) (E : Ext w0 w) (hs : (Rp.slice Rp.byte).K w0 any (List.replicate n ()) cs) : (Rp.slice Rp.byte).K w (fun j => some j ≠ v.ownBlock) (List.replicate n ()) cs :=
  (Rp.slice Rp.byte).mono (fun j hj he => by have := (OwnP.own h j he.symm).1; have := hj.2; omega) ((Rp.slice Rp.byte).ext' E ((Rp.slice Rp.byte).lt hs))

/-- a key-value as it is written -/
structure KVl where
  key : Nat
  value : Nat
  create : Int
  mod : Int
  version : Int
  lease : Int
def KVl.size (x : KVl) : Nat := (if x.key = 0 then 0 else blen x.key) + ilen x.create + ilen x.mod + ilen x.version + (if x.value = 0 then 0 else blen x.value) + ilen x.lease

theorem ilen_le (n : Int) : ilen n ≤ 11 := by
  unfold ilen
  split
  · omega
  · have := vlen_le 10 (n % 18446744073709551616).toNat (by omega)
    omega

set_option maxHeartbeats 1000000 in
set_option maxRecDepth 20000 in
theorem headPut (b : Nat) (r : Int) (w : World) (K : Blk w b 56 [.int .u64 0, .int .u64 0, .int .i64 r, .int .u64 0]) :
    Calls Try.prog 45 #[.pointer (some ⟨b, 0, none⟩)] w (Wrote w (ilen r)) := by
  have c0 := K.cell (o := 0) rfl
  have c1 := K.cell (o := 1) rfl
  have c2 := K.cell (o := 2) rfl
  have c3 := K.cell (o := 3) rfl
  have c0_ := c0
  have c1_ := c1
  have c2_ := c2
  have c3_ := c3
  go_enter Try.func45, Try.ntmps45
  go_wp2_with fail
  refine (putIntC w nilB 0 1 _ 0 rfl (by decide) (by have := ilen_le r; have := ilen_le 0; omega) w (bytes_nil w _) (Ext.refl w)).mono ?_
  rintro e w1 ⟨v1, rfl, h1, E1⟩
  replace h1 := Lib.hid h1
  have c0 := E1.cellS c0_
  have c1 := E1.cellS c1_
  have c2 := E1.cellS c2_
  have c3 := E1.cellS c3_
  go_wp2_with fail
  refine (putIntC w v1 _ 2 _ 0 rfl (by decide) (by have := ilen_le r; have := ilen_le 0; omega) w1 h1.out E1).mono ?_
  rintro e w2 ⟨v2, rfl, h2, E2⟩
  replace h2 := Lib.hid h2
  have c0 := E2.cellS c0_
  have c1 := E2.cellS c1_
  have c2 := E2.cellS c2_
  have c3 := E2.cellS c3_
  go_wp2_with fail
  refine (putIntC w v2 _ 3 _ r rfl (by decide) (by have := ilen_le r; have := ilen_le 0; omega) w2 h2.out E2).mono ?_
  rintro e w3 ⟨v3, rfl, h3, E3⟩
  replace h3 := Lib.hid h3
  have c0 := E3.cellS c0_
  have c1 := E3.cellS c1_
  have c2 := E3.cellS c2_
  have c3 := E3.cellS c3_
  go_wp2_with fail
  refine (putIntC w v3 _ 4 _ 0 rfl (by decide) (by have := ilen_le r; have := ilen_le 0; omega) w3 h3.out E3).mono ?_
  rintro e w4 ⟨v4, rfl, h4, E4⟩
  replace h4 := Lib.hid h4
  have c0 := E4.cellS c0_
  have c1 := E4.cellS c1_
  have c2 := E4.cellS c2_
  have c3 := E4.cellS c3_
  go_wp2
  go_ret
  refine ⟨v4, rfl, ?_, E4⟩
  have := h4.out
  simpa [ilen] using this

theorem blen_le (n : Nat) : n ≤ 10000000000 → blen n ≤ n + 12 := by
  intro h
  have := vlen_le 10 n (by omega)
  unfold blen
  omega

set_option maxHeartbeats 2000000 in
set_option maxRecDepth 20000 in
theorem kvPut (b : Nat) (x : KVl) (Ak Av : Option Addr) (ck cv : Nat) (w : World) (hxk : x.key ≤ 1000000) (hxv : x.value ≤ 1000000)
    (K : Blk w b 76 [.slice Ak x.key ck, .int .i64 x.create, .int .i64 x.mod, .int .i64 x.version, .slice Av x.value cv, .int .i64 x.lease])
    (hk : (Rp.slice Rp.byte).K w any (List.replicate x.key ()) [.slice Ak x.key ck]) (hv : (Rp.slice Rp.byte).K w any (List.replicate x.value ()) [.slice Av x.value cv]) :
    Calls Try.prog 50 #[.pointer (some ⟨b, 0, none⟩)] w (Wrote w x.size) := by
  have HK := Lib.hid hk
  have HV := Lib.hid hv
  clear hk hv
  have c0 := K.cell (o := 0) rfl
  have c1 := K.cell (o := 1) rfl
  have c2 := K.cell (o := 2) rfl
  have c3 := K.cell (o := 3) rfl
  have c4 := K.cell (o := 4) rfl
  have c5 := K.cell (o := 5) rfl
  have c0_ := c0
  have c1_ := c1
  have c2_ := c2
  have c3_ := c3
  have c4_ := c4
  have c5_ := c5
  have hnil := Lib.hid (bytes_nil w w.heap.size)
  have Er := Ext.refl w
  by_cases hk0 : x.key = 0
  · have hk1 : ¬ (0 : Int) < (x.key : Int) := by omega
    go_enter Try.func50, Try.ntmps50
    go_wp2_with fail
    refine (putIntC w nilB _ 2 _ _ rfl (by decide) (by have := ilen_le x.create; have := ilen_le x.mod; have := ilen_le x.version; have := ilen_le x.lease; have := blen_le x.key (by omega); have := blen_le x.value (by omega); omega) w hnil.out Er).mono ?_
    rintro e w2 ⟨v2, rfl, h2, E2⟩
    replace h2 := Lib.hid h2
    have c0 := E2.cellS c0_
    have c1 := E2.cellS c1_
    have c2 := E2.cellS c2_
    have c3 := E2.cellS c3_
    have c4 := E2.cellS c4_
    have c5 := E2.cellS c5_
    go_wp2_with fail
    refine (putIntC w v2 _ 3 _ _ rfl (by decide) (by have := ilen_le x.create; have := ilen_le x.mod; have := ilen_le x.version; have := ilen_le x.lease; have := blen_le x.key (by omega); have := blen_le x.value (by omega); omega) w2 h2.out E2).mono ?_
    rintro e w3 ⟨v3, rfl, h3, E3⟩
    replace h3 := Lib.hid h3
    have c0 := E3.cellS c0_
    have c1 := E3.cellS c1_
    have c2 := E3.cellS c2_
    have c3 := E3.cellS c3_
    have c4 := E3.cellS c4_
    have c5 := E3.cellS c5_
    go_wp2_with fail
    refine (putIntC w v3 _ 4 _ _ rfl (by decide) (by have := ilen_le x.create; have := ilen_le x.mod; have := ilen_le x.version; have := ilen_le x.lease; have := blen_le x.key (by omega); have := blen_le x.value (by omega); omega) w3 h3.out E3).mono ?_
    rintro e w4 ⟨v4, rfl, h4, E4⟩
    replace h4 := Lib.hid h4
    have c0 := E4.cellS c0_
    have c1 := E4.cellS c1_
    have c2 := E4.cellS c2_
    have c3 := E4.cellS c3_
    have c4 := E4.cellS c4_
    have c5 := E4.cellS c5_
    by_cases hv0 : x.value = 0
    · have hv1 : ¬ (0 : Int) < (x.value : Int) := by omega
      go_wp2_with fail
      refine (putIntC w v4 _ 6 _ _ rfl (by decide) (by have := ilen_le x.create; have := ilen_le x.mod; have := ilen_le x.version; have := ilen_le x.lease; have := blen_le x.key (by omega); have := blen_le x.value (by omega); omega) w4 h4.out E4).mono ?_
      rintro e w5 ⟨v5, rfl, h5, E5⟩
      replace h5 := Lib.hid h5
      have c0 := E5.cellS c0_
      have c1 := E5.cellS c1_
      have c2 := E5.cellS c2_
      have c3 := E5.cellS c3_
      have c4 := E5.cellS c4_
      have c5 := E5.cellS c5_
      go_wp2
      go_ret
      refine ⟨v5, rfl, ?_, E5⟩
      have := h5.out
      rw [show x.size = _ from ?_]
      · exact this
      · simp only [KVl.size, hv0, hk0, if_true, if_false]; try omega
    · have hv1 : (0 : Int) < (x.value : Int) := by omega
      go_wp2_with fail
      refine (putBytesC w v4 _ 5 _ _ _ rfl _ (by decide) (by have := ilen_le x.create; have := ilen_le x.mod; have := ilen_le x.version; have := ilen_le x.lease; have := blen_le x.key (by omega); omega) (by omega) w4 h4.out E4 (src_old h4.out E4 HV.out)).mono ?_
      rintro e w6 ⟨v6, rfl, h6, E6⟩
      replace h6 := Lib.hid h6
      have c0 := E6.cellS c0_
      have c1 := E6.cellS c1_
      have c2 := E6.cellS c2_
      have c3 := E6.cellS c3_
      have c4 := E6.cellS c4_
      have c5 := E6.cellS c5_
      go_wp2_with fail
      refine (putIntC w v6 _ 6 _ _ rfl (by decide) (by have := ilen_le x.create; have := ilen_le x.mod; have := ilen_le x.version; have := ilen_le x.lease; have := blen_le x.key (by omega); have := blen_le x.value (by omega); omega) w6 h6.out E6).mono ?_
      rintro e w5 ⟨v5, rfl, h5, E5⟩
      replace h5 := Lib.hid h5
      have c0 := E5.cellS c0_
      have c1 := E5.cellS c1_
      have c2 := E5.cellS c2_
      have c3 := E5.cellS c3_
      have c4 := E5.cellS c4_
      have c5 := E5.cellS c5_
      go_wp2
      go_ret
      refine ⟨v5, rfl, ?_, E5⟩
      have := h5.out
      rw [show x.size = _ from ?_]
      · exact this
      · simp only [KVl.size, hv0, hk0, if_true, if_false]; try omega
  · have hk1 : (0 : Int) < (x.key : Int) := by omega
    go_enter Try.func50, Try.ntmps50
    go_wp2_with fail
    refine (putBytesC w nilB _ 1 _ _ _ rfl _ (by decide) (by have := ilen_le x.create; have := ilen_le x.mod; have := ilen_le x.version; have := ilen_le x.lease; have := blen_le x.key (by omega); omega) (by omega) w hnil.out Er (src_old hnil.out Er HK.out)).mono ?_
    rintro e w1 ⟨v1, rfl, h1, E1⟩
    replace h1 := Lib.hid h1
    have c0 := E1.cellS c0_
    have c1 := E1.cellS c1_
    have c2 := E1.cellS c2_
    have c3 := E1.cellS c3_
    have c4 := E1.cellS c4_
    have c5 := E1.cellS c5_
    go_wp2_with fail
    refine (putIntC w v1 _ 2 _ _ rfl (by decide) (by have := ilen_le x.create; have := ilen_le x.mod; have := ilen_le x.version; have := ilen_le x.lease; have := blen_le x.key (by omega); have := blen_le x.value (by omega); omega) w1 h1.out E1).mono ?_
    rintro e w2 ⟨v2, rfl, h2, E2⟩
    replace h2 := Lib.hid h2
    have c0 := E2.cellS c0_
    have c1 := E2.cellS c1_
    have c2 := E2.cellS c2_
    have c3 := E2.cellS c3_
    have c4 := E2.cellS c4_
    have c5 := E2.cellS c5_
    go_wp2_with fail
    refine (putIntC w v2 _ 3 _ _ rfl (by decide) (by have := ilen_le x.create; have := ilen_le x.mod; have := ilen_le x.version; have := ilen_le x.lease; have := blen_le x.key (by omega); have := blen_le x.value (by omega); omega) w2 h2.out E2).mono ?_
    rintro e w3 ⟨v3, rfl, h3, E3⟩
    replace h3 := Lib.hid h3
    have c0 := E3.cellS c0_
    have c1 := E3.cellS c1_
    have c2 := E3.cellS c2_
    have c3 := E3.cellS c3_
    have c4 := E3.cellS c4_
    have c5 := E3.cellS c5_
    go_wp2_with fail
    refine (putIntC w v3 _ 4 _ _ rfl (by decide) (by have := ilen_le x.create; have := ilen_le x.mod; have := ilen_le x.version; have := ilen_le x.lease; have := blen_le x.key (by omega); have := blen_le x.value (by omega); omega) w3 h3.out E3).mono ?_
    rintro e w4 ⟨v4, rfl, h4, E4⟩
    replace h4 := Lib.hid h4
    have c0 := E4.cellS c0_
    have c1 := E4.cellS c1_
    have c2 := E4.cellS c2_
    have c3 := E4.cellS c3_
    have c4 := E4.cellS c4_
    have c5 := E4.cellS c5_
    by_cases hv0 : x.value = 0
    · have hv1 : ¬ (0 : Int) < (x.value : Int) := by omega
      go_wp2_with fail
      refine (putIntC w v4 _ 6 _ _ rfl (by decide) (by have := ilen_le x.create; have := ilen_le x.mod; have := ilen_le x.version; have := ilen_le x.lease; have := blen_le x.key (by omega); have := blen_le x.value (by omega); omega) w4 h4.out E4).mono ?_
      rintro e w5 ⟨v5, rfl, h5, E5⟩
      replace h5 := Lib.hid h5
      have c0 := E5.cellS c0_
      have c1 := E5.cellS c1_
      have c2 := E5.cellS c2_
      have c3 := E5.cellS c3_
      have c4 := E5.cellS c4_
      have c5 := E5.cellS c5_
      go_wp2
      go_ret
      refine ⟨v5, rfl, ?_, E5⟩
      have := h5.out
      rw [show x.size = _ from ?_]
      · exact this
      · simp only [KVl.size, hv0, hk0, if_true, if_false]; try omega
    · have hv1 : (0 : Int) < (x.value : Int) := by omega
      go_wp2_with fail
      refine (putBytesC w v4 _ 5 _ _ _ rfl _ (by decide) (by have := ilen_le x.create; have := ilen_le x.mod; have := ilen_le x.version; have := ilen_le x.lease; have := blen_le x.key (by omega); omega) (by omega) w4 h4.out E4 (src_old h4.out E4 HV.out)).mono ?_
      rintro e w6 ⟨v6, rfl, h6, E6⟩
      replace h6 := Lib.hid h6
      have c0 := E6.cellS c0_
      have c1 := E6.cellS c1_
      have c2 := E6.cellS c2_
      have c3 := E6.cellS c3_
      have c4 := E6.cellS c4_
      have c5 := E6.cellS c5_
      go_wp2_with fail
      refine (putIntC w v6 _ 6 _ _ rfl (by decide) (by have := ilen_le x.create; have := ilen_le x.mod; have := ilen_le x.version; have := ilen_le x.lease; have := blen_le x.key (by omega); have := blen_le x.value (by omega); omega) w6 h6.out E6).mono ?_
      rintro e w5 ⟨v5, rfl, h5, E5⟩
      replace h5 := Lib.hid h5
      have c0 := E5.cellS c0_
      have c1 := E5.cellS c1_
      have c2 := E5.cellS c2_
      have c3 := E5.cellS c3_
      have c4 := E5.cellS c4_
      have c5 := E5.cellS c5_
      go_wp2
      go_ret
      refine ⟨v5, rfl, ?_, E5⟩
      have := h5.out
      rw [show x.size = _ from ?_]
      · exact this
      · simp only [KVl.size, hv0, hk0, if_true, if_false]; try omega
end Go.Proofs.Ytmimpfenlhfkiaa
