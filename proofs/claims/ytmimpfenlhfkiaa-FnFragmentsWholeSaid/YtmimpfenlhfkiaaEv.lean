/-
  Key-values and events, as data and as messages (impl.kvIn, impl.eventIn).
-/
import Derived.Test.YtmimpfenlhfkiaaText
namespace Go.Proofs.Ytmimpfenlhfkiaa
open Go.RowKit
set_option linter.unusedSimpArgs false
set_option linter.unusedVariables false

structure KVd where
  key : ByteArray
  value : ByteArray
  create : Int
  mod : Int
  version : Int
  lease : Int
abbrev KVd.l (x : KVd) : KVl := ⟨x.key.size, x.value.size, x.create, x.mod, x.version, x.lease⟩
/-- the key-value x stands at block b -/
def KvAt (w : World) (ok : Nat → Prop) (x : KVd) (b : Nat) : Prop :=
  ok b ∧ ∃ Ak ck Av cv, Blk w b 76 [.slice Ak x.key.size ck, .int .i64 x.create, .int .i64 x.mod, .int .i64 x.version, .slice Av x.value.size cv, .int .i64 x.lease] ∧
    (Rp.slice Rp.u8).K w ok x.key.data.toList [.slice Ak x.key.size ck] ∧ (Rp.slice Rp.u8).K w ok x.value.data.toList [.slice Av x.value.size cv]
abbrev kvV (x : KVd) : Value := .agg #[.string x.key, .string x.value, .int .i64 x.create, .int .i64 x.mod, .int .i64 x.version, .int .i64 x.lease]

set_option maxHeartbeats 1000000 in
theorem kvIn_any (x : KVd) (hk : x.key.size ≤ maxLen) (hv : x.value.size ≤ maxLen) (w : World) :
    Calls Try.prog 26 #[kvV x] w fun e w' => ∃ b, e = .returned (.pointer (some ⟨b, 0, none⟩)) ∧ KvAt w' (fun j => w.heap.size ≤ j) x b ∧ Ext w w' := by
  obtain ⟨c1, w1, r1, e1, s1, k1⟩ := text_bytes (P := Try.prog) (w.alloc (.cells #[.string x.key, .string x.value, .int .i64 x.create, .int .i64 x.mod, .int .i64 x.version, .int .i64 x.lease] 35)) 9 51 5 x.key hk Try.underlying9 Try.underlying51 Try.underlying5
  obtain ⟨c2, w2, r2, e2, s2, k2⟩ := text_bytes (P := Try.prog) w1 9 51 5 x.value hv Try.underlying9 Try.underlying51 Try.underlying5
  have K0 := (Blk.new w 35 [.string x.key, .string x.value, .int .i64 x.create, .int .i64 x.mod, .int .i64 x.version, .int .i64 x.lease])
  have K1 := K0.ext e1
  have K2 := K1.ext e2
  have g1 := K1.cell (o := 1) rfl
  have c2_ := K2.cell (o := 2) rfl
  have c3_ := K2.cell (o := 3) rfl
  have c4_ := K2.cell (o := 4) rfl
  have c5_ := K2.cell (o := 5) rfl
  have H1 := Lib.hid k1
  have H2 := Lib.hid k2
  clear k1 k2 K0 K1 K2
  go_enter Try.func26, Try.ntmps26
  go_wp2
  go_ret
  have q1 := H1.out
  have q2 := H2.out
  simp only [World.size_alloc] at s1 q1
  rw [s1] at q2 s2
  have E : Ext w w2 := ((Ext.refl w).alloc _).trans (e1.trans e2)
  have KB := Blk.new w2 76 [.slice (some ⟨w.heap.size + 1, 0, none⟩) x.key.size c1, .int .i64 x.create, .int .i64 x.mod, .int .i64 x.version, .slice (some ⟨w.heap.size + 1 + 1, 0, none⟩) x.value.size c2, .int .i64 x.lease]
  rw [s2] at KB
  refine ⟨w.heap.size + 1 + 1 + 1, rfl, ⟨by show w.heap.size ≤ _; omega, _, c1, _, c2, KB, ?_, ?_⟩, E.alloc _⟩
  · exact (Rp.slice Rp.u8).mono (fun j hj => by show w.heap.size ≤ j; omega) ((Rp.slice Rp.u8).ext' (e2.alloc _) q1)
  · exact (Rp.slice Rp.u8).mono (fun j hj => by show w.heap.size ≤ j; omega) ((Rp.slice Rp.u8).ext' ((Ext.refl w2).alloc _) q2)

structure EvD where
  gone : Bool
  kv : KVd
  hasPrev : Bool
  prev : KVd
theorem KvAt.ext {w w' : World} {ok ok' : Nat → Prop} {x : KVd} {b : Nat} (h : KvAt w ok x b) (e : Ext w w') (hok : ∀ j, ok j → ok' j) : KvAt w' ok' x b := by
  obtain ⟨h0, Ak, ck, Av, cv, K, h1, h2⟩ := h
  exact ⟨hok b h0, Ak, ck, Av, cv, K.ext e, (Rp.slice Rp.u8).mono hok ((Rp.slice Rp.u8).ext' e h1), (Rp.slice Rp.u8).mono hok ((Rp.slice Rp.u8).ext' e h2)⟩
theorem KvAt.extX {M : Nat → Prop} {w w' : World} {ok ok' : Nat → Prop} {x : KVd} {b : Nat} (h : KvAt w ok x b) (e : ExtX M w w') (hok : ∀ j, ok j → j < w.heap.size → ¬ M j ∧ ok' j) : KvAt w' ok' x b := by
  obtain ⟨h0, Ak, ck, Av, cv, K, h1, h2⟩ := h
  have f : ∀ {l : List UInt8} {cs : List Value}, (Rp.slice Rp.u8).K w ok l cs → (Rp.slice Rp.u8).K w' ok' l cs := fun h =>
    (Rp.slice Rp.u8).mono (fun j hj => (hok j hj.1 hj.2).2) ((Rp.slice Rp.u8).ext (fun j hj => e.2.2.2.2 j hj.2 (hok j hj.1 hj.2).1) ((Rp.slice Rp.u8).lt h))
  exact ⟨(hok b h0 K.lt).2, Ak, ck, Av, cv, K.extX e (hok b h0 K.lt).1, f h1, f h2⟩
/-- the event x stands at block b -/
def EvAt (w : World) (ok : Nat → Prop) (x : EvD) (b : Nat) : Prop :=
  ok b ∧ ∃ bk pv, Blk w b 73 [.int .i32 (if x.gone then 1 else 0), .pointer (some ⟨bk, 0, none⟩), pv] ∧ KvAt w ok x.kv bk ∧
    (if x.hasPrev then ∃ bp, pv = .pointer (some ⟨bp, 0, none⟩) ∧ KvAt w ok x.prev bp else pv = .pointer none)
abbrev evV (x : EvD) : Value := .agg #[.bool x.gone, .string x.kv.key, .string x.kv.value, .int .i64 x.kv.create, .int .i64 x.kv.mod, .int .i64 x.kv.version, .int .i64 x.kv.lease,
  .bool x.hasPrev, .string x.prev.key, .string x.prev.value, .int .i64 x.prev.create, .int .i64 x.prev.mod, .int .i64 x.prev.version, .int .i64 x.prev.lease]

set_option maxHeartbeats 1000000 in
theorem eventIn_any (x : EvD) (hk : x.kv.key.size ≤ maxLen) (hv : x.kv.value.size ≤ maxLen) (hk' : x.prev.key.size ≤ maxLen) (hv' : x.prev.value.size ≤ maxLen) (w : World) :
    Calls Try.prog 20 #[evV x] w fun e w' => ∃ b, e = .returned (.pointer (some ⟨b, 0, none⟩)) ∧ EvAt w' (fun j => w.heap.size ≤ j) x b ∧ Ext w w' := by
  go_enter Try.func20, Try.ntmps20
  go_wp2_with fail
  refine (kvIn_any x.kv hk hv _).mono ?_
  rintro e w1 ⟨bk, rfl, hkv, e1⟩
  have z1 := e1.size
  rw [World.size_alloc] at z1
  have KE : ∀ t : Int, Blk (w1.alloc (.cells #[.int .i32 t, .pointer (some ⟨bk, 0, none⟩), .pointer none] 73)) w.heap.size 37 [.bool x.gone, .string x.kv.key, .string x.kv.value, .int .i64 x.kv.create, .int .i64 x.kv.mod, .int .i64 x.kv.version, .int .i64 x.kv.lease, .bool x.hasPrev, .string x.prev.key, .string x.prev.value, .int .i64 x.prev.create, .int .i64 x.prev.mod, .int .i64 x.prev.version, .int .i64 x.prev.lease] := fun t => ((Blk.new w 37 _).ext e1).ext ((Ext.refl w1).alloc _)
  have KN : ∀ t : Int, Blk (w1.alloc (.cells #[.int .i32 t, .pointer (some ⟨bk, 0, none⟩), .pointer none] 73)) w1.heap.size 73 [.int .i32 t, .pointer (some ⟨bk, 0, none⟩), .pointer none] := fun t => Blk.new w1 73 _
  have HKV := Lib.hid hkv
  clear hkv
  have hne : w1.heap.size ≠ w.heap.size := by omega
  have E1 : Ext w w1 := ((Ext.refl w).alloc _).trans e1
  have i0 := fun t => (KE t).cell (o := 0) rfl
  have i7 := fun t => (KE t).cell (o := 7) rfl
  have i8 := fun t => (KE t).cell (o := 8) rfl
  have i9 := fun t => (KE t).cell (o := 9) rfl
  have i10 := fun t => (KE t).cell (o := 10) rfl
  have i11 := fun t => (KE t).cell (o := 11) rfl
  have i12 := fun t => (KE t).cell (o := 12) rfl
  have i13 := fun t => (KE t).cell (o := 13) rfl
  have j0 := fun t => (KN t).cell (o := 0) rfl
  have f0 := fun t => (KN t).frozen 0
  obtain ⟨gone, kv, hasPrev, prev⟩ := x
  simp only at *
  have h0 : w.heap.size ≤ w1.heap.size := by omega
  cases gone with
  | false =>
    cases hasPrev with
    | false =>
      go_wp2
      go_ret
      exact ⟨w1.heap.size, rfl, ⟨h0, bk, .pointer none, KN 0, KvAt.ext HKV.out ((Ext.refl w1).alloc _) (fun j hj => by simp at hj; omega), rfl⟩, E1.alloc _⟩
    | true =>
      go_wp2_with fail
      refine (kvIn_any prev hk' hv' _).mono ?_
      rintro e w3 ⟨bp, rfl, hpv, e3⟩
      have K3 := (KN 0).ext e3
      have j2 := K3.cell (o := 2) rfl
      have f2 := K3.frozen 2
      have z3 := e3.size
      rw [World.size_alloc] at z3
      have HPV := Lib.hid hpv
      clear hpv
      go_wp2
      go_ret
      have X4 : ExtX (fun j => j = w1.heap.size) w3 (w3.setCell ⟨w1.heap.size, 2, none⟩ (.pointer (some ⟨bp, 0, none⟩))) := ExtX.setCell (M := fun j => j = w1.heap.size) (ExtX.refl _ w3) (p := ⟨w1.heap.size, 2, none⟩) rfl _
      refine ⟨w1.heap.size, rfl, ⟨h0, bk, .pointer (some ⟨bp, 0, none⟩), K3.setCell 2 (.pointer (some ⟨bp, 0, none⟩)), ?_, bp, rfl, ?_⟩, ?_⟩
      · exact KvAt.extX (HKV.out) (((((Ext.refl w1).alloc _).trans e3).toX _).trans X4) (fun j hj hl => by simp at hj; exact ⟨by show ¬ (j = w1.heap.size); omega, by show w.heap.size ≤ j; omega⟩)
      · exact KvAt.extX (HPV.out) X4 (fun j hj hl => by simp at hj; exact ⟨by show ¬ (j = w1.heap.size); omega, by show w.heap.size ≤ j; omega⟩)
      · exact (((((E1.alloc _).trans e3).toX _).trans X4).toExt (fun j hj => by have hj : j = w1.heap.size := hj; omega))
  | true =>
    cases hasPrev with
    | false =>
      go_wp2
      go_ret
      exact ⟨w1.heap.size, rfl, ⟨h0, bk, .pointer none, KN 1, KvAt.ext HKV.out ((Ext.refl w1).alloc _) (fun j hj => by simp at hj; omega), rfl⟩, E1.alloc _⟩
    | true =>
      go_wp2_with fail
      refine (kvIn_any prev hk' hv' _).mono ?_
      rintro e w3 ⟨bp, rfl, hpv, e3⟩
      have K3 := (KN 1).ext e3
      have j2 := K3.cell (o := 2) rfl
      have f2 := K3.frozen 2
      have z3 := e3.size
      rw [World.size_alloc] at z3
      have HPV := Lib.hid hpv
      clear hpv
      go_wp2
      go_ret
      have X4 : ExtX (fun j => j = w1.heap.size) w3 (w3.setCell ⟨w1.heap.size, 2, none⟩ (.pointer (some ⟨bp, 0, none⟩))) := ExtX.setCell (M := fun j => j = w1.heap.size) (ExtX.refl _ w3) (p := ⟨w1.heap.size, 2, none⟩) rfl _
      refine ⟨w1.heap.size, rfl, ⟨h0, bk, .pointer (some ⟨bp, 0, none⟩), K3.setCell 2 (.pointer (some ⟨bp, 0, none⟩)), ?_, bp, rfl, ?_⟩, ?_⟩
      · exact KvAt.extX (HKV.out) (((((Ext.refl w1).alloc _).trans e3).toX _).trans X4) (fun j hj hl => by simp at hj; exact ⟨by show ¬ (j = w1.heap.size); omega, by show w.heap.size ≤ j; omega⟩)
      · exact KvAt.extX (HPV.out) X4 (fun j hj hl => by simp at hj; exact ⟨by show ¬ (j = w1.heap.size); omega, by show w.heap.size ≤ j; omega⟩)
      · exact (((((E1.alloc _).trans e3).toX _).trans X4).toExt (fun j hj => by have hj : j = w1.heap.size := hj; omega))
end Go.Proofs.Ytmimpfenlhfkiaa
