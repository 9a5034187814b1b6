/-
  Bytes that are written (package proto): only how many there are matters.
-/
import Derived.Test.YtmimpfenlhfkiaaOwn
namespace Go.Proofs.Ytmimpfenlhfkiaa
open Go.RowKit
set_option linter.unusedSimpArgs false
set_option linter.unusedVariables false

/-- a byte, whichever -/
def Rp.byte : Rp Unit := ⟨fun _ _ _ cs => ∃ n, cs = [.int .u8 n], 1, by decide, fun h => by obtain ⟨n, rfl⟩ := h; rfl, fun _ h => h, fun _ h => h, fun h => h, fun h u hu => by obtain ⟨n, rfl⟩ := h; rw [List.mem_singleton.1 hu]; rfl⟩
/-- v: n bytes that the call owns -/
def Bytes (w : World) (B : Nat) (v : Value) (n : Nat) : Prop := OwnP Rp.byte w (fun j => B ≤ j) B 5 v (List.replicate n ())
/-- what a write into v leaves -/
def Grew (B : Nat) (v : Value) (n : Nat) (w : World) (e : Ending) (w' : World) : Prop :=
  ∃ v', e = .returned v' ∧ Bytes w' B v' n ∧ ExtX (fun j => some j = v.ownBlock) w w' ∧ (v'.ownBlock = v.ownBlock ∨ ∀ g, v'.ownBlock = some g → w.heap.size ≤ g)
def vlen (n : Nat) : Nat := if h : n < 128 then 1 else 1 + vlen (n / 128)
decreasing_by omega
theorem vlen_small {n : Nat} (h : n < 128) : vlen n = 1 := by rw [vlen]; simp [h]
theorem vlen_big {n : Nat} (h : 128 ≤ n) : vlen n = 1 + vlen (n / 128) := by rw [vlen]; simp; omega
theorem vlen_le (k n : Nat) (h : n < 128 ^ k) : vlen n ≤ max k 1 := by
  induction k generalizing n with
  | zero => have : n = 0 := by simpa using h
            subst this; rw [vlen_small (by omega)]; decide
  | succ k ih =>
    by_cases hn : n < 128
    · rw [vlen_small hn]; omega
    · rw [vlen_big (by omega)]
      have := ih (n / 128) (by rw [Nat.pow_succ] at h; exact Nat.div_lt_of_lt_mul (by rw [Nat.mul_comm]; exact h))
      have hk : k ≠ 0 := by intro hk; subst hk; simp at h; omega
      omega
theorem infoByte : (Try.prog.info? 5).map (fun i => (i.zero, i.size, i.bytes)) = some (some (.int .u8 0), 1, 1) := by kernel_rfl

theorem grew_step {w wr W w2 : World} {v u v2 : Value} (he : ExtX (fun j => some j = v.ownBlock) w wr) (hf : u.ownBlock = v.ownBlock ∨ ∀ g, u.ownBlock = some g → w.heap.size ≤ g) (eA : Ext wr W) (g2 : W.grownBy w2 u.ownBlock)
    (f2 : v2.ownBlock = u.ownBlock ∨ ∀ g, v2.ownBlock = some g → W.heap.size ≤ g) : ExtX (fun j => some j = v.ownBlock) w w2 ∧ (v2.ownBlock = v.ownBlock ∨ ∀ g, v2.ownBlock = some g → w.heap.size ≤ g) := by
  constructor
  · refine he.trans' (M' := fun j => some j = u.ownBlock) ((eA.toX _).grown g2 (fun k h => h.symm)) (fun j hj hu => ?_)
    rcases hf with hf | hf
    · rw [← hf]; exact hu
    · have := hf j hu.symm; omega
  · have h1 := he.size
    have h2 := eA.size
    rcases f2 with f2 | f2
    · rcases hf with hf | hf
      · exact .inl (f2.trans hf)
      · exact .inr fun g hg => hf g (f2 ▸ hg)
    · exact .inr fun g hg => by have := f2 g hg; omega
theorem byte_news {w : World} {ok : Nat → Prop} (x : Int) : ∀ i y, [()][i]? = some y → Rp.byte.K w ok y (([Value.int .u8 x].drop (i * Rp.byte.sz)).take Rp.byte.sz) :=
  one_elem (p := fun i y => Rp.byte.K w ok y (([Value.int .u8 x].drop (i * Rp.byte.sz)).take Rp.byte.sz)) ⟨x, rfl⟩
theorem replicate_snoc (j : Nat) : List.replicate j () ++ [()] = List.replicate (j + 1) () := by rw [List.replicate_succ']

set_option maxHeartbeats 1000000 in
set_option maxRecDepth 20000 in
theorem putVarint (B : Nat) (v : Value) (k n : Nat) (hn : n < 18446744073709551616) (hk : k ≤ 1000000000000) (w : World) (h : Bytes w B v k) (hB : B ≤ w.heap.size) :
    Calls Try.prog 49 #[v, .int .u64 n] w (Grew B v (k + vlen n) w) := by
  obtain ⟨i0, hi, hz0, hz1, hz2⟩ := info_parts infoByte
  have H := Lib.hid h
  have HN := Lib.hid hn
  clear h hn
  go_enter Try.func49, Try.ntmps49
  go_wp2
  go_loopw [0, 1] (fun b i wr => ∃ (m j : Nat), i = .int .u64 m ∧ Hid (m < 18446744073709551616) ∧ Hid (j + vlen m = k + vlen n) ∧ Hid (Bytes wr B b j) ∧ ExtX (fun j => some j = v.ownBlock) w wr ∧ Hid (b.ownBlock = v.ownBlock ∨ ∀ g, b.ownBlock = some g → w.heap.size ≤ g)) (fun _ i _ => (intOf i).toNat)
  case atStart => exact ⟨n, k, rfl, HN, Lib.hid rfl, H, ExtX.refl _ _, Lib.hid (.inl rfl)⟩
  case round =>
    obtain ⟨m, j, rfl, hm, hj, hb, he, hf⟩ := hrel
    have hown : OwnP Rp.byte wr (fun j => B ≤ j) B 5 u0 (List.replicate j ()) := hb.out
    have hB2 : B ≤ wr.heap.size := by have := he.size; omega
    have hjb : j ≤ 1000000000100 := by have := hj.out; have := vlen_le 10 n (by have := HN.out; omega); omega
    have h63 : (List.replicate j ()).length + [()].length ≤ maxLen := by simp [maxLen]; omega
    have hby : ((List.replicate j ()).length + [()].length) * 1 ≤ 140737488355328 := by simp; omega
    clear hb
    by_cases hlt : m < 128
    · go_wp2_with (at_builtin; refine wpList_app (d := Rp.byte) (base := B) rfl (.tmp 15) (.tmp 18) 51 rfl 5 i0 _ 1 Try.underlying51 hi hz0 hz1 hz2 rfl (v := u0) rfl (hown.ext ((Ext.refl wr).alloc _)) (fun j hj => by simp at hj; omega) ⟨wr.heap.size, 0, none⟩ 1 [_] [()] rfl rfl (lit_cells wr _ _) (byte_news _) h63 hby (by simp; omega) ?_; intro v2 w2 own3 g2 f2)
      go_ret
      obtain ⟨E, F⟩ := grew_step he hf.out ((Ext.refl wr).alloc _) g2 f2
      have HJ := hj.out
      rw [vlen_small hlt] at HJ
      refine ⟨v2, rfl, ?_, E, F⟩
      rw [← HJ]
      rw [replicate_snoc] at own3
      exact own3
    · go_wp2_with (at_builtin; refine wpList_app (d := Rp.byte) (base := B) rfl (.tmp 7) (.tmp 11) 51 rfl 5 i0 _ 1 Try.underlying51 hi hz0 hz1 hz2 rfl (v := u0) rfl (hown.ext ((Ext.refl wr).alloc _)) (fun j hj => by simp at hj; omega) ⟨wr.heap.size, 0, none⟩ 1 [_] [()] rfl rfl (lit_cells wr _ _) (byte_news _) h63 hby (by simp; omega) ?_; intro v2 w2 own3 g2 f2)
      obtain ⟨E, F⟩ := grew_step he hf.out ((Ext.refl wr).alloc _) g2 f2
      go_roundw
      case rel =>
        have HJ := hj.out
        rw [vlen_big (by omega)] at HJ
        rw [replicate_snoc] at own3
        exact ⟨m / 128, j + 1, by rw [Int.natCast_ediv]; rfl, Lib.hid (by have := hm.out; omega), Lib.hid (by omega), Lib.hid own3, E, Lib.hid F⟩
      case measure => simp [intOf]; omega

theorem grew_trans {w w1 w2 : World} {v v1 v2 : Value} (E1 : ExtX (fun j => some j = v.ownBlock) w w1) (F1 : v1.ownBlock = v.ownBlock ∨ ∀ g, v1.ownBlock = some g → w.heap.size ≤ g)
    (E2 : ExtX (fun j => some j = v1.ownBlock) w1 w2) (F2 : v2.ownBlock = v1.ownBlock ∨ ∀ g, v2.ownBlock = some g → w1.heap.size ≤ g) :
    ExtX (fun j => some j = v.ownBlock) w w2 ∧ (v2.ownBlock = v.ownBlock ∨ ∀ g, v2.ownBlock = some g → w.heap.size ≤ g) := by
  have hs := E1.size
  constructor
  · refine E1.trans' E2 (fun j hj hu => ?_)
    rcases F1 with hf | hf
    · rw [← hf]; exact hu
    · have := hf j hu.symm; omega
  · rcases F2 with f2 | f2
    · rcases F1 with hf | hf
      · exact .inl (f2.trans hf)
      · exact .inr fun g hg => hf g (f2 ▸ hg)
    · exact .inr fun g hg => by have := f2 g hg; omega

theorem putVarint' (B : Nat) (v : Value) (k n : Nat) (x : Int) (hx : x = n) (hn : n < 18446744073709551616) (hk : k ≤ 1000000000000) (w : World) (h : Bytes w B v k) (hB : B ≤ w.heap.size) :
    Calls Try.prog 49 #[v, .int .u64 x] w (Grew B v (k + vlen n) w) := by subst hx; exact putVarint B v k n hn hk w h hB

/-- how many bytes a field that is a number has (its own number below 16) -/
def ilen (n : Int) : Nat := if n = 0 then 0 else 1 + vlen (n % 18446744073709551616).toNat

set_option maxHeartbeats 1000000 in
set_option maxRecDepth 20000 in
theorem putInt (B : Nat) (v : Value) (k f : Nat) (n : Int) (hf : f < 16) (hk : k ≤ 900000000000) (w : World) (h : Bytes w B v k) (hB : B ≤ w.heap.size) :
    Calls Try.prog 46 #[v, .int .i64 f, .int .i64 n] w (Grew B v (k + ilen n) w) := by
  have H := Lib.hid h
  clear h
  by_cases hn : n = 0
  · subst hn
    go_enter Try.func46, Try.ntmps46
    go_wp2
    go_ret
    exact ⟨v, rfl, H.out, ExtX.refl _ _, .inl rfl⟩
  · have hn0 : (n == 0) = false := by simpa using hn
    go_enter Try.func46, Try.ntmps46
    go_wp2_with fail
    refine (putVarint' B v k (f * 8) _ (by omega) (by omega) (by omega) w H.out hB).mono ?_
    rintro e w1 ⟨v1, rfl, h1, E1, F1⟩
    rw [vlen_small (by omega)] at h1
    have s1 := E1.size
    have H1 := Lib.hid h1
    have HF1 := Lib.hid F1
    clear h1 F1
    go_wp2_with fail
    refine (putVarint' B v1 (k + 1) (n % 18446744073709551616).toNat _ ?_ ?_ (by omega) w1 H1.out (by omega)).mono ?_
    · rw [IntKind.wrap_u64]; omega
    · omega
    rintro e w2 ⟨v2, rfl, h2, E2, F2⟩
    obtain ⟨E, F⟩ := grew_trans E1 HF1.out E2 F2
    go_wp2
    go_ret
    refine ⟨v2, rfl, ?_, E, F⟩
    rw [ilen, if_neg hn, ← Nat.add_assoc]
    exact h2

theorem or2 (f : Nat) (hf : f < 16) : bits BinOp.or IntKind.u64 ((f : Int) * 8) 2 = ((f * 8 + 2 : Nat) : Int) := by
  have h : ∀ f : Fin 16, bits BinOp.or IntKind.u64 (((f : Nat) : Int) * 8) 2 = (((f : Nat) * 8 + 2 : Nat) : Int) := by decide +kernel
  exact h ⟨f, hf⟩

theorem addr_add (b o j : Nat) : (⟨b, o, none⟩ : Addr).add j = ⟨b, o + j, none⟩ := by unfold Addr.add; split <;> simp_all

/-- how many bytes a field of n bytes has (its own number below 16) -/
def blen (n : Nat) : Nat := 1 + vlen n + n

set_option maxHeartbeats 1000000 in
set_option maxRecDepth 20000 in
theorem putBytes (B : Nat) (v : Value) (k f n c : Nat) (A : Option Addr) (hf : f < 15) (hk : k ≤ 800000000000) (hn : n ≤ 10000000000) (w : World) (h : Bytes w B v k) (hB : B ≤ w.heap.size)
    (hs : (Rp.slice Rp.byte).K w (fun j => some j ≠ v.ownBlock) (List.replicate n ()) [.slice A n c]) :
    Calls Try.prog 44 #[v, .int .i64 f, .slice A n c] w (Grew B v (k + blen n) w) := by
  have H := Lib.hid h
  have HS := Lib.hid hs
  clear h hs
  go_enter Try.func44, Try.ntmps44
  obtain ⟨i0, hi, hz0, hz1, hz2⟩ := info_parts infoByte
  go_wp2_with fail
  refine (putVarint' B v k (f * 8 + 2) _ (or2 f (by omega)) (by omega) (by omega) w H.out hB).mono ?_
  rintro e w1 ⟨v1, rfl, h1, E1, F1⟩
  rw [vlen_small (by omega)] at h1
  have s1 := E1.size
  have H1 := Lib.hid h1
  have HF1 := Lib.hid F1
  clear h1 F1
  go_wp2_with fail
  refine (putVarint' B v1 (k + 1) n _ ?_ (by omega) (by omega) w1 H1.out (by omega)).mono ?_
  · rfl
  rintro e w2 ⟨v2, rfl, h2, E2, F2⟩
  obtain ⟨E, F⟩ := grew_trans E1 HF1.out E2 F2
  have s2 := E.size
  cases A with
  | none =>
    have hn0 : n = 0 := by
      obtain ⟨A', c', hv, p1, p2, p3, _⟩ := HS.out
      simp at hv p1
      obtain ⟨rfl, _, rfl⟩ := hv
      have := p3 rfl
      omega
    subst hn0
    rcases OwnP.form h2 with ⟨_, hnil⟩ | ⟨g, cap, rfl, _, hc1, _⟩
    · exact absurd (congrArg List.length hnil) (by simp)
    rw [List.length_replicate] at hc1 ⊢
    have HF := Lib.hid F
    have H2 := Lib.hid h2
    clear F F2 h2
    go_wp2
    go_ret
    refine ⟨_, rfl, ?_, E, HF.out⟩
    have := H2.out
    rw [List.length_replicate] at this
    rw [show k + blen 0 = k + 1 + vlen 0 by unfold blen; omega]
    exact this
  | some ad =>
    obtain ⟨news, hnl, hnn, hK⟩ : ∃ news : List Value, news.length = (List.replicate n ()).length * Rp.byte.sz ∧ (∀ j u, news[j]? = some u → w2.cell? (ad.add j) = some u) ∧
        ∀ i y, (List.replicate n ())[i]? = some y → Rp.byte.K w2 (fun b => B ≤ b ∧ some b ≠ v2.ownBlock) y ((news.drop (i * Rp.byte.sz)).take Rp.byte.sz) := by
      obtain ⟨A', c', hv, p1, p2, p3, hrow⟩ := HS.out
      simp only [List.cons.injEq, Value.slice.injEq, and_true] at hv
      obtain ⟨rfl, _, rfl⟩ := hv
      by_cases hn0 : n = 0
      · subst hn0
        exact ⟨[], by simp, fun j u hu => by simp at hu, fun i y hy => by simp at hy⟩
      · obtain ⟨b, o, hA, hb⟩ := hrow.addr (by simpa using hn0)
        obtain rfl := Option.some.inj hA
        obtain ⟨news, q1, q2, q3⟩ := hrow.news rfl
        refine ⟨news, q1, fun j u hu => ?_, fun i y hy => q3 i y hy⟩
        have := q2 j u hu
        rw [addr_add] at this ⊢
        exact E.cellS hb this
    have HNN := Lib.hid hnn
    have HKK := Lib.hid hK
    have HF := Lib.hid F
    clear hnn hK F F2
    have h2' : OwnP Rp.byte w2 (fun j => B ≤ j) B 5 v2 (List.replicate (k + 1 + vlen n) ()) := h2
    have hvl : vlen n ≤ 10 := vlen_le 10 n (by omega)
    have h63 : (List.replicate (k + 1 + vlen n) ()).length + (List.replicate n ()).length ≤ maxLen := by simp [maxLen]; omega
    have hby : ((List.replicate (k + 1 + vlen n) ()).length + (List.replicate n ()).length) * 1 ≤ 140737488355328 := by simp; omega
    go_wp2_with (at_builtin; refine wpList_app (d := Rp.byte) (base := B) rfl (.tmp 18) (.tmp 19) 51 rfl 5 i0 _ 1 Try.underlying51 hi hz0 hz1 hz2 rfl (v := v2) rfl h2' (fun j hj => by omega) ad c news (List.replicate n ()) (by simp; rfl) hnl HNN.out HKK.out h63 hby (by omega) ?_; intro v3 w3 own3 g3 f3)
    go_ret
    obtain ⟨E', F'⟩ := grew_trans E HF.out ((ExtX.refl _ w2).grown g3 (fun j hj => hj.symm)) f3
    refine ⟨v3, rfl, ?_, E', F'⟩
    rw [List.replicate_append_replicate, show k + 1 + vlen n + n = k + blen n by unfold blen; omega] at own3
    exact own3
end Go.Proofs.Ytmimpfenlhfkiaa
