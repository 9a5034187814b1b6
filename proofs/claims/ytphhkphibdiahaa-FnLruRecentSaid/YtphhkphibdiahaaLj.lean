/-
  A new cache.
-/
import Derived.Test.YtphhkphibdiahaaLi
import Derived.Handy
import Derived.Laws.EntriesVeiled
import Derived.Maps.OwnOps
namespace Go.Proofs.Ytphhkphibdiahaa
open Go.RowKit
set_option linter.unusedSimpArgs false
set_option linter.unusedVariables false

set_option maxRecDepth 20000 in
set_option maxHeartbeats 1000000 in
theorem newG_any (size : Int) (w : World) :
    Calls Try.prog 59 #[.int .i64 size] w fun r w' => ∃ g l m, r = .returned (pv g) ∧ w.heap.size ≤ g ∧ w.heap.size ≤ l ∧ w.heap.size ≤ m ∧ Blk w' g 73 [.int .i64 size, .nilFunc, pv l, .map (some m)] ∧ LSt w' l [] ∧ MapL kI w' m [] ∧ Ext w w' := by
  have hmm := @run_makeMap Try.prog
  go_enter Try.func59, Try.ntmps59
  go_wp2_with fail
  refine (newList_any w).mono ?_
  rintro r w1 ⟨l, rfl, hl, l1, e1⟩
  have L1 := Lib.hid l1
  have E1 := Lib.hid e1
  have HL := Lib.hid hl
  clear l1 e1 hl
  go_wp2_with fail
  go_ret
  have e2 : Ext w1 (w1.alloc (.map #[] 0)) := (Ext.refl _).alloc _
  have e3 : Ext w1 ((w1.alloc (.map #[] 0)).alloc (.cells #[.int .i64 size, .nilFunc, pv l, .map (some w1.heap.size)] 73)) := e2.alloc _
  have hs := E1.out.size
  refine ⟨_, l, w1.heap.size, rfl, by omega, by rw [HL.out]; exact Nat.le_refl _, hs, blk_at _ _ _ _ (by simp), L1.out.ext e3, (MapL.new w1).ext ((Ext.refl _).alloc _), E1.out.trans e3⟩
set_option maxRecDepth 20000 in
set_option maxHeartbeats 1000000 in
theorem newU_any (ok : Nat → Prop) (gb : Nat) (size : Int) (w : World) (hg : ok gb) (hb : Blk w gb 43 [.slice none 0 0]) (hok : ∀ k, w.heap.size ≤ k → ok k) :
    Calls Try.prog 14 #[.int .i64 size, fnV gb] w fun r w' => ∃ c g, r = .returned (pv c) ∧ LU w' ok c g gb size [] [] ∧ Ext w w' := by
  have HB := Lib.hid hb
  have hgl := hb.lt
  clear hb
  go_enter Try.func14, Try.ntmps14
  go_wp2_with (first | (go_at_call 33; go_in) | fail)
  refine (newG_any size w).mono ?_
  rintro r w1 ⟨g, l, m, rfl, hg1, hl1, hm1, k1, l1, m1, e1⟩
  have K1 := Lib.hid k1
  have L1 := Lib.hid l1
  have M1 := Lib.hid m1
  have E1 := Lib.hid e1
  have EA : Ext w1 (w1.alloc (.cells #[pv g] 78)) := (Ext.refl _).alloc _
  have KA := k1.ext EA
  have a1 := KA.cell (o := 1) rfl
  have f1 := KA.frozen 1
  clear k1 l1 m1 e1
  go_wp2_with fail
  go_ret
  have hs := E1.out.size
  have hgw := K1.out.lt
  have XS : ExtX (fun k => k = g) (w1.alloc (.cells #[pv g] 78)) ((w1.alloc (.cells #[pv g] 78)).setCell ⟨g, 1, none⟩ (fnV gb)) := setC_E _ g 1 _
  have HE : Ext w ((w1.alloc (.cells #[pv g] 78)).setCell ⟨g, 1, none⟩ (fnV gb)) := (((E1.out.trans EA).toX _).trans XS).toExt (fun k hk => by have hk : k = g := hk; omega)
  refine ⟨_, g, rfl, ⟨hok _ hs, (blk_at _ _ _ _ rfl).extX XS (by show w1.heap.size ≠ g; omega), ⟨.slice none 0 0, ⟨⟨hg, by omega⟩, HB.out.ext HE, OwnP.nil _ _ _ _ _⟩, .inl ⟨l, m, [], ?_⟩⟩⟩, HE⟩
  have hlg : l ≠ g := fun e => by
    obtain ⟨n, p, k⟩ := L1.out.lst
    rw [e] at k
    exact absurd (k.inj K1.out) (by decide)
  have hmg : m ≠ g := fun e => by
    have h1 := M1.out
    rw [e] at h1
    exact h1.noBlk K1.out
  have hll := L1.out.lt (b := l) (.inl rfl)
  have hml := M1.out.lt
  exact
    { G := KA.setCell 1 (fnV gb)
      L := (L1.out.ext EA).extX XS hlg (fun y hy => by simp at hy)
      E := fun y hy => by simp at hy
      M := (M1.out.ext EA).extX XS hmg
      mo := fun k u => by simp
      nk := by simp
      nt := by simp
      og := ⟨hok g hg1, by omega⟩
      ol := ⟨hok l hl1, by omega⟩
      om := ⟨hok m hm1, by omega⟩
      oi := fun y hy => by simp at hy }
end Go.Proofs.Ytphhkphibdiahaa
