/-
  cpuset: New, add, Size, IsEmpty, Contains.
-/
import Derived.Test.YtfefnflcgkanpaaGreatDoorOwn
import Derived.Test.YtfefnflcgkanpaaGreatDoorHeap
import Derived.Test.YtfefnflcgkanpaaGreatDoorSt
import Derived.Handy
import Derived.Deep.LoopGhost
import Derived.Carry
namespace Go.Proofs.YtfefnflcgkanpaaGreatDoor
open Go.RowKit
set_option linter.unusedSimpArgs false
set_option linter.unusedVariables false

theorem info_parts3 {P : Program} {t : TypeId} {z : Value} {n m : Nat} (h : (P.info? t).map (fun i => (i.zero, i.size, i.bytes)) = some (some z, n, m)) : ∃ i, P.info? t = some i ∧ i.zero = some z ∧ i.size = n ∧ i.bytes = m := by
  cases hi : P.info? t with
  | none => rw [hi] at h; cases h
  | some i =>
    rw [hi] at h
    simp only [Option.map_some, Option.some.injEq, Prod.mk.injEq] at h
    exact ⟨i, rfl, h.1, h.2.1, h.2.2⟩
theorem take_snoc' {α : Type} {xs : List α} {k : Nat} {x : α} (h : xs[k]? = some x) : xs.take (k + 1) = xs.take k ++ [x] := by
  rw [List.take_add_one, h]; rfl
theorem lit_at (W : World) (T : TypeId) (cs : List Value) (b : Nat) (hb : b = W.heap.size) : ∀ j u, cs[j]? = some u → (W.alloc (.cells cs.toArray T)).cell? ((⟨b, 0, none⟩ : Addr).add j) = some u := by
  subst hb
  exact lit_cells W T cs
theorem blk_at (W : World) (T : TypeId) (cs : List Value) (b : Nat) (hb : b = W.heap.size) : Blk (W.alloc (.cells cs.toArray T)) b T cs := by
  subst hb
  exact Blk.new W T cs
/-- behind an append to a slice of the call's own -/
theorem ext_app {w wr wa w2 : World} {v : Value} (hE : Ext w wr) (ha : Ext wr wa) (hown : ∀ k, v.ownBlock = some k → w.heap.size ≤ k) (g : wa.grownBy w2 v.ownBlock) : Ext w w2 :=
  ((hE.toX (fun q => some q = v.ownBlock)).trans ((ha.toX (fun q => some q = v.ownBlock)).grown g (fun q h => h.symm))).toExt (fun q hq => hown q hq.symm)
theorem own_shape {α : Type} {d : Rp α} {w : World} {ok : Nat → Prop} {base : Nat} {e : TypeId} {v : Value} {xs : List α} (h : OwnP d w ok base e v xs) : ∃ A n cap, v = .slice A n cap := by
  obtain ⟨A, cap, h, _⟩ := h.shape
  exact ⟨A, _, cap, h⟩
def Rp.flat {α : Type} (f : α → List Value) (n : Nat) (hn : 0 < n) (hl : ∀ a, (f a).length = n) (h1 : ∀ a, (f a).all (·.oneCell') = true) (ok : α → Prop) : Rp α where
  K _ _ a cs := cs = f a ∧ ok a
  sz := n
  pos := hn
  len := by rintro w o a cs ⟨rfl, _⟩; exact hl a
  ext := by rintro w w' o a cs _ h; exact h
  mono := by rintro w o o' a cs _ h; exact h
  lt := by rintro w o a cs h; exact h
  one := by rintro w o a cs ⟨rfl, _⟩ u hu; exact List.all_eq_true.1 (h1 a) u hu
theorem flat_at {α : Type} {f : α → List Value} {n : Nat} {hn : 0 < n} {hl : ∀ a, (f a).length = n} {h1 : ∀ a, (f a).all (·.oneCell') = true} {p : α → Prop} {w wr : World} {ok : Nat → Prop} {A : Option Addr} {xs : List α} (h : (Rp.flat f n hn hl h1 p).row w ok A xs) {b o : Nat} (hA : A = some ⟨b, o, none⟩)
    {k : Nat} {x : α} (hx : xs[k]? = some x) (he : Ext w wr) : p x ∧ ∀ j v, (f x)[j]? = some v → wr.cell? ⟨b, o + (k * n + j), none⟩ = some v := by
  obtain ⟨cs, hl', hK, hc⟩ := h.at hA hx
  obtain ⟨rfl, hw⟩ : cs = f x ∧ p x := hK
  refine ⟨hw, fun j v hv => he.cellS ?_⟩
  have hj : j < n := by have := (List.getElem?_eq_some_iff.1 hv).1; rw [hl] at this; exact this
  exact (hc j hj).trans hv

/-- a number -/
def Rp.iv : Rp Int := Rp.flat (fun n => [.int .i64 n]) 1 (by decide) (fun _ => rfl) (fun _ => rfl) (fun _ => True)
/-- the cells of a slice that is read -/
theorem cells_of {w : World} {ok : Nat → Prop} {xs : List Int} {b o n cap : Nat} (h : (Rp.slice Rp.iv).K w ok xs [.slice (some ⟨b, o, none⟩) n cap]) : n = xs.length ∧ ∀ j, j < xs.length → w.cell? ⟨b, o + j, none⟩ = some (.int .i64 (xs.getD j 0)) := by
  obtain ⟨A, c, hv, h1, h2, h3, hrow⟩ := h
  simp only [List.cons.injEq, Value.slice.injEq, and_true] at hv
  obtain ⟨rfl, rfl, rfl⟩ := hv
  refine ⟨rfl, fun j hj => ?_⟩
  obtain ⟨cs, hl, hK, hc⟩ := hrow.at rfl (List.getElem?_eq_getElem hj)
  obtain ⟨rfl, _⟩ := hK
  have := hc 0 (Nat.lt_succ_self 0)
  rw [show o + j = o + (j * Rp.iv.sz + 0) by show o + j = o + (j * 1 + 0); omega]
  rw [show (xs.getD j 0) = xs[j] by simp [hj]]
  exact this
/-- a slice that is read, by its shape -/
theorem slice_shape {α : Type} {d : Rp α} {w : World} {ok : Nat → Prop} {xs : List α} {v : Value} (h : (Rp.slice d).K w ok xs [v]) : ∃ A cap, v = .slice A xs.length cap ∧ xs.length ≤ cap ∧ cap ≤ maxLen ∧ (xs ≠ [] → ∃ b o, A = some ⟨b, o, none⟩) := by
  obtain ⟨A, cap, hv, h1, h2, h3, hrow⟩ := h
  simp only [List.cons.injEq, and_true] at hv
  refine ⟨A, cap, hv, h1, h2, fun hn => ?_⟩
  obtain ⟨b, o, rfl, _⟩ := hrow.addr hn
  exact ⟨b, o, rfl⟩
/-- one of the numbers of a slice -/
theorem iv_at {w w' : World} {ok : Nat → Prop} {xs : List Int} {A : Option Addr} {n cap k : Nat} (h : (Rp.slice Rp.iv).K w ok xs [.slice A n cap]) (hk : k < xs.length) : ∃ b o, A = some ⟨b, o, none⟩ ∧ w.cell? ⟨b, o + k, none⟩ = some (.int .i64 (xs.getD k 0)) := by
  obtain ⟨A2, c2, hv, _, _, h4⟩ := slice_shape h
  obtain ⟨b, o, hA⟩ := h4 (List.ne_nil_of_length_pos (by omega))
  simp only [Value.slice.injEq] at hv
  obtain ⟨rfl, rfl, rfl⟩ := hv
  subst hA
  exact ⟨b, o, rfl, (cells_of h).2 k hk⟩

theorem nil_iv (w : World) (ok : Nat → Prop) : (Rp.slice Rp.iv).K w ok [] [.slice none 0 0] := ⟨none, 0, rfl, Nat.le_refl _, by decide, fun _ => rfl, fun i x hx => by simp at hx⟩
theorem keyI : KeyCls Tryz.prog 3 (Value.int .i64) := KeyCls.int Tryz.underlying3
abbrev SetI (w : World) (b : Nat) (ks : List Int) : Prop := MapL (Value.int .i64) w b (ks.map unitP)
theorem SetI.nodup {w : World} {b : Nat} {ks : List Int} (h : SetI w b ks) : ks.Nodup := by have := MapL.nodup h; rwa [unit_keys] at this
abbrev setV (b : Nat) : Value := .agg #[.map (some b)]
theorem zeroUnit (w : World) : (zeroValue 71).run Tryz.prog w = .ok (.agg #[]) w := by kernel_rfl
def insAll (ks xs : List Int) : List Int := xs.foldl insk ks
theorem insAll_snoc {ks xs : List Int} {k : Nat} (hk : k < xs.length) : insAll ks (xs.take (k + 1)) = insk (insAll ks (xs.take k)) (xs.getD k 0) := by
  unfold insAll
  rw [List.take_succ_eq_append_getElem hk, List.foldl_append]
  simp [hk]
theorem mem_insAll : ∀ {xs ks : List Int} {x : Int}, x ∈ insAll ks xs ↔ x ∈ ks ∨ x ∈ xs
  | [], ks, x => by simp [insAll]
  | y :: xs, ks, x => by
    have := mem_insAll (xs := xs) (ks := insk ks y) (x := x)
    rw [mem_insk] at this
    simp only [insAll, List.foldl_cons, List.mem_cons] at this ⊢
    rw [this, or_assoc]
set_option maxRecDepth 20000 in
set_option maxHeartbeats 1000000 in
theorem add_any (b : Nat) (ks xs : List Int) (v : Value) (w : World) (H : SetI w b ks) (hx : (Rp.slice Rp.iv).K w (fun k => k ≠ b) xs [v]) :
    Calls Tryz.prog 34 #[setV b, v] w fun e w' => e = .returned (.tuple #[]) ∧ SetI w' b (insAll ks xs) ∧ ExtX (fun k => k = b) w w' := by
  obtain ⟨A, cap, rfl, hl, hc, hA⟩ := slice_shape hx
  have HX := Lib.hid hx
  have HS := Lib.hid H
  have hbl : b < w.heap.size := H.lt
  have hN : xs.length ≤ 9223372036854775807 := Nat.le_trans hl hc
  clear H hx hA
  go_enter Tryz.func34, Tryz.ntmps34
  go_wp2_with fail
  go_loopw [8] (fun i wr => ∃ k : Nat, i = .int .i64 k ∧ k ≤ xs.length ∧ Hid (SetI wr b (insAll ks (xs.take k))) ∧ Hid (Blk wr w.heap.size 41 [.map (some b)]) ∧ ExtX (fun k => k = b) w wr) (fun i _ => xs.length - (intOf i).toNat)
  case atStart => exact ⟨0, rfl, Nat.zero_le _, Lib.hid (HS.out.ext ((Ext.refl w).alloc _)), Lib.hid (Blk.new w _ _), ((Ext.refl w).alloc _).toX _⟩
  case round =>
    obtain ⟨k, rfl, hk, hS, hB, hE⟩ := hrel
    have c0 := hB.out.cell (o := 0) rfl
    by_cases hlt : k < xs.length
    · obtain ⟨ba, o, rfl, hc0⟩ := iv_at (w' := w) HX.out hlt
      have hbb : ba ≠ b := by
        obtain ⟨A3, c3, hv3, _, _, _, hrow⟩ := HX.out
        simp only [List.cons.injEq, Value.slice.injEq, and_true] at hv3
        obtain ⟨rfl, _, rfl⟩ := hv3
        obtain ⟨b4, o4, hb4, h4⟩ := hrow.addr (List.ne_nil_of_length_pos (by omega))
        simp only [Option.some.injEq, Addr.mk.injEq] at hb4
        rw [hb4.1]; exact h4
      have hc := hE.cellS (p := ⟨ba, o + k, none⟩) (fun h => hbb h) hc0
      generalize hxk : xs.getD k 0 = x at hc
      replace hxk := Lib.hid hxk
      clear hc0
      obtain ⟨w2, hput, hM, hX, hs⟩ := hS.out.put keyI Tryz.underlying39 x (.agg #[])
      have hS2 : Hid (SetI w2 b (insAll ks (xs.take (k + 1)))) := Lib.hid (by rw [aput_unit] at hM; rw [insAll_snoc hlt, hxk.out]; exact hM)
      clear hM hs
      go_wp2_with fail
      go_roundw
      case rel => exact ⟨k + 1, by go_num, by omega, hS2, Lib.hid (hB.out.extX hX (fun h => by have h : w.heap.size = b := h; omega)), hE.trans hX⟩
      case measure => simp [intOf]; omega
    · obtain rfl : k = xs.length := by omega
      go_wp2_with fail
      go_end0
      exact ⟨rfl, by have := hS.out; rwa [List.take_length] at this, hE⟩
/-- one number in a slice of its own -/
theorem one_iv (w : World) (x : Int) {ok : Nat → Prop} (h : ok w.heap.size) : (Rp.slice Rp.iv).K (w.alloc (.cells #[.int .i64 x] 3)) ok [x] [.slice (some ⟨w.heap.size, 0, none⟩) 1 1] :=
  slice_of_blk (d := Rp.iv) (cap := 1) (xs := [x]) (Blk.new w 3 [.int .i64 x]) h (show 1 * 1 ≤ 1 by decide) (fun i y hy => by
    obtain ⟨hi, rfl⟩ := List.getElem?_eq_some_iff.1 hy
    obtain rfl : i = 0 := by simp at hi; omega
    exact ⟨rfl, trivial⟩) (Nat.le_refl _) (by decide)
theorem insAll_one (ks : List Int) (x : Int) : insAll ks [x] = insk ks x := rfl
theorem SetI.newAt (w : World) {m : Nat} (h : m = w.heap.size) : SetI (w.alloc (.map #[] 0)) m [] := by rw [h]; exact MapL.new w
set_option maxRecDepth 20000 in
set_option maxHeartbeats 1000000 in
theorem new_any (xs : List Int) (v : Value) (w : World) (hx : (Rp.slice Rp.iv).K w any xs [v]) :
    Calls Tryz.prog 24 #[v] w fun e w' => ∃ b, e = .returned (setV b) ∧ w.heap.size ≤ b ∧ SetI w' b (insAll [] xs) ∧ Ext w w' := by
  obtain ⟨A, cap, rfl, hl, hc, hA⟩ := slice_shape hx
  have HX := Lib.hid hx
  have hmm := @run_makeMap Tryz.prog
  have hN : xs.length ≤ 9223372036854775807 := Nat.le_trans hl hc
  clear hx hA
  go_enter Tryz.func24, Tryz.ntmps24
  go_wp2_with fail
  go_loopw [10] (fun i wr => ∃ k : Nat, i = .int .i64 k ∧ k ≤ xs.length ∧ Hid (SetI wr (w.heap.size + 1) (insAll [] (xs.take k))) ∧ Hid (Blk wr w.heap.size 41 [.map none]) ∧ Hid (Blk wr (w.heap.size + 1 + 1) 41 [.map (some (w.heap.size + 1))]) ∧ Ext w wr) (fun i _ => xs.length - (intOf i).toNat)
  case atStart =>
    have b0 := Blk.new w 41 [.map none]
    have e1 := (Ext.refl (w.alloc (.cells #[.map none] 41))).alloc (.map #[] 0)
    have s0 : w.heap.size + 1 = (w.alloc (.cells #[.map none] 41)).heap.size := (World.size_alloc _ _).symm
    have m0 := SetI.newAt (w.alloc (.cells #[.map none] 41)) s0
    exact ⟨0, rfl, Nat.zero_le _, Lib.hid (MapL.ext m0 ((Ext.refl _).alloc _)), Lib.hid (b0.ext (e1.alloc _)), Lib.hid (blk_at _ _ _ _ (by simp only [World.size_alloc])), (((Ext.refl w).alloc _).alloc _).alloc _⟩
  case round =>
    obtain ⟨k, rfl, hk, hS, hB, hC, hE⟩ := hrel
    have c0 := hC.out.cell (o := 0) rfl
    have c1 := hB.out.cell (o := 0) rfl
    have f1 := hB.out.frozen 0
    have s1 := hC.out.lt
    by_cases hlt : k < xs.length
    · obtain ⟨ba, o, rfl, hc0⟩ := iv_at (w' := w) HX.out hlt
      have hc := hE.cellS hc0
      generalize hxk : xs.getD k 0 = x at hc
      replace hxk := Lib.hid hxk
      clear hc0
      go_wp2_with fail
      refine (add_any (w.heap.size + 1) (insAll [] (xs.take k)) [x] _ _ (hS.out.ext ((Ext.refl wr).alloc _)) (one_iv wr x (by omega))).mono ?_
      rintro e w2 ⟨rfl, h2, x2⟩
      have hS2 : Hid (SetI w2 (w.heap.size + 1) (insAll [] (xs.take (k + 1)))) := Lib.hid (by rw [insAll_snoc hlt, hxk.out]; exact h2)
      have X2 : ExtX (fun k => k = w.heap.size + 1) wr w2 := (((Ext.refl wr).alloc _).toX _).trans x2
      clear h2 x2
      go_wp2_with fail
      go_roundw
      case rel => exact ⟨k + 1, by go_num, by omega, hS2, Lib.hid (hB.out.extX X2 (fun h => by have h : w.heap.size = w.heap.size + 1 := h; omega)), Lib.hid (hC.out.extX X2 (fun h => by have h : w.heap.size + 1 + 1 = w.heap.size + 1 := h; omega)), ((hE.toX _).trans X2).toExt (fun k hk => by have hk : k = w.heap.size + 1 := hk; omega)⟩
      case measure => simp [intOf]; omega
    · obtain rfl : k = xs.length := by omega
      go_wp2_with fail
      have K5 := hB.out.setCell 0 (.map (some (w.heap.size + 1)))
      refine bodyPost_ret (results_cell_row rfl _ _ w.heap.size _ _ (0, 0) _ rfl K5 Tryz.underlying41 rfl rfl) rfl ?_
      have X2 : ExtX (fun k => k = w.heap.size) wr (wr.setCell ⟨w.heap.size, 0, none⟩ (.map (some (w.heap.size + 1)))) := (ExtX.refl (fun k => k = w.heap.size) wr).setCell (p := ⟨w.heap.size, 0, none⟩) rfl _
      refine ⟨_, rfl, by omega, ?_, ((hE.toX _).trans X2).toExt (fun k hk => by have hk : k = w.heap.size := hk; omega)⟩
      have := hS.out
      rw [List.take_length] at this
      exact this.extX X2 (fun h => by have h : w.heap.size + 1 = w.heap.size := h; omega)
end Go.Proofs.YtfefnflcgkanpaaGreatDoor
