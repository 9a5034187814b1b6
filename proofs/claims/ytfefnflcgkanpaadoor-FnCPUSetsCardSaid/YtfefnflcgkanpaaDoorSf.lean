/-
  spec.Both, impl.CPUSets, smFew.
-/
import Derived.Test.YtfefnflcgkanpaaDoorSd
import Derived.Test.YtfefnflcgkanpaaDoorSe
import Derived.Deep.DeepCutAuto
namespace Go.Proofs.YtfefnflcgkanpaaDoor
open Go.RowKit
set_option linter.unusedSimpArgs false
set_option linter.unusedVariables false

theorem sl_cap {α : Type} {d : Rp α} {w : World} {ok : Nat → Prop} {xs : List α} {A : Option Addr} {n c : Nat} (h : (Rp.slice d).K w ok xs [.slice A n c]) : n = xs.length ∧ xs.length ≤ c ∧ c ≤ maxLen ∧ d.row w ok A xs := by
  obtain ⟨A', c', he, h1, h2, _, h4⟩ := h
  simp only [List.cons.injEq, Value.slice.injEq, and_true] at he
  obtain ⟨rfl, rfl, rfl⟩ := he
  exact ⟨rfl, h1, h2, h4⟩
/-- an append to a slice of the call's own, of whatever can be read -/
theorem run_app_own {α : Type} {P : Program} {d : Rp α} {w : World} {ok2 : Nat → Prop} {base : Nat} (t ty e : TypeId) (i : TypeInfo) (z : Value) (bytes : Nat) (ht : P.underlying t = some (.slice e)) (hi : P.info? e = some i) (hz : i.zero = some z)
    (hsize : i.size = d.sz) (hby : i.bytes = bytes) (hzs : z.cells.size = d.sz) {v : Value} {xs ys : List α} {B : Option Addr} {c : Nat} (hown : OwnP d w any base e v xs) (h2 : (Rp.slice d).K w ok2 ys [.slice B ys.length c]) (hk : ∀ k, ok2 k → some k ≠ v.ownBlock)
    (h63 : xs.length + ys.length ≤ maxLen) (hbytes : (xs.length + ys.length) * bytes ≤ 140737488355328) (hbase : base ≤ w.heap.size) :
    ∃ v' w', (Builtin.append_ #[t, t] ty #[v, .slice B ys.length c]).run P w = .ok v' w' ∧ OwnP d w' any base e v' (xs ++ ys) ∧ w.grownBy w' v.ownBlock := by
  obtain ⟨_, hcy, _, row2⟩ := sl_cap h2
  cases B with
  | none =>
    have hy : ys = [] := by
      by_cases hy : ys = []
      · exact hy
      · obtain ⟨b, o, hb, _⟩ := row2.addr hy; cases hb
    subst hy
    obtain ⟨A', c', he, _, _, h3, _⟩ := h2
    simp only [List.cons.injEq, Value.slice.injEq, and_true] at he
    obtain ⟨rfl, _, rfl⟩ := he
    obtain rfl := h3 rfl
    obtain ⟨h0, cells, hc, hK⟩ := id hown
    refine ⟨v, w, run_append_owned_none w base t ty e i d.sz ht hi v xs.length cells hc, by rw [List.append_nil]; exact hown, ⟨rfl, rfl, rfl, Nat.le_refl _, fun _ _ _ => rfl⟩⟩
  | some a =>
    obtain ⟨news, hl2, hn2, hk2⟩ : ∃ news : List Value, news.length = ys.length * d.sz ∧ (∀ j u, news[j]? = some u → w.cell? (a.add j) = some u) ∧ ∀ i x, ys[i]? = some x → d.K w ok2 x ((news.drop (i * d.sz)).take d.sz) := by
      by_cases hx : ys = []
      · subst hx; exact ⟨[], by simp, by simp, by simp⟩
      · obtain ⟨b, o, hb, _⟩ := row2.addr hx
        simp only [Option.some.injEq] at hb
        subst hb
        exact row2.news rfl
    obtain ⟨v', w', hr, ho, hg, _⟩ := run_app (d := d) t ty e i z bytes ht hi hz hsize hby hzs hown (fun _ _ => trivial) a c news ys hl2 hn2
      (fun i y hy => d.mono (fun b hb => ⟨trivial, hk b hb⟩) (hk2 i y hy)) h63 hbytes hbase
    exact ⟨v', w', hr, ho, hg⟩
section
variable {P : Program} {ops : Array Oper} {rest : List Oper} {o : Oper} {a : Act} {Q : Exit → Act → World → Prop} {w : World}
/-- the walk at an append of which a run is known -/
theorem wpList_run (hgd : o.guard = none) (s x : Operand) (t : TypeId) (ho : o.op = .call { callee := .builtin .append, args := #[s, x], argTypes := #[t, t] }) {vs vx : Value} (hs : a.eval s = vs) (hx : a.eval x = vx) {Φ : Value → World → Prop}
    (hr : ∃ v' w', (Builtin.append_ #[t, t] o.type #[vs, vx]).run P w = .ok v' w' ∧ Φ v' w') (h : ∀ v' w', Φ v' w' → wpList P ops Q rest (a.put o.dst v') w') : wpList P ops Q (o :: rest) a w := by
  obtain ⟨v', w', hr, hf⟩ := hr
  refine wpList_plain hgd fun K hKK => ?_
  unfold Oper.wp execOp
  simp only [ho, resolve, invoke, builtin, Sem.run_bind, Sem.run_pure, Result.andThen_ok, List.map_toArray, List.map_cons, List.map_nil, hs, hx, hr]
  exact hKK _ _ (h v' w' hf)
end
/-- which of two sets' elements are asked for -/
def bothP (a b : List Int) (f s t : Bool) (n : Int) : Bool := if n ∈ a then (if n ∈ b then t else f) else (if n ∈ b then s else false)
def bothL (a b : List Int) (f s t : Bool) : List Int := (rising (a ++ b)).filter (bothP a b f s t)
theorem bothL_asc (a b : List Int) (f s t : Bool) : Asc (bothL a b f s t) := asc_filter (rising_asc _) _
theorem mem_bothL {a b : List Int} {f s t : Bool} {x : Int} : x ∈ bothL a b f s t ↔ (x ∈ a ∨ x ∈ b) ∧ bothP a b f s t x = true := by
  unfold bothL
  rw [List.mem_filter, mem_rising, List.mem_append]
theorem filter_snoc {p : Int → Bool} {l : List Int} {k : Nat} (hk : k < l.length) : (l.take (k + 1)).filter p = (l.take k).filter p ++ if p (l.getD k 0) then [l.getD k 0] else [] := by
  rw [List.take_succ_eq_append_getElem hk, List.filter_append]
  simp only [List.getD_eq_getElem?_getD, List.getElem?_eq_getElem hk, Option.getD_some]
  congr 1
  by_cases h : p l[k] <;> simp [h]
set_option maxRecDepth 20000 in
set_option maxHeartbeats 4000000 in
theorem both_any (a b : List Int) (va vb : Value) (f s t : Bool) (w : World) (ha : (Rp.slice Rp.iv).K w any a [va]) (hb : (Rp.slice Rp.iv).K w any b [vb]) (hna : a.length ≤ 300) (hnb : b.length ≤ 300) :
    Calls Tryd.prog 11 #[va, vb, .bool f, .bool s, .bool t] w fun e w' => ∃ v, e = .returned v ∧ OwnP Rp.iv w' any w.heap.size 3 v (bothL a b f s t) ∧ Ext w w' := by
  have HA := Lib.hid ha
  have HB := Lib.hid hb
  obtain ⟨B, cb, rfl, _, _, _⟩ := slice_shape hb
  have hlb := Lib.hid ((Rp.slice Rp.iv).lt hb)
  clear ha hb
  obtain ⟨i0, hi, hz0, hz1, hz2⟩ := info_parts3 infoI
  go_enter Tryd.func11, Tryd.ntmps11
  go_wp2_with fail
  refine (clone_any a va _ HA.out (by omega)).mono ?_
  rintro e w1 ⟨v1, rfl, hO, e1⟩
  have HO := Lib.hid hO
  have HRUN := Lib.hid (run_app_own (P := Tryd.prog) 22 22 3 i0 _ 8 Tryd.underlying22 hi hz0 hz1 hz2 rfl HO.out ((Rp.slice Rp.iv).ext (fun k hk => e1.2.2.2.2 k hk.2) hlb.out) (fun k hk he => by have h1 := (HO.out.own k he.symm).1; have h2 := hk.2; omega) (by unfold maxLen; omega) (by omega) e1.size)
  obtain ⟨A1, n1, cap1, rfl⟩ := own_shape hO
  clear hO
  go_wp2_with (at_builtin; refine wpList_run rfl (.tmp 17) (.tmp 18) 22 rfl rfl rfl HRUN.out ?_; rintro v2 w2 ⟨own2, g2⟩; have O2 := Lib.hid own2; have G2 := Lib.hid g2; clear own2 g2)
  have G2 := G2
  have E2 : Ext w w2 := ((e1.toX (fun q => some q = Value.ownBlock (.slice A1 n1 cap1))).grown G2.out (fun q h => h.symm)).toExt (fun q hq => (HO.out.own q hq.symm).1)
  refine (rising_any (a ++ b) v2 _ O2.out.slice (by simp; omega)).mono ?_
  rintro e w3 ⟨v3, rfl, hR, e3⟩
  obtain ⟨R, hRl⟩ : ∃ R, R = rising (a ++ b) := ⟨_, rfl⟩
  have hlen : R.length ≤ 600 := by rw [hRl]; exact Nat.le_trans (rising_length _) (by simp; omega)
  rw [← hRl] at hR
  have HRd := Lib.hid hR.slice
  obtain ⟨A3, c3, rfl, _, _, _⟩ := slice_shape hR.slice
  have E3 := E2.trans e3
  replace hRl := Lib.hid hRl
  have hw3 := E3.size
  clear hR E2 e3 e1
  go_wp2_with fail
  go_loopw [11, 22] (fun u11 i wr => ∃ k : Nat, i = .int .i64 k ∧ k ≤ R.length ∧ Hid (OwnP Rp.iv wr (fun j => w3.heap.size ≤ j) w3.heap.size 3 u11 ((R.take k).filter (bothP a b f s t))) ∧ Hid (Ext w3 wr) ∧ Ext w wr) (fun _ i _ => R.length - (intOf i).toNat)
  case atStart => exact ⟨0, rfl, Nat.zero_le _, Lib.hid (OwnP.nil _ _ _ _ _), Lib.hid (Ext.refl _), E3⟩
  case round =>
    rename_i u11 u22
    obtain ⟨k, rfl, hk, hO, h3, hE⟩ := hrel
    obtain ⟨A4, n4, cap4, rfl⟩ := own_shape hO.out
    have hfl : ((R.take k).filter (bothP a b f s t)).length ≤ 600 := Nat.le_trans (List.length_filter_le _ _) (by rw [List.length_take]; omega)
    by_cases hlt : k < R.length
    · obtain ⟨ba, o, rfl, hc0⟩ := iv_at (w' := w3) HRd.out hlt
      have hc := h3.out.cellS hc0
      have hsn := Lib.hid (filter_snoc (p := bothP a b f s t) hlt)
      generalize hxk : R.getD k 0 = x at hc hsn
      clear hc0 hxk
      have HA1 := Lib.hid ((Rp.slice Rp.iv).ext' hE HA.out)
      have HB1 := Lib.hid ((Rp.slice Rp.iv).ext' hE HB.out)
      go_wp2_with fail
      refine (contains_read a va x _ HA1.out).mono ?_
      rintro e w4 ⟨rfl, rfl⟩
      go_wp2_with fail
      refine (contains_read b _ x _ HB1.out).mono ?_
      rintro e w5 ⟨rfl, rfl⟩
      go_upto_region 6 with fail
      have hP : Hid (bothP a b f s t x = if decide (x ∈ a) = true then (if decide (x ∈ b) = true then t else f) else (if decide (x ∈ b) = true then s else false)) := Lib.hid (by unfold bothP; simp only [decide_eq_true_eq])
      generalize decide (x ∈ a) = ia at hP ⊢
      generalize decide (x ∈ b) = ib at hP ⊢
      go_cut [58] (fun u wx => u = .bool (bothP a b f s t x) ∧ wx = w5)
      case first =>
        cases ia <;> cases ib
        · go_wp2_with fail
          go_meet
          exact ⟨congrArg Value.bool hP.out.symm, rfl⟩
        · cases s
          · go_wp2_with fail
            go_meet
            exact ⟨congrArg Value.bool hP.out.symm, rfl⟩
          · go_wp2_with fail
            go_meet
            exact ⟨congrArg Value.bool hP.out.symm, rfl⟩
        · cases f
          · go_wp2_with fail
            go_meet
            exact ⟨congrArg Value.bool hP.out.symm, rfl⟩
          · go_wp2_with fail
            go_meet
            exact ⟨congrArg Value.bool hP.out.symm, rfl⟩
        · cases t
          · go_wp2_with fail
            go_meet
            exact ⟨congrArg Value.bool hP.out.symm, rfl⟩
          · go_wp2_with fail
            go_meet
            exact ⟨congrArg Value.bool hP.out.symm, rfl⟩
      case rest =>
        obtain ⟨rfl, rfl⟩ := hcut
        have hdl : ∀ k, Value.ownBlock (.slice A4 n4 cap4) = some k → w3.heap.size ≤ k := hO.out.1
        replace hdl := Lib.hid hdl
        have hw3r := h3.out.size
        cases hb : bothP a b f s t x with
        | false =>
          have h2 : Hid ((R.take (k + 1)).filter (bothP a b f s t) = (R.take k).filter (bothP a b f s t)) := Lib.hid (by rw [hsn.out, hb]; simp)
          replace hb := Lib.hid hb
          go_wp2_with fail
          go_roundw
          case rel => exact ⟨k + 1, by go_num, by omega, by rw [h2.out]; exact hO, h3, hE⟩
          case measure => simp [intOf]; omega
        | true =>
          have h2 : Hid ((R.take (k + 1)).filter (bothP a b f s t) = (R.take k).filter (bothP a b f s t) ++ [x]) := Lib.hid (by rw [hsn.out, hb]; simp)
          replace hb := Lib.hid hb
          go_wp2_with (at_builtin; refine wpList_app (d := Rp.iv) (base := w3.heap.size) rfl (.tmp 59) (.tmp 61) 22 rfl 3 i0 _ 8 Tryd.underlying22 hi hz0 hz1 hz2 rfl (v := (.slice A4 n4 cap4)) rfl (hO.out.ext ((Ext.refl wc).alloc _)) (fun q hq => by simp at hq; omega) ⟨wc.heap.size, 0, none⟩ 1 [.int .i64 x] [x] rfl rfl (lit_at _ _ _ _ (by simp)) (one_elem (p := fun i y => (Rp.iv).K _ (fun q => (w3.heap.size ≤ q) ∧ some q ≠ Value.ownBlock (.slice A4 n4 cap4)) y (([.int .i64 x].drop (i * (Rp.iv).sz)).take (Rp.iv).sz)) ⟨rfl,trivial⟩) (by simp [maxLen]; omega) (by simp; omega) (by simp; omega) ?_; intro v2 w2 own2 g2 f2; have O2 := Lib.hid own2; have G2 := Lib.hid g2; have F2 := Lib.hid f2; clear own2 g2 f2; obtain ⟨A2, n2, cap2, rfl⟩ := own_shape O2.out; skip)
          have X92 : ExtX (fun q => some q = Value.ownBlock (.slice A4 n4 cap4)) wc w2 := (((Ext.refl wc).alloc _).toX _).grown G2.out (fun q h => h.symm)
          go_wp2_with fail
          go_roundw
          case rel => exact ⟨k + 1, by go_num, by omega, by rw [h2.out]; exact O2, Lib.hid (((h3.out.toX _).trans X92).toExt (fun q hq => hdl.out q hq.symm)), ((hE.toX _).trans X92).toExt (fun q hq => by have := hdl.out q hq.symm; omega)⟩
          case measure => simp [intOf]; omega
    · obtain rfl : k = R.length := by omega
      have hend : Hid ((R.take R.length).filter (bothP a b f s t) = bothL a b f s t) := Lib.hid (by rw [List.take_length, hRl.out]; rfl)
      go_wp2_with fail
      go_ret
      refine ⟨_, rfl, ?_, hE⟩
      have h9 := hO.out.base hw3
      rw [hend.out] at h9
      exact h9
end Go.Proofs.YtfefnflcgkanpaaDoor
