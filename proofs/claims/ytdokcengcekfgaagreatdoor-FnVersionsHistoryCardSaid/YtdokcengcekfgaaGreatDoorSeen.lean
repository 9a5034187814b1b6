/-
  What is seen behind a step (spec.VerSeen).
-/
import Derived.Test.YtdokcengcekfgaaGreatDoorSCan
import Derived.Test.YtdokcengcekfgaaGreatDoorStorage
namespace Go.Proofs.YtdokcengcekfgaaGreatDoor
open Go.RowKit
set_option linter.unusedSimpArgs false
set_option linter.unusedVariables false

theorem str_take {α : Type} {d : Rp α} {w : World} {ok : Nat → Prop} {xs : List α} {A : Option Addr} {n c : Nat} (h : (Rp.slice d).K w ok xs [.slice A n c]) (j : Nat) (hj : j ≤ n) : (Rp.slice d).K w ok (xs.take j) [.slice A j c] := by
  obtain ⟨A', c', hv, h1, h2, h3, h4⟩ := h
  simp only [List.cons.injEq, Value.slice.injEq, and_true] at hv
  obtain ⟨rfl, rfl, rfl⟩ := hv
  have hl : (xs.take j).length = j := by rw [List.length_take]; omega
  refine ⟨A, c, by rw [hl], by omega, h2, h3, fun i x hx => ?_⟩
  have hi : i < j := by have := (List.getElem?_eq_some_iff.1 hx).1; omega
  rw [List.getElem?_take_of_lt hi] at hx
  exact h4 i x hx
theorem own_void {α : Type} {d : Rp α} {w : World} {ok : Nat → Prop} {base g : Nat} {e : TypeId} (h : Blk w g e []) (hok : ok g) (hb : base ≤ g) : OwnP d w ok base e (.slice (some ⟨g, 0, none⟩) 0 0) [] := by
  refine ⟨fun q hq => ?_, [], ⟨by simp, .inr ⟨g, 0, #[], rfl, hb, h, Nat.le_refl _, by decide, by simp, by simp⟩⟩, fun i x hx => by simp at hx⟩
  simp [Value.ownBlock] at hq
  exact hq ▸ hok
theorem infoStr : (Tryz.prog.info? 9).map (fun i => (i.zero, i.size, i.bytes)) = some (some (.string ⟨#[]⟩), 1, 16) := by kernel_rfl
theorem infoStrSz : (Tryz.prog.info? 9).map (·.size) = some 1 := by kernel_rfl
/-- append(x, y...) of texts: what it gives, wherever y's cells lie -/
theorem app_str {w : World} {base : Nat} {v y : Value} {xs ys : List ByteArray} {ok ok2 : Nat → Prop} (hown : OwnP Rp.str w ok2 base 9 v xs) (hfr : ∀ k, w.heap.size ≤ k → ok2 k) (hy : (Rp.slice Rp.str).K w ok ys [y]) (hl : xs.length + ys.length ≤ 1000) (hb : base ≤ w.heap.size) :
    ∃ v' w', (Builtin.append_ #[22, 22] 22 #[v, y]).run Tryz.prog w = .ok v' w' ∧ OwnP Rp.str w' ok2 base 9 v' (xs ++ ys) ∧ ExtX (fun k => some k = v.ownBlock) w w' := by
  obtain ⟨i0, hi, hz0, hz1, hz2⟩ := info_parts infoStr
  obtain ⟨A, cap, hv, h1, h2, h3, hrow⟩ := id hy
  simp only [List.cons.injEq, and_true] at hv
  subst hv
  cases A with
  | none =>
    have h0 := h3 rfl
    obtain rfl : ys = [] := List.eq_nil_of_length_eq_zero (by omega)
    subst h0
    obtain ⟨_, cells, hr, _⟩ := id hown
    refine ⟨v, w, run_append_owned_none (P := Tryz.prog) w base 22 22 9 i0 1 Tryz.underlying22 hi v xs.length cells hr, by rw [List.append_nil]; exact hown, ExtX.refl _ _⟩
  | some a =>
    obtain ⟨news, hn, hc, hk⟩ : ∃ news : List Value, news.length = ys.length * 1 ∧ (∀ j u, news[j]? = some u → w.cell? (a.add j) = some u) ∧ ∀ i x, ys[i]? = some x → Rp.str.K w ok x ((news.drop (i * 1)).take 1) := by
      by_cases hn0 : ys = []
      · subst hn0
        exact ⟨[], by simp, fun j u hu => by simp at hu, fun i y hy => by simp at hy⟩
      · obtain ⟨b, o, hA, hb⟩ := hrow.addr hn0
        obtain rfl := Option.some.inj hA
        exact hrow.news rfl
    obtain ⟨v', w', r, o, g, _⟩ := run_app (P := Tryz.prog) (d := Rp.str) 22 22 9 i0 _ 16 Tryz.underlying22 hi hz0 hz1 hz2 rfl hown hfr a cap news ys hn hc (fun i y hy => hk i y hy) (by simp only [maxLen]; omega) (by omega) hb
    exact ⟨v', w', r, o, (ExtX.refl _ w).grown g (fun k hk => hk.symm)⟩
/-- a block that holds texts, then other cells -/
theorem OwnP.strs {w : World} {ok : Nat → Prop} {base : Nat} {T : TypeId} {v : Value} {xs : List ByteArray} (h : OwnP Rp.str w ok base T v xs) (hne : xs ≠ []) :
    ∃ ba cap rest, v = .slice (some ⟨ba, 0, none⟩) xs.length cap ∧ base ≤ ba ∧ Blk w ba T (xs.map Value.string ++ rest) ∧ xs.length + rest.length = cap ∧ cap ≤ maxLen ∧ ∀ x ∈ xs, x.size ≤ maxLen := by
  obtain ⟨h0, cells, h1, h2⟩ := h
  have hlen := h1.1
  have hsz : (Rp.str).sz = 1 := rfl
  rw [hsz, Nat.mul_one] at hlen
  have hx : ∀ x ∈ xs, x.size ≤ maxLen := by
    intro x hx
    obtain ⟨i, hi⟩ := List.getElem?_of_mem hx
    exact (h2 i x hi).2
  rcases h1.2 with ⟨_, hn⟩ | ⟨g, cap, cur, rfl, hb, hg, hc, hm, hs, ht⟩
  · exact absurd (List.eq_nil_of_length_eq_zero hn) hne
  refine ⟨g, cap, cur.toList.drop xs.length, rfl, hb, ?_, ?_, hm, hx⟩
  · have hcells : cells = xs.map Value.string := by
      apply List.ext_getElem?
      intro i
      by_cases hi : i < xs.length
      · obtain ⟨x, hx⟩ : ∃ x, xs[i]? = some x := ⟨_, List.getElem?_eq_getElem hi⟩
        have hk := (h2 i x hx).1
        rw [hsz, Nat.mul_one] at hk
        rw [List.getElem?_map, hx]
        have := congrArg (fun l => l[0]?) hk
        simpa [List.getElem?_take, List.getElem?_drop] using this
      · rw [List.getElem?_eq_none (by omega), List.getElem?_eq_none (by simp; omega)]
    have hcur : xs.map Value.string ++ cur.toList.drop xs.length = cur.toList := by
      rw [← hcells, ← ht]
      simp [hsz]
    unfold Blk
    rw [hcur]
    exact hg
  · rw [hsz, Nat.mul_one] at hs
    have hs' : cur.toList.length = cap := by rw [Array.length_toList]; exact hs
    rw [List.length_drop, hs']; omega
/-- the block, read as a slice -/
theorem strs_slice {w : World} {ok : Nat → Prop} {ba cap : Nat} {T : TypeId} {xs : List ByteArray} {rest : List Value} (hok : ok ba) (h : Blk w ba T (xs.map Value.string ++ rest)) (hc : xs.length + rest.length = cap) (hm : cap ≤ maxLen) (hx : ∀ x ∈ xs, x.size ≤ maxLen) :
    (Rp.slice Rp.str).K w ok xs [.slice (some ⟨ba, 0, none⟩) xs.length cap] := by
  refine slice_of_blk (d := Rp.str) h hok (by simp [Rp.str]) (fun i x hi => ?_) (by omega) hm
  have hl : i < xs.length := (List.getElem?_eq_some_iff.1 hi).1
  refine ⟨?_, hx x (List.mem_of_getElem? hi)⟩
  have hsz : (Rp.str).sz = 1 := rfl
  rw [hsz, Nat.mul_one]
  rw [List.drop_append_of_le_length (by simp; omega), List.drop_eq_getElem_cons (by simpa using hl)]
  simp
  exact (List.getElem?_eq_some_iff.1 hi).2
/-- texts in a block, one stored -/
theorem over_strs (ms : List ByteArray) (rest : List Value) (j : Nat) (s : ByteArray) (h : j < ms.length) : over j [.string s] (ms.map Value.string ++ rest) = (ms.set j s).map Value.string ++ rest := by
  unfold over
  rw [List.take_append_of_le_length (by simp; omega), List.drop_append_of_le_length (by simp; omega), ← List.append_assoc]
  congr 1
  rw [List.set_eq_take_append_cons_drop, if_pos h]
  simp
/-- append(left[:r], left[r+1:]...): the element r is taken out, in place -/
theorem run_deleteS {w : World} {bl n r : Nat} {ls : List ByteArray} {rl : List Value} (K : Blk w bl 9 (ls.map Value.string ++ rl)) (hn : ls.length + rl.length = n) (hr : r < ls.length) {A2 : Option Addr} (hA : (if n = r + 1 then some (⟨bl, 0, none⟩ : Addr) else (some (⟨bl, 0, none⟩ : Addr)).map (·.add ((r + 1) * 1))) = A2) :
    ∃ w' rl', (Builtin.append_ #[22, 22] 22 #[.slice (some ⟨bl, 0, none⟩) r n, .slice A2 (ls.length - (r + 1)) (n - (r + 1))]).run Tryz.prog w = .ok (.slice (some ⟨bl, 0, none⟩) (ls.take r ++ ls.drop (r + 1)).length n) w' ∧
      Blk w' bl 9 ((ls.take r ++ ls.drop (r + 1)).map Value.string ++ rl') ∧ (ls.take r ++ ls.drop (r + 1)).length + rl'.length = n ∧ ExtX (fun k => k = bl) w w' := by
  obtain ⟨i0, hi, hz0, hz1, hz2⟩ := info_parts infoStr
  have hlen : (ls.drop (r + 1)).length = ls.length - (r + 1) := List.length_drop
  have hL : (ls.take r ++ ls.drop (r + 1)).length = r + (ls.length - (r + 1)) := by rw [List.length_append, List.length_take, hlen]; omega
  obtain ⟨a, ha, hcell⟩ : ∃ a, A2 = some a ∧ ∀ j u, ((ls.drop (r + 1)).map Value.string)[j]? = some u → w.cell? (a.add j) = some u := by
    by_cases h1 : n = r + 1
    · rw [if_pos h1] at hA
      refine ⟨_, hA.symm, fun j u hu => ?_⟩
      have := (List.getElem?_eq_some_iff.1 hu).1
      rw [List.length_map, hlen] at this
      omega
    · rw [if_neg h1] at hA
      refine ⟨_, hA.symm, fun j u hu => ?_⟩
      have h2 : ((⟨bl, 0, none⟩ : Addr).add ((r + 1) * 1)).add j = ⟨bl, r + 1 + j, none⟩ := by simp [Addr.add_lit]
      rw [h2]
      refine K.cell ?_
      have h3 := (List.getElem?_eq_some_iff.1 hu).1
      rw [List.length_map, hlen] at h3
      rw [List.getElem?_append_left (by rw [List.length_map]; omega)]
      rw [List.getElem?_map, List.getElem?_drop] at hu
      rw [List.getElem?_map]
      exact hu
  subst ha
  have hrun := run_append_room (P := Tryz.prog) w 22 22 9 i0 Tryz.underlying22 hi bl r n (ls.map Value.string ++ rl).toArray K a (ls.length - (r + 1)) (n - (r + 1)) ((ls.drop (r + 1)).map Value.string) (by rw [List.length_map, hlen, hz1]; omega) hcell (fun u hu => by
    obtain ⟨j, _, rfl⟩ := List.mem_map.1 hu; rfl) (by omega) (by rw [hz1, List.length_map, hlen]; simp; omega)
  rw [hz1, ← hL] at hrun
  have hnew : (((ls.map Value.string ++ rl).toArray.toList.take (r * 1)) ++ (ls.drop (r + 1)).map Value.string ++ (ls.map Value.string ++ rl).toArray.toList.drop (r * 1 + ((ls.drop (r + 1)).map Value.string).length)) =
      (ls.take r ++ ls.drop (r + 1)).map Value.string ++ (ls.map Value.string ++ rl).drop (r + (ls.length - (r + 1))) := by
    simp only [Nat.mul_one, List.length_map, hlen]
    rw [List.take_append_of_le_length (by rw [List.length_map]; omega), List.map_append, List.map_take]
  refine ⟨_, (ls.map Value.string ++ rl).drop (r + (ls.length - (r + 1))), hrun, ?_, ?_, ⟨rfl, rfl, rfl, by simp [World.setRow], fun k hk hm => setRow_other w bl k _ hm⟩⟩
  · have := setRow_heap w bl _ (((ls.map Value.string ++ rl).toArray.toList.take (r * 1)) ++ (ls.drop (r + 1)).map Value.string ++ (ls.map Value.string ++ rl).toArray.toList.drop (r * 1 + ((ls.drop (r + 1)).map Value.string).length)).toArray 9 (0, 0) K
    rw [hnew] at this
    rw [hnew]
    exact this
  · rw [hL, List.length_drop, List.length_append, List.length_map]; omega

section
variable {P : Program} {ops : Array Oper} {rest : List Oper} {o : Oper} {a : Act} {Q : Exit → Act → World → Prop} {w : World}
theorem wpList_val (hgd : o.guard = none) {v : Value} {w' : World} (he : (execOp a.eval o).run P w = .ok (.value v) w') (h : wpList P ops Q rest (a.put o.dst v) w') : wpList P ops Q (o :: rest) a w := by
  refine wpList_plain hgd fun K hK => ?_
  unfold Oper.wp
  rw [he]
  exact hK _ _ h
end
structure StepD where
  kind : Int
  mem : Int
  text : ByteArray
  to : VD
abbrev stCells (s : StepD) : List Value := [.int .i64 s.kind, .int .i64 s.mem, .string s.text, .int .i64 s.to.maj, .int .i64 s.to.mnr, .int .i64 s.to.pat]
abbrev stV (s : StepD) : Value := .agg #[.int .i64 s.kind, .int .i64 s.mem, .string s.text, .int .i64 s.to.maj, .int .i64 s.to.mnr, .int .i64 s.to.pat]
def seenMs (ms : List ByteArray) (s : StepD) : List ByteArray :=
  if s.kind = 2 ∧ ms.length < 12 then ms ++ [s.text]
  else if s.kind = 1 ∧ 0 < ms.length ∧ 0 ≤ s.mem then ms.set (s.mem.toNat % ms.length) s.text
  else if s.kind = 3 ∧ 0 < ms.length ∧ 0 ≤ s.mem then ms.take (s.mem.toNat % ms.length) ++ ms.drop (s.mem.toNat % ms.length + 1)
  else ms
def seenG (g : GD) (s : StepD) : GD := { g with members := seenMs g.members s }
theorem seen_ok {g : GD} (h : g.ok) {s : StepD} (hs : VTx s.text) : (seenG g s).ok := by
  have hm : (∀ x ∈ seenMs g.members s, VTx x) ∧ (seenMs g.members s).length ≤ 12 := by
    have hn := h.n
    unfold seenMs
    split
    · rename_i hc
      refine ⟨fun x hx => ?_, by simp; omega⟩
      rcases List.mem_append.1 hx with hx | hx
      · exact h.m x hx
      · obtain rfl := List.mem_singleton.1 hx; exact hs
    · split
      · refine ⟨fun x hx => ?_, by rw [List.length_set]; exact hn⟩
        rcases List.mem_or_eq_of_mem_set hx with hx | rfl
        · exact h.m x hx
        · exact hs
      · split
        · refine ⟨fun x hx => ?_, by rw [List.length_append, List.length_take, List.length_drop]; omega⟩
          rcases List.mem_append.1 hx with hx | hx
          · exact h.m x (List.mem_of_mem_take hx)
          · exact h.m x (List.mem_of_mem_drop hx)
        · exact ⟨h.m, hn⟩
  exact ⟨h.c, h.s, hm.1, h.d, hm.2, h.t⟩
def SeenAns (g : GD) (s : StepD) (w : World) (e : Ending) (w' : World) : Prop :=
  ∃ A n cap, e = .returned (gdV (seenG g s) A n cap) ∧ n = (seenG g s).members.length ∧ (Rp.slice Rp.str).K w' (fun k => w.heap.size ≤ k) (seenG g s).members [.slice A n cap] ∧ Ext w w'
noncomputable def ops_21_6 : Array Oper := opsAt Tryz.f21 6
noncomputable def ops_21_9 : Array Oper := opsAt Tryz.f21 9
set_option maxRecDepth 20000 in
set_option maxHeartbeats 8000000 in
theorem seen_any (g : GD) (A : Option Addr) (n cap : Nat) (s : StepD) (w : World) (hn : n = g.members.length) (hm : (Rp.slice Rp.str).K w any g.members [.slice A n cap]) (hok : g.ok) (hs : VTx s.text) :
    Calls Tryz.prog 21 #[gdV g A n cap, stV s] w (SeenAns g s w) := by
  have hle : n ≤ 12 := by rw [hn]; exact hok.n
  have HOK := Lib.hid hok
  have HM := Lib.hid hm
  have HN := Lib.hid hn
  have htx : s.text.size ≤ 20 := hs.le
  clear hok hm hn
  go_enter Tryz.func21, Tryz.ntmps21
  obtain ⟨W, hW⟩ : ∃ W, W = (((w.alloc (.cells (gdCells g A n cap).toArray 24)).alloc (.cells (stCells s).toArray 31)).alloc (.cells #[.string ⟨#[]⟩, .string ⟨#[]⟩, .string ⟨#[]⟩, .bool false, .bool false, .slice none 0 0] 24)).alloc (.cells #[] 9) := ⟨_, rfl⟩
  have EW : Ext w W := by rw [hW]; exact ((((Ext.refl w).alloc _).alloc _).alloc _).alloc _
  have KV : Blk W w.heap.size 24 (gdCells g A n cap) := by
    rw [hW]
    exact (Blk.new w 24 (gdCells g A n cap)).ext ((((Ext.refl _).alloc _).alloc _).alloc _)
  have KS : Blk W (w.heap.size + 1) 31 (stCells s) := by
    rw [hW]
    have := Blk.new (w.alloc (.cells (gdCells g A n cap).toArray 24)) 31 (stCells s)
    rw [World.size_alloc] at this
    exact this.ext (((Ext.refl _).alloc _).alloc _)
  have KR : Blk W (w.heap.size + 1 + 1) 24 [.string ⟨#[]⟩, .string ⟨#[]⟩, .string ⟨#[]⟩, .bool false, .bool false, .slice none 0 0] := by
    rw [hW]
    have := Blk.new ((w.alloc (.cells (gdCells g A n cap).toArray 24)).alloc (.cells (stCells s).toArray 31)) 24 [.string ⟨#[]⟩, .string ⟨#[]⟩, .string ⟨#[]⟩, .bool false, .bool false, .slice none 0 0]
    rw [World.size_alloc, World.size_alloc] at this
    exact this.ext ((Ext.refl _).alloc _)
  have K0 : Blk W (w.heap.size + 1 + 1 + 1) 9 [] := by
    rw [hW]
    have := Blk.new (((w.alloc (.cells (gdCells g A n cap).toArray 24)).alloc (.cells (stCells s).toArray 31)).alloc (.cells #[.string ⟨#[]⟩, .string ⟨#[]⟩, .string ⟨#[]⟩, .bool false, .bool false, .slice none 0 0] 24)) 9 []
    rw [World.size_alloc, World.size_alloc, World.size_alloc] at this
    exact this
  have hsW : W.heap.size = w.heap.size + 1 + 1 + 1 + 1 := by rw [hW]; simp
  have own0 : OwnP Rp.str W (fun k => w.heap.size + 1 + 1 + 1 ≤ k) (w.heap.size + 1 + 1 + 1) 9 (.slice (some ⟨w.heap.size + 1 + 1 + 1, 0, none⟩) 0 0) [] := own_void K0 (Nat.le_refl _) (Nat.le_refl _)
  obtain ⟨v1, w1, r1, o1, x1⟩ := app_str own0 (fun k hk => by show w.heap.size + 1 + 1 + 1 ≤ k; omega) ((Rp.slice Rp.str).ext' EW HM.out) (by have := HN.out; simp; omega) (by omega)
  rw [List.nil_append] at o1
  have x1' : ExtX (fun k => w.heap.size + 1 + 1 + 1 ≤ k) W w1 := x1.mono (fun k _ h => by
    have h : k = w.heap.size + 1 + 1 + 1 := by simpa [Value.ownBlock] using h
    show w.heap.size + 1 + 1 + 1 ≤ k
    omega)
  have hs1 : w.heap.size + 1 + 1 + 1 + 1 ≤ w1.heap.size := by have := x1.size; omega
  obtain ⟨A1, c1, hv1, hc1, hm1⟩ := o1.shape
  subst hv1
  rw [← HN.out] at o1 hc1 r1
  have KV1 := KV.extX x1' (by omega)
  have KS1 := KS.extX x1' (by omega)
  have KR1 := KR.extX x1' (by omega)
  replace own0 := Lib.hid own0
  clear K0 KV KS KR
  by_cases h2 : s.kind = 2
  · have q2 : (s.kind == 2) = true := by simpa using h2
    by_cases h12 : n < 12
    · have d12 : decide ((n : Int) < 12) = true := decide_eq_true (by omega)
      have hl6 : (g.members ++ [s.text]).length = n + 1 := by rw [List.length_append, ← HN.out]; rfl
      have hjoin : Hid (seenMs g.members s = g.members ++ [s.text]) := Lib.hid (by
        unfold seenMs
        rw [← HN.out, if_pos ⟨h2, h12⟩])
      replace h2 := Lib.hid h2
      go_wp2_with (first
        | (at_builtin
           change wpList _ _ _ _ _ ((((w.alloc (.cells (gdCells g A n cap).toArray 24)).alloc (.cells (stCells s).toArray 31)).alloc (.cells #[.string ⟨#[]⟩, .string ⟨#[]⟩, .string ⟨#[]⟩, .bool false, .bool false, .slice none 0 0] 24)).alloc (.cells #[] 9))
           rw [← hW]
           refine wpList_val rfl (exec_app (.tmp 10) (.tmp 12) 22 rfl rfl rfl r1) ?_
           replace hW := Lib.hid hW)
        | (refine wpList_store rfl rfl (.tmp 14) (.tmp 13) 22 rfl rfl rfl rfl KV1 rfl (Nat.le_of_ble_eq_true rfl) rfl ?_
           intro w4 K4 x4
           have K4' : Blk w4 w.heap.size 24 (gdCells g A1 n c1) := K4
           have KS4 := KS1.extX x4 (by omega)
           have KR4 := KR1.extX x4 (by omega)
           have o4 := o1.extX x4 (fun k h1 _ h2 => by have h2 : k = w.heap.size := h2; omega)
           have E4 : ExtX (fun k => w.heap.size ≤ k) w w4 := ((EW.toX _).trans (x1'.mono (fun k _ h => by have h : w.heap.size + 1 + 1 + 1 ≤ k := h; show w.heap.size ≤ k; omega))).trans (x4.mono (fun k _ h => by have h : k = w.heap.size := h; show w.heap.size ≤ k; omega))
           have t0 := KS4.cell (o := 0) rfl
           have t1 := KS4.cell (o := 1) rfl
           skip
           have t2 := KS4.cell (o := 2) rfl
           have hs4 : w.heap.size + 1 + 1 + 1 + 1 ≤ w4.heap.size := by have := x4.size; omega
           obtain ⟨s0, s1, s2, s3, s4, s5⟩ := gd_load K4'
           have HO4 := Lib.hid o4
           have K4k := Lib.hid K4'
           clear K4 K4' o4)
        | (at_builtin
           have o5 := HO4.out.ext ((Ext.refl w4).alloc (.cells #[.string s.text] 9))
           have hy : (Rp.slice Rp.str).K (w4.alloc (.cells #[.string s.text] 9)) any [s.text] [.slice (some ⟨w4.heap.size, 0, none⟩) 1 1] := slice_of_blk (xs := [s.text]) (Blk.new w4 9 [.string s.text]) trivial (Nat.le_refl 1) (one_elem (p := fun i y => Rp.str.K _ any y _) ⟨rfl, by unfold maxLen; omega⟩) (Nat.le_refl 1) (by decide)
           obtain ⟨v6, w6, r6, o6, x6⟩ := app_str o5 (fun k hk => by show w.heap.size + 1 + 1 + 1 ≤ k; simp at hk; omega) hy (by have := HN.out; simp; omega) (by simp; omega)
           obtain ⟨A6, c6, hv6, hc6, hm6⟩ := o6.shape
           rw [hl6] at hv6
           subst hv6
           refine wpList_val rfl (exec_app (.tmp 24) (.tmp 27) 22 rfl rfl rfl r6) ?_
           have x46 : ExtX (fun k => w.heap.size + 1 + 1 + 1 ≤ k) w4 w6 := (((Ext.refl w4).alloc (.cells #[.string s.text] 9)).toX _).trans (x6.mono (fun k _ h => (o5.own k h.symm).1))
           have K6 := K4k.out.extX x46 (by omega)
           have KR6 := KR4.extX x46 (by omega)
           replace r6 := Lib.hid r6
           replace hy := Lib.hid hy
           replace o5 := Lib.hid o5
           have O6 := Lib.hid o6
           clear o6)
        | (refine wpList_store rfl rfl (.tmp 29) (.tmp 28) 22 rfl rfl rfl rfl K6 rfl (Nat.le_of_ble_eq_true rfl) rfl ?_
           intro w7 K7 x7
           have K7' : Blk w7 w.heap.size 24 (gdCells g A6 (n + 1) c6) := K7
           have KR7 := KR6.extX x7 (by omega)
           clear s0 s1 s2 s3 s4 s5 K7
           obtain ⟨s0, s1, s2, s3, s4, s5⟩ := gd_load K7')
        | (refine wpList_store rfl rfl (.tmp 4) (.tmp 80) 24 rfl rfl rfl rfl KR7 rfl (Nat.le_of_ble_eq_true rfl) rfl ?_; intro w9 K9 x9)
        | fail)
      refine bodyPost_ret (results_cell_row rfl _ _ (w.heap.size + 1 + 1) _ _ (0, 0) _ rfl K9 Tryz.underlying24 rfl rfl) rfl ?_
      refine ⟨A6, n + 1, c6, rfl, (by show n + 1 = (seenMs g.members s).length; rw [hjoin.out, hl6]), ?_, ?_⟩
      · show (Rp.slice Rp.str).K w9 (fun k => w.heap.size ≤ k) (seenMs g.members s) _
        rw [hjoin.out]
        have := ((O6.out.extX x7 (fun k h1 _ h2 => by have h2 : k = w.heap.size := h2; have h1 : w.heap.size + 1 + 1 + 1 ≤ k := h1; omega)).extX x9 (fun k h1 _ h2 => by have h2 : k = w.heap.size + 1 + 1 := h2; have h1 : w.heap.size + 1 + 1 + 1 ≤ k := h1; omega)).slice
        exact (Rp.slice Rp.str).mono (fun k h => by have h : w.heap.size + 1 + 1 + 1 ≤ k := h; show w.heap.size ≤ k; omega) this
      · exact (((E4.trans (x46.mono (fun k _ h => by have h : w.heap.size + 1 + 1 + 1 ≤ k := h; show w.heap.size ≤ k; omega))).trans (x7.mono (fun k _ h => by have h : k = w.heap.size := h; show w.heap.size ≤ k; omega))).trans (x9.mono (fun k _ h => by have h : k = w.heap.size + 1 + 1 := h; show w.heap.size ≤ k; omega))).toExt (fun k hk => hk)
    · have d12 : decide ((n : Int) < 12) = false := decide_eq_false (by omega)
      have q1 : (s.kind == 1) = false := by rw [h2]; rfl
      have q3 : (s.kind == 3) = false := by rw [h2]; rfl
      have hsame : seenMs g.members s = g.members := by
        unfold seenMs
        rw [← HN.out]
        rw [if_neg (by omega), if_neg (by omega), if_neg (by omega)]
      replace hsame := Lib.hid hsame
      replace h2 := Lib.hid h2
      go_wp2_with (first
        | (at_builtin
           change wpList _ _ _ _ _ ((((w.alloc (.cells (gdCells g A n cap).toArray 24)).alloc (.cells (stCells s).toArray 31)).alloc (.cells #[.string ⟨#[]⟩, .string ⟨#[]⟩, .string ⟨#[]⟩, .bool false, .bool false, .slice none 0 0] 24)).alloc (.cells #[] 9))
           rw [← hW]
           refine wpList_val rfl (exec_app (.tmp 10) (.tmp 12) 22 rfl rfl rfl r1) ?_
           replace hW := Lib.hid hW)
        | (refine wpList_store rfl rfl (.tmp 14) (.tmp 13) 22 rfl rfl rfl rfl KV1 rfl (Nat.le_of_ble_eq_true rfl) rfl ?_
           intro w4 K4 x4
           have K4' : Blk w4 w.heap.size 24 (gdCells g A1 n c1) := K4
           have KS4 := KS1.extX x4 (by omega)
           have KR4 := KR1.extX x4 (by omega)
           have o4 := o1.extX x4 (fun k h1 _ h2 => by have h2 : k = w.heap.size := h2; omega)
           have E4 : ExtX (fun k => w.heap.size ≤ k) w w4 := ((EW.toX _).trans (x1'.mono (fun k _ h => by have h : w.heap.size + 1 + 1 + 1 ≤ k := h; show w.heap.size ≤ k; omega))).trans (x4.mono (fun k _ h => by have h : k = w.heap.size := h; show w.heap.size ≤ k; omega))
           have t0 := KS4.cell (o := 0) rfl
           have t1 := KS4.cell (o := 1) rfl
           skip
           have t2 := KS4.cell (o := 2) rfl
           have hs4 : w.heap.size + 1 + 1 + 1 + 1 ≤ w4.heap.size := by have := x4.size; omega
           obtain ⟨s0, s1, s2, s3, s4, s5⟩ := gd_load K4'
           have HO4 := Lib.hid o4
           have K4k := Lib.hid K4'
           clear K4 K4' o4)
        | (refine wpList_store rfl rfl (.tmp 4) (.tmp 80) 24 rfl rfl rfl rfl KR4 rfl (Nat.le_of_ble_eq_true rfl) rfl ?_; intro w9 K9 x9)
        | fail)
      refine bodyPost_ret (results_cell_row rfl _ _ (w.heap.size + 1 + 1) _ _ (0, 0) _ rfl K9 Tryz.underlying24 rfl rfl) rfl ?_
      refine ⟨A1, n, c1, rfl, (by show n = (seenMs g.members s).length; rw [hsame.out]; exact HN.out), ?_, ?_⟩
      · show (Rp.slice Rp.str).K w9 (fun k => w.heap.size ≤ k) (seenMs g.members s) _
        rw [hsame.out, HN.out]
        have := (HO4.out.extX x9 (fun k h1 _ h2 => by have h2 : k = w.heap.size + 1 + 1 := h2; have h1 : w.heap.size + 1 + 1 + 1 ≤ k := h1; omega)).slice
        rw [HN.out] at this
        exact (Rp.slice Rp.str).mono (fun k h => by have h : w.heap.size + 1 + 1 + 1 ≤ k := h; show w.heap.size ≤ k; omega) this
      · exact (E4.trans (x9.mono (fun k _ h => by have h : k = w.heap.size + 1 + 1 := h; show w.heap.size ≤ k; omega))).toExt (fun k hk => hk)
  have q2 : (s.kind == 2) = false := by simpa using h2
  by_cases h1 : s.kind = 1
  · have q1 : (s.kind == 1) = true := by simpa using h1
    have q3 : (s.kind == 3) = false := by rw [h1]; rfl
    by_cases hn0 : n = 0
    · have d0 : decide ((0 : Int) < (n : Int)) = false := decide_eq_false (by omega)
      have hsame : seenMs g.members s = g.members := by
        unfold seenMs
        rw [← HN.out]
        rw [if_neg (by omega), if_neg (by omega), if_neg (by omega)]
      replace hsame := Lib.hid hsame
      replace h1 := Lib.hid h1; obtain rfl := hn0
      go_wp2_with (first
        | (at_builtin
           change wpList _ _ _ _ _ ((((w.alloc (.cells (gdCells g A 0 cap).toArray 24)).alloc (.cells (stCells s).toArray 31)).alloc (.cells #[.string ⟨#[]⟩, .string ⟨#[]⟩, .string ⟨#[]⟩, .bool false, .bool false, .slice none 0 0] 24)).alloc (.cells #[] 9))
           rw [← hW]
           refine wpList_val rfl (exec_app (.tmp 10) (.tmp 12) 22 rfl rfl rfl r1) ?_
           replace hW := Lib.hid hW)
        | (refine wpList_store rfl rfl (.tmp 14) (.tmp 13) 22 rfl rfl rfl rfl KV1 rfl (Nat.le_of_ble_eq_true rfl) rfl ?_
           intro w4 K4 x4
           have K4' : Blk w4 w.heap.size 24 (gdCells g A1 0 c1) := K4
           have KS4 := KS1.extX x4 (by omega)
           have KR4 := KR1.extX x4 (by omega)
           have o4 := o1.extX x4 (fun k h1 _ h2 => by have h2 : k = w.heap.size := h2; omega)
           have E4 : ExtX (fun k => w.heap.size ≤ k) w w4 := ((EW.toX _).trans (x1'.mono (fun k _ h => by have h : w.heap.size + 1 + 1 + 1 ≤ k := h; show w.heap.size ≤ k; omega))).trans (x4.mono (fun k _ h => by have h : k = w.heap.size := h; show w.heap.size ≤ k; omega))
           have t0 := KS4.cell (o := 0) rfl
           have t1 := KS4.cell (o := 1) rfl
           skip
           have t2 := KS4.cell (o := 2) rfl
           have hs4 : w.heap.size + 1 + 1 + 1 + 1 ≤ w4.heap.size := by have := x4.size; omega
           obtain ⟨s0, s1, s2, s3, s4, s5⟩ := gd_load K4'
           have HO4 := Lib.hid o4
           have K4k := Lib.hid K4'
           clear K4 K4' o4)
        | (refine wpList_store rfl rfl (.tmp 4) (.tmp 80) 24 rfl rfl rfl rfl KR4 rfl (Nat.le_of_ble_eq_true rfl) rfl ?_; intro w9 K9 x9)
        | fail)
      refine bodyPost_ret (results_cell_row rfl _ _ (w.heap.size + 1 + 1) _ _ (0, 0) _ rfl K9 Tryz.underlying24 rfl rfl) rfl ?_
      refine ⟨A1, 0, c1, rfl, (by show 0 = (seenMs g.members s).length; rw [hsame.out]; exact HN.out), ?_, ?_⟩
      · show (Rp.slice Rp.str).K w9 (fun k => w.heap.size ≤ k) (seenMs g.members s) _
        rw [hsame.out, HN.out]
        have := (HO4.out.extX x9 (fun k h1 _ h2 => by have h2 : k = w.heap.size + 1 + 1 := h2; have h1 : w.heap.size + 1 + 1 + 1 ≤ k := h1; omega)).slice
        rw [HN.out] at this
        exact (Rp.slice Rp.str).mono (fun k h => by have h : w.heap.size + 1 + 1 + 1 ≤ k := h; show w.heap.size ≤ k; omega) this
      · exact (E4.trans (x9.mono (fun k _ h => by have h : k = w.heap.size + 1 + 1 := h; show w.heap.size ≤ k; omega))).toExt (fun k hk => hk)
    have d0 : decide ((0 : Int) < (n : Int)) = true := decide_eq_true (by omega)
    by_cases hm0 : s.mem < 0
    · have dm : decide (0 ≤ s.mem) = false := decide_eq_false (by omega)
      have hsame : seenMs g.members s = g.members := by
        unfold seenMs
        rw [← HN.out]
        rw [if_neg (by omega), if_neg (by omega), if_neg (by omega)]
      replace hsame := Lib.hid hsame
      replace h1 := Lib.hid h1
      go_wp2_with (first
        | (at_builtin
           change wpList _ _ _ _ _ ((((w.alloc (.cells (gdCells g A n cap).toArray 24)).alloc (.cells (stCells s).toArray 31)).alloc (.cells #[.string ⟨#[]⟩, .string ⟨#[]⟩, .string ⟨#[]⟩, .bool false, .bool false, .slice none 0 0] 24)).alloc (.cells #[] 9))
           rw [← hW]
           refine wpList_val rfl (exec_app (.tmp 10) (.tmp 12) 22 rfl rfl rfl r1) ?_
           replace hW := Lib.hid hW)
        | (refine wpList_store rfl rfl (.tmp 14) (.tmp 13) 22 rfl rfl rfl rfl KV1 rfl (Nat.le_of_ble_eq_true rfl) rfl ?_
           intro w4 K4 x4
           have K4' : Blk w4 w.heap.size 24 (gdCells g A1 n c1) := K4
           have KS4 := KS1.extX x4 (by omega)
           have KR4 := KR1.extX x4 (by omega)
           have o4 := o1.extX x4 (fun k h1 _ h2 => by have h2 : k = w.heap.size := h2; omega)
           have E4 : ExtX (fun k => w.heap.size ≤ k) w w4 := ((EW.toX _).trans (x1'.mono (fun k _ h => by have h : w.heap.size + 1 + 1 + 1 ≤ k := h; show w.heap.size ≤ k; omega))).trans (x4.mono (fun k _ h => by have h : k = w.heap.size := h; show w.heap.size ≤ k; omega))
           have t0 := KS4.cell (o := 0) rfl
           have t1 := KS4.cell (o := 1) rfl
           skip
           have t2 := KS4.cell (o := 2) rfl
           have hs4 : w.heap.size + 1 + 1 + 1 + 1 ≤ w4.heap.size := by have := x4.size; omega
           obtain ⟨s0, s1, s2, s3, s4, s5⟩ := gd_load K4'
           have HO4 := Lib.hid o4
           have K4k := Lib.hid K4'
           clear K4 K4' o4)
        | (refine wpList_store rfl rfl (.tmp 4) (.tmp 80) 24 rfl rfl rfl rfl KR4 rfl (Nat.le_of_ble_eq_true rfl) rfl ?_; intro w9 K9 x9)
        | fail)
      refine bodyPost_ret (results_cell_row rfl _ _ (w.heap.size + 1 + 1) _ _ (0, 0) _ rfl K9 Tryz.underlying24 rfl rfl) rfl ?_
      refine ⟨A1, n, c1, rfl, (by show n = (seenMs g.members s).length; rw [hsame.out]; exact HN.out), ?_, ?_⟩
      · show (Rp.slice Rp.str).K w9 (fun k => w.heap.size ≤ k) (seenMs g.members s) _
        rw [hsame.out, HN.out]
        have := (HO4.out.extX x9 (fun k h1 _ h2 => by have h2 : k = w.heap.size + 1 + 1 := h2; have h1 : w.heap.size + 1 + 1 + 1 ≤ k := h1; omega)).slice
        rw [HN.out] at this
        exact (Rp.slice Rp.str).mono (fun k h => by have h : w.heap.size + 1 + 1 + 1 ≤ k := h; show w.heap.size ≤ k; omega) this
      · exact (E4.trans (x9.mono (fun k _ h => by have h : k = w.heap.size + 1 + 1 := h; show w.heap.size ≤ k; omega))).toExt (fun k hk => hk)
    have dm : decide (0 ≤ s.mem) = true := decide_eq_true (by omega)
    obtain ⟨j, hj⟩ : ∃ j, s.mem.toNat % n = j := ⟨_, rfl⟩
    have hjn : j < n := by rw [← hj]; exact Nat.mod_lt _ (by omega)
    have hrem : s.mem.tmod (n : Int) = (j : Int) := by
      rw [← hj]
      obtain ⟨q, hq⟩ := Int.eq_ofNat_of_zero_le (by omega : 0 ≤ s.mem)
      rw [hq]
      rfl
    have hset : Hid (seenMs g.members s = g.members.set j s.text) := Lib.hid (by
      unfold seenMs
      rw [← HN.out, if_neg (by omega), if_pos ⟨h1, by omega, by omega⟩, hj])
    replace h1 := Lib.hid h1
    replace hj := Lib.hid hj
    go_wp2_with (first
      | (at_builtin
         change wpList _ _ _ _ _ ((((w.alloc (.cells (gdCells g A n cap).toArray 24)).alloc (.cells (stCells s).toArray 31)).alloc (.cells #[.string ⟨#[]⟩, .string ⟨#[]⟩, .string ⟨#[]⟩, .bool false, .bool false, .slice none 0 0] 24)).alloc (.cells #[] 9))
         rw [← hW]
         refine wpList_val rfl (exec_app (.tmp 10) (.tmp 12) 22 rfl rfl rfl r1) ?_
         replace hW := Lib.hid hW)
      | (refine wpList_store rfl rfl (.tmp 14) (.tmp 13) 22 rfl rfl rfl rfl KV1 rfl (Nat.le_of_ble_eq_true rfl) rfl ?_
         intro w4 K4 x4
         have K4' : Blk w4 w.heap.size 24 (gdCells g A1 n c1) := K4
         have KS4 := KS1.extX x4 (by omega)
         have KR4 := KR1.extX x4 (by omega)
         have o4 := o1.extX x4 (fun k h1 _ h2 => by have h2 : k = w.heap.size := h2; omega)
         have E4 : ExtX (fun k => w.heap.size ≤ k) w w4 := ((EW.toX _).trans (x1'.mono (fun k _ h => by have h : w.heap.size + 1 + 1 + 1 ≤ k := h; show w.heap.size ≤ k; omega))).trans (x4.mono (fun k _ h => by have h : k = w.heap.size := h; show w.heap.size ≤ k; omega))
         have t0 := KS4.cell (o := 0) rfl
         have t1 := KS4.cell (o := 1) rfl
         skip
         have t2 := KS4.cell (o := 2) rfl
         have hs4 : w.heap.size + 1 + 1 + 1 + 1 ≤ w4.heap.size := by have := x4.size; omega
         obtain ⟨s0, s1, s2, s3, s4, s5⟩ := gd_load K4'
         have HO4 := Lib.hid o4
         have K4k := Lib.hid K4'
         clear K4 K4' o4)
      | fail)
    have hne : g.members ≠ [] := by intro h; have := HN.out; rw [h] at this; simp at this; omega
    obtain ⟨ba, c', rest, hv, hba, KB, hcl, hcm, hx⟩ := HO4.out.strs hne
    rw [← HN.out] at hv
    obtain ⟨rfl, -, rfl⟩ := (Value.slice.injEq _ _ _ _ _ _).mp hv
    refine wp_region_sched (ops := ops_21_6) Ext [9] (.quiet 0 (.quiet 1 (.quiet 2 (.quiet 3 (.quiet 4 (.quiet 5 (.quiet 6 (.quiet 7 (.quiet 8 (.last 9 (.done))))))))))) (by kernel_rfl) ext_refl ext_trans (by kernel_rfl) (fun _ _ d _ _ h => by cases d <;> exact h) ?_
    refine wpS_quiet (some 43) { dst := some 43, op := Op.fieldAddr 24 (Operand.tmp 2) 5, type := _, pos := _, after := _, guard := none } _ rfl rfl (by rfl) (fun wE hE => by (go_simp; try with_reducible rfl)) ?_; simp only [Act.put, List.setIfInBounds_toArray, List.set_cons_zero, List.set_cons_succ]
    refine wpS_quiet (some 44) { dst := some 44, op := Op.load 22 (Operand.tmp 43), type := _, pos := _, after := _, guard := none } _ rfl rfl (by rfl) (fun wE hE => by (have zk0 := hE.cellS s5; have zk1 := hE.cellS t1; have zk2 := hE.cellS t2; go_simp; try with_reducible rfl)) ?_; simp only [Act.put, List.setIfInBounds_toArray, List.set_cons_zero, List.set_cons_succ]
    refine wpS_quiet (some 45) { dst := some 45, op := Op.fieldAddr 31 (Operand.tmp 3) 1, type := _, pos := _, after := _, guard := none } _ rfl rfl (by rfl) (fun wE hE => by (go_simp; try with_reducible rfl)) ?_; simp only [Act.put, List.setIfInBounds_toArray, List.set_cons_zero, List.set_cons_succ]
    refine wpS_quiet (some 46) { dst := some 46, op := Op.load 3 (Operand.tmp 45), type := _, pos := _, after := _, guard := none } _ rfl rfl (by rfl) (fun wE hE => by (have zk0 := hE.cellS s5; have zk1 := hE.cellS t1; have zk2 := hE.cellS t2; go_simp; try with_reducible rfl)) ?_; simp only [Act.put, List.setIfInBounds_toArray, List.set_cons_zero, List.set_cons_succ]
    refine wpS_quiet (some 47) { dst := some 47, op := Op.move (Operand.tmp 5), type := _, pos := _, after := _, guard := none } _ rfl rfl (by rfl) (fun wE hE => by (go_simp; try with_reducible rfl)) ?_; simp only [Act.put, List.setIfInBounds_toArray, List.set_cons_zero, List.set_cons_succ]
    refine wpS_quiet (some 48) { dst := some 48, op := Op.binOp BinOp.rem 3 (Operand.tmp 46) (Operand.tmp 47) 3, type := _, pos := _, after := _, guard := none } _ rfl rfl (by rfl) (fun wE hE => by (go_simp; try with_reducible rfl)) ?_; simp only [Act.put, List.setIfInBounds_toArray, List.set_cons_zero, List.set_cons_succ]
    refine wpS_quiet (some 49) { dst := some 49, op := Op.fieldAddr 31 (Operand.tmp 3) 2, type := _, pos := _, after := _, guard := none } _ rfl rfl (by rfl) (fun wE hE => by (go_simp; try with_reducible rfl)) ?_; simp only [Act.put, List.setIfInBounds_toArray, List.set_cons_zero, List.set_cons_succ]
    refine wpS_quiet (some 50) { dst := some 50, op := Op.load 9 (Operand.tmp 49), type := _, pos := _, after := _, guard := none } _ rfl rfl (by rfl) (fun wE hE => by (have zk0 := hE.cellS s5; have zk1 := hE.cellS t1; have zk2 := hE.cellS t2; go_simp; try with_reducible rfl)) ?_; simp only [Act.put, List.setIfInBounds_toArray, List.set_cons_zero, List.set_cons_succ]
    refine wpS_quiet (some 51) { dst := some 51, op := Op.indexAddr 22 (Operand.tmp 44) (Operand.tmp 48), type := _, pos := _, after := _, guard := none } _ rfl rfl (by rfl) (fun wE hE => by (go_simp; try with_reducible rfl)) ?_; simp only [Act.put, List.setIfInBounds_toArray, List.set_cons_zero, List.set_cons_succ]
    refine wpS_store none { dst := none, op := Op.store 9 (Operand.tmp 51) (Operand.tmp 50), type := _, pos := _, after := _, guard := none } rfl rfl (by rfl) (b := ba) (off := j) (val := .string s.text) (vs := [.string s.text]) (.tmp 51) (.tmp 50) 9 rfl rfl rfl rfl KB rfl (by have := HN.out; simp; omega) rfl ?_
    intro w5 K5 x5
    simp only [Act.put, List.setIfInBounds_toArray, List.set_cons_zero, List.set_cons_succ]
    change Exit.inBlock _ _ _ _ _
    rw [over_strs _ _ _ _ (by rw [← HN.out]; exact hjn)] at K5
    have K45 := K4k.out.extX x5.undrew (by omega)
    have KR5 := KR4.extX x5.undrew (by omega)
    clear s0 s1 s2 s3 s4 s5
    obtain ⟨s0, s1, s2, s3, s4, s5⟩ := gd_load K45
    go_wp2_with (refine wpList_store rfl rfl (.tmp 4) (.tmp 80) 24 rfl rfl rfl rfl KR5 rfl (Nat.le_of_ble_eq_true rfl) rfl ?_; intro w9 K9 x9)
    refine bodyPost_ret (results_cell_row rfl _ _ (w.heap.size + 1 + 1) _ _ (0, 0) _ rfl K9 Tryz.underlying24 rfl rfl) rfl ?_
    refine ⟨some ⟨ba, 0, none⟩, n, _, rfl, (by show n = (seenMs g.members s).length; rw [hset.out, List.length_set]; exact HN.out), ?_, ?_⟩
    · show (Rp.slice Rp.str).K w9 (fun k => w.heap.size ≤ k) (seenMs g.members s) _
      rw [hset.out]
      have := strs_slice (ok := fun k => w.heap.size ≤ k) (show w.heap.size ≤ ba by omega) (K5.extX x9 (by omega)) (by rw [List.length_set]; exact hcl) hcm (fun x hx' => by
        rcases List.mem_or_eq_of_mem_set hx' with h | rfl
        · exact hx x h
        · unfold maxLen; omega)
      rw [List.length_set, ← HN.out] at this
      exact this
    · exact ((E4.trans (x5.undrew.mono (fun k _ h => by have h : k = ba := h; show w.heap.size ≤ k; omega))).trans (x9.mono (fun k _ h => by have h : k = w.heap.size + 1 + 1 := h; show w.heap.size ≤ k; omega))).toExt (fun k hk => hk)
  have q1 : (s.kind == 1) = false := by simpa using h1
  by_cases h3 : s.kind = 3
  · have q3 : (s.kind == 3) = true := by simpa using h3
    by_cases hn0 : n = 0
    · have d0 : decide ((0 : Int) < (n : Int)) = false := decide_eq_false (by omega)
      have hsame : seenMs g.members s = g.members := by
        unfold seenMs
        rw [← HN.out]
        rw [if_neg (by omega), if_neg (by omega), if_neg (by omega)]
      replace hsame := Lib.hid hsame
      replace h3 := Lib.hid h3; obtain rfl := hn0
      go_wp2_with (first
        | (at_builtin
           change wpList _ _ _ _ _ ((((w.alloc (.cells (gdCells g A 0 cap).toArray 24)).alloc (.cells (stCells s).toArray 31)).alloc (.cells #[.string ⟨#[]⟩, .string ⟨#[]⟩, .string ⟨#[]⟩, .bool false, .bool false, .slice none 0 0] 24)).alloc (.cells #[] 9))
           rw [← hW]
           refine wpList_val rfl (exec_app (.tmp 10) (.tmp 12) 22 rfl rfl rfl r1) ?_
           replace hW := Lib.hid hW)
        | (refine wpList_store rfl rfl (.tmp 14) (.tmp 13) 22 rfl rfl rfl rfl KV1 rfl (Nat.le_of_ble_eq_true rfl) rfl ?_
           intro w4 K4 x4
           have K4' : Blk w4 w.heap.size 24 (gdCells g A1 0 c1) := K4
           have KS4 := KS1.extX x4 (by omega)
           have KR4 := KR1.extX x4 (by omega)
           have o4 := o1.extX x4 (fun k h1 _ h2 => by have h2 : k = w.heap.size := h2; omega)
           have E4 : ExtX (fun k => w.heap.size ≤ k) w w4 := ((EW.toX _).trans (x1'.mono (fun k _ h => by have h : w.heap.size + 1 + 1 + 1 ≤ k := h; show w.heap.size ≤ k; omega))).trans (x4.mono (fun k _ h => by have h : k = w.heap.size := h; show w.heap.size ≤ k; omega))
           have t0 := KS4.cell (o := 0) rfl
           have t1 := KS4.cell (o := 1) rfl
           skip
           have t2 := KS4.cell (o := 2) rfl
           have hs4 : w.heap.size + 1 + 1 + 1 + 1 ≤ w4.heap.size := by have := x4.size; omega
           obtain ⟨s0, s1, s2, s3, s4, s5⟩ := gd_load K4'
           have HO4 := Lib.hid o4
           have K4k := Lib.hid K4'
           clear K4 K4' o4)
        | (refine wpList_store rfl rfl (.tmp 4) (.tmp 80) 24 rfl rfl rfl rfl KR4 rfl (Nat.le_of_ble_eq_true rfl) rfl ?_; intro w9 K9 x9)
        | fail)
      refine bodyPost_ret (results_cell_row rfl _ _ (w.heap.size + 1 + 1) _ _ (0, 0) _ rfl K9 Tryz.underlying24 rfl rfl) rfl ?_
      refine ⟨A1, 0, c1, rfl, (by show 0 = (seenMs g.members s).length; rw [hsame.out]; exact HN.out), ?_, ?_⟩
      · show (Rp.slice Rp.str).K w9 (fun k => w.heap.size ≤ k) (seenMs g.members s) _
        rw [hsame.out, HN.out]
        have := (HO4.out.extX x9 (fun k h1 _ h2 => by have h2 : k = w.heap.size + 1 + 1 := h2; have h1 : w.heap.size + 1 + 1 + 1 ≤ k := h1; omega)).slice
        rw [HN.out] at this
        exact (Rp.slice Rp.str).mono (fun k h => by have h : w.heap.size + 1 + 1 + 1 ≤ k := h; show w.heap.size ≤ k; omega) this
      · exact (E4.trans (x9.mono (fun k _ h => by have h : k = w.heap.size + 1 + 1 := h; show w.heap.size ≤ k; omega))).toExt (fun k hk => hk)
    have d0 : decide ((0 : Int) < (n : Int)) = true := decide_eq_true (by omega)
    by_cases hm0 : s.mem < 0
    · have dm : decide (0 ≤ s.mem) = false := decide_eq_false (by omega)
      have hsame : seenMs g.members s = g.members := by
        unfold seenMs
        rw [← HN.out]
        rw [if_neg (by omega), if_neg (by omega), if_neg (by omega)]
      replace hsame := Lib.hid hsame
      replace h3 := Lib.hid h3
      go_wp2_with (first
        | (at_builtin
           change wpList _ _ _ _ _ ((((w.alloc (.cells (gdCells g A n cap).toArray 24)).alloc (.cells (stCells s).toArray 31)).alloc (.cells #[.string ⟨#[]⟩, .string ⟨#[]⟩, .string ⟨#[]⟩, .bool false, .bool false, .slice none 0 0] 24)).alloc (.cells #[] 9))
           rw [← hW]
           refine wpList_val rfl (exec_app (.tmp 10) (.tmp 12) 22 rfl rfl rfl r1) ?_
           replace hW := Lib.hid hW)
        | (refine wpList_store rfl rfl (.tmp 14) (.tmp 13) 22 rfl rfl rfl rfl KV1 rfl (Nat.le_of_ble_eq_true rfl) rfl ?_
           intro w4 K4 x4
           have K4' : Blk w4 w.heap.size 24 (gdCells g A1 n c1) := K4
           have KS4 := KS1.extX x4 (by omega)
           have KR4 := KR1.extX x4 (by omega)
           have o4 := o1.extX x4 (fun k h1 _ h2 => by have h2 : k = w.heap.size := h2; omega)
           have E4 : ExtX (fun k => w.heap.size ≤ k) w w4 := ((EW.toX _).trans (x1'.mono (fun k _ h => by have h : w.heap.size + 1 + 1 + 1 ≤ k := h; show w.heap.size ≤ k; omega))).trans (x4.mono (fun k _ h => by have h : k = w.heap.size := h; show w.heap.size ≤ k; omega))
           have t0 := KS4.cell (o := 0) rfl
           have t1 := KS4.cell (o := 1) rfl
           skip
           have t2 := KS4.cell (o := 2) rfl
           have hs4 : w.heap.size + 1 + 1 + 1 + 1 ≤ w4.heap.size := by have := x4.size; omega
           obtain ⟨s0, s1, s2, s3, s4, s5⟩ := gd_load K4'
           have HO4 := Lib.hid o4
           have K4k := Lib.hid K4'
           clear K4 K4' o4)
        | (refine wpList_store rfl rfl (.tmp 4) (.tmp 80) 24 rfl rfl rfl rfl KR4 rfl (Nat.le_of_ble_eq_true rfl) rfl ?_; intro w9 K9 x9)
        | fail)
      refine bodyPost_ret (results_cell_row rfl _ _ (w.heap.size + 1 + 1) _ _ (0, 0) _ rfl K9 Tryz.underlying24 rfl rfl) rfl ?_
      refine ⟨A1, n, c1, rfl, (by show n = (seenMs g.members s).length; rw [hsame.out]; exact HN.out), ?_, ?_⟩
      · show (Rp.slice Rp.str).K w9 (fun k => w.heap.size ≤ k) (seenMs g.members s) _
        rw [hsame.out, HN.out]
        have := (HO4.out.extX x9 (fun k h1 _ h2 => by have h2 : k = w.heap.size + 1 + 1 := h2; have h1 : w.heap.size + 1 + 1 + 1 ≤ k := h1; omega)).slice
        rw [HN.out] at this
        exact (Rp.slice Rp.str).mono (fun k h => by have h : w.heap.size + 1 + 1 + 1 ≤ k := h; show w.heap.size ≤ k; omega) this
      · exact (E4.trans (x9.mono (fun k _ h => by have h : k = w.heap.size + 1 + 1 := h; show w.heap.size ≤ k; omega))).toExt (fun k hk => hk)
    have dm : decide (0 ≤ s.mem) = true := decide_eq_true (by omega)
    obtain ⟨j, hj⟩ : ∃ j, s.mem.toNat % n = j := ⟨_, rfl⟩
    have hjn : j < n := by rw [← hj]; exact Nat.mod_lt _ (by omega)
    have hrem : s.mem.tmod (n : Int) = (j : Int) := by
      rw [← hj]
      obtain ⟨q, hq⟩ := Int.eq_ofNat_of_zero_le (by omega : 0 ≤ s.mem)
      rw [hq]
      rfl
    have hdel : Hid (seenMs g.members s = g.members.take j ++ g.members.drop (j + 1)) := Lib.hid (by
      unfold seenMs
      rw [← HN.out, if_neg (by omega), if_neg (by omega), if_pos ⟨h3, by omega, by omega⟩, hj])
    replace h3 := Lib.hid h3
    replace hj := Lib.hid hj
    go_wp2_with (first
      | (at_builtin
         change wpList _ _ _ _ _ ((((w.alloc (.cells (gdCells g A n cap).toArray 24)).alloc (.cells (stCells s).toArray 31)).alloc (.cells #[.string ⟨#[]⟩, .string ⟨#[]⟩, .string ⟨#[]⟩, .bool false, .bool false, .slice none 0 0] 24)).alloc (.cells #[] 9))
         rw [← hW]
         refine wpList_val rfl (exec_app (.tmp 10) (.tmp 12) 22 rfl rfl rfl r1) ?_
         replace hW := Lib.hid hW)
      | (refine wpList_store rfl rfl (.tmp 14) (.tmp 13) 22 rfl rfl rfl rfl KV1 rfl (Nat.le_of_ble_eq_true rfl) rfl ?_
         intro w4 K4 x4
         have K4' : Blk w4 w.heap.size 24 (gdCells g A1 n c1) := K4
         have KS4 := KS1.extX x4 (by omega)
         have KR4 := KR1.extX x4 (by omega)
         have o4 := o1.extX x4 (fun k h1 _ h2 => by have h2 : k = w.heap.size := h2; omega)
         have E4 : ExtX (fun k => w.heap.size ≤ k) w w4 := ((EW.toX _).trans (x1'.mono (fun k _ h => by have h : w.heap.size + 1 + 1 + 1 ≤ k := h; show w.heap.size ≤ k; omega))).trans (x4.mono (fun k _ h => by have h : k = w.heap.size := h; show w.heap.size ≤ k; omega))
         have t0 := KS4.cell (o := 0) rfl
         have t1 := KS4.cell (o := 1) rfl
         skip
         have t2 := KS4.cell (o := 2) rfl
         have hs4 : w.heap.size + 1 + 1 + 1 + 1 ≤ w4.heap.size := by have := x4.size; omega
         obtain ⟨s0, s1, s2, s3, s4, s5⟩ := gd_load K4'
         have HO4 := Lib.hid o4
         have K4k := Lib.hid K4'
         clear K4 K4' o4)
      | fail)
    have hne : g.members ≠ [] := by intro h; have := HN.out; rw [h] at this; simp at this; omega
    obtain ⟨ba, c', rest, hv, hba, KB, hcl, hcm, hx⟩ := HO4.out.strs hne
    rw [← HN.out] at hv
    obtain ⟨rfl, -, hcc⟩ := (Value.slice.injEq _ _ _ _ _ _).mp hv
    subst hcc
    have r1' := fun w => run_sliceAt_to (P := Tryz.prog) Tryz.underlying22 infoStrSz (some ⟨ba, 0, none⟩) n c1 j (by omega) w
    have r2' := fun w => run_sliceAt_from (P := Tryz.prog) Tryz.underlying22 infoStrSz (some ⟨ba, 0, none⟩) n c1 (j + 1) (by omega) w
    obtain ⟨A2, hA2⟩ : ∃ A2, (if c1 = j + 1 then some (⟨ba, 0, none⟩ : Addr) else (some (⟨ba, 0, none⟩ : Addr)).map (·.add ((j + 1) * 1))) = A2 := ⟨_, rfl⟩
    rw [hA2] at r2'
    simp only [Int.natCast_add, Int.natCast_one] at r2'
    obtain ⟨w7, rl', r7, I7, hl7, x7⟩ := run_deleteS (w := w4.drew) KB hcl (by rw [← HN.out]; exact hjn) hA2
    rw [← HN.out] at r7
    generalize hL' : g.members.take j ++ g.members.drop (j + 1) = L' at *
    replace hL' := Lib.hid hL'
    have hwr : IntKind.i64.wrap ((j : Int) + 1) = (j : Int) + 1 := by rw [IntKind.wrap_i64]; omega
    replace hA2 := Lib.hid hA2
    replace r1 := Lib.hid r1
    refine wp_region_sched (ops := ops_21_9) (ExtX (fun k => k = ba)) [11] (.quiet 0 (.quiet 1 (.quiet 2 (.quiet 3 (.quiet 4 (.quiet 5 (.quiet 6 (.quiet 7 (.quiet 8 (.loud 9 (.quiet 10 (.last 11 (.done))) (.stop))))))))))) (by kernel_rfl) (ExtX.refl (fun k => k = ba)) (fun _ _ _ => ExtX.trans) (by kernel_rfl) (fun _ _ d _ _ h => by cases d <;> exact h) ?_
    refine wpS_quiet (some 69) { dst := some 69, op := Op.fieldAddr 24 (Operand.tmp 2) 5, type := _, pos := _, after := _, guard := none } _ rfl rfl (by rfl) (fun wE hE => by (go_simp; try with_reducible rfl)) ?_; simp only [Act.put, List.setIfInBounds_toArray, List.set_cons_zero, List.set_cons_succ]
    refine wpS_quiet (some 70) { dst := some 70, op := Op.load 22 (Operand.tmp 69), type := _, pos := _, after := _, guard := none } _ rfl rfl (by rfl) (fun wE hE => by (have zk0 := hE.cellS (by show ¬ (w.heap.size = ba); omega) s5; go_simp; try with_reducible rfl)) ?_; simp only [Act.put, List.setIfInBounds_toArray, List.set_cons_zero, List.set_cons_succ]
    refine wpS_quiet (some 71) { dst := some 71, op := Op.move (Operand.tmp 6), type := _, pos := _, after := _, guard := none } _ rfl rfl (by rfl) (fun wE hE => by (go_simp; try with_reducible rfl)) ?_; simp only [Act.put, List.setIfInBounds_toArray, List.set_cons_zero, List.set_cons_succ]
    refine wpS_quiet (some 72) { dst := some 72, op := Op.slice 22 (Operand.tmp 70) none (some (Operand.tmp 71)) none, type := _, pos := _, after := _, guard := none } _ rfl rfl (by rfl) (fun wE hE => by (go_simp; try with_reducible rfl)) ?_; simp only [Act.put, List.setIfInBounds_toArray, List.set_cons_zero, List.set_cons_succ]
    refine wpS_quiet (some 73) { dst := some 73, op := Op.fieldAddr 24 (Operand.tmp 2) 5, type := _, pos := _, after := _, guard := none } _ rfl rfl (by rfl) (fun wE hE => by (go_simp; try with_reducible rfl)) ?_; simp only [Act.put, List.setIfInBounds_toArray, List.set_cons_zero, List.set_cons_succ]
    refine wpS_quiet (some 74) { dst := some 74, op := Op.load 22 (Operand.tmp 73), type := _, pos := _, after := _, guard := none } _ rfl rfl (by rfl) (fun wE hE => by (have zk0 := hE.cellS (by show ¬ (w.heap.size = ba); omega) s5; go_simp; try with_reducible rfl)) ?_; simp only [Act.put, List.setIfInBounds_toArray, List.set_cons_zero, List.set_cons_succ]
    refine wpS_quiet (some 75) { dst := some 75, op := Op.move (Operand.tmp 6), type := _, pos := _, after := _, guard := none } _ rfl rfl (by rfl) (fun wE hE => by (go_simp; try with_reducible rfl)) ?_; simp only [Act.put, List.setIfInBounds_toArray, List.set_cons_zero, List.set_cons_succ]
    refine wpS_quiet (some 76) { dst := some 76, op := Op.binOp BinOp.add 3 (Operand.tmp 75) (Operand.const (Value.int IntKind.i64 1)) 3, type := _, pos := _, after := _, guard := none } _ rfl rfl (by rfl) (fun wE hE => by (go_simp; try with_reducible rfl)) ?_; simp only [Act.put, List.setIfInBounds_toArray, List.set_cons_zero, List.set_cons_succ]
    refine wpS_quiet (some 77) { dst := some 77, op := Op.slice 22 (Operand.tmp 74) (some (Operand.tmp 76)) none none, type := _, pos := _, after := _, guard := none } _ rfl rfl (by rfl) (fun wE hE => by (go_simp; try with_reducible rfl)) ?_; simp only [Act.put, List.setIfInBounds_toArray, List.set_cons_zero, List.set_cons_succ]
    refine wpS_upd (some 78) { dst := some 78, op := Op.call { callee := Callee.builtin Builtin.append, args := #[Operand.tmp 72, Operand.tmp 77], argTypes := #[22, 22] }, type := _, pos := _, after := _, guard := none } rfl rfl (by rfl) ?_ trivial
    refine ⟨_, w7, exec_app (.tmp 72) (.tmp 77) 22 rfl rfl rfl r7, x7, ?_⟩
    simp only [Act.put, List.setIfInBounds_toArray, List.set_cons_zero, List.set_cons_succ]
    refine wpS_quiet (some 79) { dst := some 79, op := Op.fieldAddr 24 (Operand.tmp 2) 5, type := _, pos := _, after := _, guard := none } _ rfl rfl (by rfl) (fun wE hE => by (go_simp; try with_reducible rfl)) ?_; simp only [Act.put, List.setIfInBounds_toArray, List.set_cons_zero, List.set_cons_succ]
    have K47 := K4k.out.extX x7.undrew (by omega)
    have KR47 := KR4.extX x7.undrew (by omega)
    refine wpS_store none { dst := none, op := Op.store 22 (Operand.tmp 79) (Operand.tmp 78), type := _, pos := _, after := _, guard := none } rfl rfl (by rfl) (.tmp 79) (.tmp 78) 22 rfl rfl rfl rfl K47 rfl (Nat.le_of_ble_eq_true rfl) rfl ?_
    intro w8 K8 x8
    simp only [Act.put, List.setIfInBounds_toArray, List.set_cons_zero, List.set_cons_succ]
    change Exit.inBlock _ _ _ _ _
    have K8' : Blk w8 w.heap.size 24 (gdCells g (some ⟨ba, 0, none⟩) L'.length c1) := K8
    have KR8 := KR47.extX x8 (by omega)
    clear s0 s1 s2 s3 s4 s5 r1' r2' r7
    obtain ⟨s0, s1, s2, s3, s4, s5⟩ := gd_load K8'
    have I9 := I7.extX x8 (by omega)
    go_wp2_with (refine wpList_store rfl rfl (.tmp 4) (.tmp 80) 24 rfl rfl rfl rfl KR8 rfl (Nat.le_of_ble_eq_true rfl) rfl ?_; intro w9 K9 x9)
    refine bodyPost_ret (results_cell_row rfl _ _ (w.heap.size + 1 + 1) _ _ (0, 0) _ rfl K9 Tryz.underlying24 rfl rfl) rfl ?_
    refine ⟨some ⟨ba, 0, none⟩, L'.length, c1, rfl, (by show _ = (seenMs g.members s).length; rw [hdel.out]), ?_, ?_⟩
    · show (Rp.slice Rp.str).K w9 (fun k => w.heap.size ≤ k) (seenMs g.members s) _
      rw [hdel.out]
      exact strs_slice (show w.heap.size ≤ ba by omega) (I9.extX x9 (by omega)) hl7 hcm (fun x hx' => by
        rw [← hL'.out] at hx'
        rcases List.mem_append.1 hx' with h | h
        · exact hx x (List.mem_of_mem_take h)
        · exact hx x (List.mem_of_mem_drop h))
    · exact (((E4.trans (x7.undrew.mono (fun k _ h => by have h : k = ba := h; show w.heap.size ≤ k; omega))).trans (x8.mono (fun k _ h => by have h : k = w.heap.size := h; show w.heap.size ≤ k; omega))).trans (x9.mono (fun k _ h => by have h : k = w.heap.size + 1 + 1 := h; show w.heap.size ≤ k; omega))).toExt (fun k hk => hk)
  have q3 : (s.kind == 3) = false := by simpa using h3
  have hsame : seenMs g.members s = g.members := by
    unfold seenMs
    rw [← HN.out]
    rw [if_neg (by omega), if_neg (by omega), if_neg (by omega)]
  replace hsame := Lib.hid hsame
  skip
  go_wp2_with (first
    | (at_builtin
       change wpList _ _ _ _ _ ((((w.alloc (.cells (gdCells g A n cap).toArray 24)).alloc (.cells (stCells s).toArray 31)).alloc (.cells #[.string ⟨#[]⟩, .string ⟨#[]⟩, .string ⟨#[]⟩, .bool false, .bool false, .slice none 0 0] 24)).alloc (.cells #[] 9))
       rw [← hW]
       refine wpList_val rfl (exec_app (.tmp 10) (.tmp 12) 22 rfl rfl rfl r1) ?_
       replace hW := Lib.hid hW)
    | (refine wpList_store rfl rfl (.tmp 14) (.tmp 13) 22 rfl rfl rfl rfl KV1 rfl (Nat.le_of_ble_eq_true rfl) rfl ?_
       intro w4 K4 x4
       have K4' : Blk w4 w.heap.size 24 (gdCells g A1 n c1) := K4
       have KS4 := KS1.extX x4 (by omega)
       have KR4 := KR1.extX x4 (by omega)
       have o4 := o1.extX x4 (fun k h1 _ h2 => by have h2 : k = w.heap.size := h2; omega)
       have E4 : ExtX (fun k => w.heap.size ≤ k) w w4 := ((EW.toX _).trans (x1'.mono (fun k _ h => by have h : w.heap.size + 1 + 1 + 1 ≤ k := h; show w.heap.size ≤ k; omega))).trans (x4.mono (fun k _ h => by have h : k = w.heap.size := h; show w.heap.size ≤ k; omega))
       have t0 := KS4.cell (o := 0) rfl
       have t1 := KS4.cell (o := 1) rfl
       skip
       have t2 := KS4.cell (o := 2) rfl
       have hs4 : w.heap.size + 1 + 1 + 1 + 1 ≤ w4.heap.size := by have := x4.size; omega
       obtain ⟨s0, s1, s2, s3, s4, s5⟩ := gd_load K4'
       have HO4 := Lib.hid o4
       have K4k := Lib.hid K4'
       clear K4 K4' o4)
    | (refine wpList_store rfl rfl (.tmp 4) (.tmp 80) 24 rfl rfl rfl rfl KR4 rfl (Nat.le_of_ble_eq_true rfl) rfl ?_; intro w9 K9 x9)
    | fail)
  refine bodyPost_ret (results_cell_row rfl _ _ (w.heap.size + 1 + 1) _ _ (0, 0) _ rfl K9 Tryz.underlying24 rfl rfl) rfl ?_
  refine ⟨A1, n, c1, rfl, (by show n = (seenMs g.members s).length; rw [hsame.out]; exact HN.out), ?_, ?_⟩
  · show (Rp.slice Rp.str).K w9 (fun k => w.heap.size ≤ k) (seenMs g.members s) _
    rw [hsame.out, HN.out]
    have := (HO4.out.extX x9 (fun k h1 _ h2 => by have h2 : k = w.heap.size + 1 + 1 := h2; have h1 : w.heap.size + 1 + 1 + 1 ≤ k := h1; omega)).slice
    rw [HN.out] at this
    exact (Rp.slice Rp.str).mono (fun k h => by have h : w.heap.size + 1 + 1 + 1 ≤ k := h; show w.heap.size ≤ k; omega) this
  · exact (E4.trans (x9.mono (fun k _ h => by have h : k = w.heap.size + 1 + 1 := h; show w.heap.size ≤ k; omega))).toExt (fun k hk => hk)
end Go.Proofs.YtdokcengcekfgaaGreatDoor
