/-
  What FnCompactOnce wants: appends to what is full; lists that fall; what three rounds ask.
-/
import Derived.Test.YthnhgfpkmbgkdaaDo
import Derived.Handy
namespace Go.Proofs.Ythnhgfpkmbgkdaa
open Go.RowKit
set_option linter.unusedSimpArgs false
set_option linter.unusedVariables false

/-- an append to a slice that is full: a new slice -/
theorem run_app_full {α : Type} {P : Program} {d : Rp α} {w : World} {ok ok2 : Nat → Prop} (t ty e : TypeId) (i : TypeInfo) (z : Value) (bytes : Nat) (ht : P.underlying t = some (.slice e)) (hi : P.info? e = some i) (hz : i.zero = some z)
    (hsize : i.size = d.sz) (hby : i.bytes = bytes) (hzs : z.cells.size = d.sz) {xs ys : List α} {A B : Option Addr} {c : Nat} (h1 : (Rp.slice d).K w ok xs [.slice A xs.length xs.length]) (h2 : (Rp.slice d).K w ok2 ys [.slice B ys.length c]) (hy : ys ≠ [])
    (h63 : xs.length + ys.length ≤ maxLen) (hbytes : (xs.length + ys.length) * bytes ≤ 140737488355328) :
    ∃ v' w', (Builtin.append_ #[t, t] ty #[.slice A xs.length xs.length, .slice B ys.length c]).run P w = .ok v' w' ∧ OwnP d w' any w.heap.size e v' (xs ++ ys) ∧ Ext w w' := by
  obtain ⟨_, hcy, _, row2⟩ := sl_cap h2
  obtain ⟨_, _, _, row1⟩ := sl_cap h1
  have hyl : 0 < ys.length := List.length_pos_iff.2 hy
  obtain ⟨b2, o2, rfl, _⟩ := row2.addr hy
  obtain ⟨news, hl2, hn2, hk2⟩ := row2.news rfl
  obtain ⟨a1, hA⟩ | hA : (∃ a1, A = some a1) ∨ A = none := by cases A with | none => exact .inr rfl | some a => exact .inl ⟨a, rfl⟩
  rotate_left
  · subst hA
    have hx : xs = [] := by
      by_cases hx : xs = []
      · exact hx
      · obtain ⟨b, o, hb, _⟩ := row1.addr hx; cases hb
    subst hx
    obtain ⟨v', w', hr, ho, hg, _⟩ := run_app (d := d) t ty e i z bytes ht hi hz hsize hby hzs (OwnP.nil d w any w.heap.size e) (fun _ _ => trivial) ⟨b2, o2, none⟩ c news ys hl2 hn2
      (fun i y hy => d.mono (fun _ _ => ⟨trivial, by simp [Value.ownBlock]⟩) (hk2 i y hy)) h63 hbytes (Nat.le_refl _)
    exact ⟨v', w', hr, ho, Ext.ofGrown hg⟩
  · subst hA
    obtain ⟨olds, hl1, hn1, hk1⟩ : ∃ olds : List Value, olds.length = xs.length * d.sz ∧ (∀ j u, olds[j]? = some u → w.cell? (a1.add j) = some u) ∧ ∀ i x, xs[i]? = some x → d.K w ok x ((olds.drop (i * d.sz)).take d.sz) := by
      by_cases hx : xs = []
      · subst hx; exact ⟨[], by simp, by simp, by simp⟩
      · obtain ⟨b, o, hb, _⟩ := row1.addr hx
        simp only [Option.some.injEq] at hb
        subst hb
        exact row1.news rfl
    have hsm : xs.length + ys.length ≤ 9223372036854775807 := by simp only [maxLen] at h63; omega
    have hr := run_append_grow (P := P) w t ty e i z ht hi hz a1 xs.length xs.length olds (by rw [hsize]; exact hl1) hn1 ⟨b2, o2, none⟩ ys.length c news (by rw [hsize]; exact hl2) hn2 (by omega) (by omega) (by rw [hby]; exact growslice_fits (by omega) hbytes)
    have hE : Ext w (w.drew.alloc (.cells (olds.toArray ++ news.toArray ++ Builtin.zeroCells z.cells (grownCap w (xs.length + ys.length) xs.length e - (xs.length + ys.length))) e)) := (Ext.refl w).drew.alloc _
    have hlen : (olds ++ news).length = (xs.length + ys.length) * d.sz := by rw [List.length_append, hl1, hl2, Nat.add_mul]
    have hla : (xs ++ ys).length = xs.length + ys.length := List.length_append
    refine ⟨_, _, hr, ⟨(fun g hg => trivial), olds ++ news, ⟨by rw [hla]; exact hlen, .inr ⟨w.heap.size, _, _, by rw [hla], Nat.le_refl _, heap_alloc_new w.drew _, by rw [hla]; exact grownCap_ge w _ _ e, grownCap_le_maxLen w _ _ e h63, ?_, ?_⟩⟩, fun k x hx => ?_⟩, hE⟩
    · have hge := grownCap_ge w (xs.length + ys.length) xs.length e
      simp only [Array.size_append, List.size_toArray, size_zeroCells, hzs, hl1, hl2, ← Nat.add_mul]
      congr 1
      omega
    · rw [hla]
      simp only [Array.toList_append, List.append_assoc]
      rw [← List.append_assoc, ← hlen]
      exact List.take_left
    · have move : ∀ ok' x cs, d.K w ok' x cs → d.K (w.drew.alloc (.cells (olds.toArray ++ news.toArray ++ Builtin.zeroCells z.cells (grownCap w (xs.length + ys.length) xs.length e - (xs.length + ys.length))) e)) (fun b => any b ∧ some b ≠ Value.ownBlock (.slice (some ⟨w.heap.size, 0, none⟩) (xs.length + ys.length) (grownCap w (xs.length + ys.length) xs.length e))) x cs := by
        intro ok' x cs hx
        refine d.mono (fun b hb => ⟨trivial, fun he => ?_⟩) (d.ext (w := w) (fun b hb => hE.2.2.2.2 b hb.2) (d.lt hx))
        simp [Value.ownBlock] at he
        have := hb.2
        omega
      by_cases hki : k < xs.length
      · have hx' : xs[k]? = some x := by rwa [List.getElem?_append_left hki] at hx
        have := move _ _ _ (hk1 k x hx')
        rwa [show ((olds ++ news).drop (k * d.sz)).take d.sz = (olds.drop (k * d.sz)).take d.sz from ?_]
        have hle : (k + 1) * d.sz ≤ xs.length * d.sz := Nat.mul_le_mul_right _ hki
        rw [Nat.add_mul, Nat.one_mul] at hle
        rw [List.drop_append_of_le_length (by rw [hl1]; omega), List.take_append_of_le_length (by rw [List.length_drop, hl1]; omega)]
      · have hx' : ys[k - xs.length]? = some x := by rwa [List.getElem?_append_right (by omega)] at hx
        have := move _ _ _ (hk2 _ x hx')
        rwa [show ((olds ++ news).drop (k * d.sz)).take d.sz = (news.drop ((k - xs.length) * d.sz)).take d.sz from ?_]
        have hmul : k * d.sz = xs.length * d.sz + (k - xs.length) * d.sz := by rw [← Nat.add_mul]; congr 1; omega
        rw [List.drop_append, List.drop_of_length_le (by rw [hl1, hmul]; omega), List.nil_append, hl1, hmul, Nat.add_sub_cancel_left]
/-- an append to a slice of the call's own, of whatever can be read -/
theorem run_app_own {α : Type} {P : Program} {d : Rp α} {w : World} {ok2 : Nat → Prop} {base : Nat} (t ty e : TypeId) (i : TypeInfo) (z : Value) (bytes : Nat) (ht : P.underlying t = some (.slice e)) (hi : P.info? e = some i) (hz : i.zero = some z)
    (hsize : i.size = d.sz) (hby : i.bytes = bytes) (hzs : z.cells.size = d.sz) {v : Value} {xs ys : List α} {B : Option Addr} {c : Nat} (hown : OwnP d w any base e v xs) (h2 : (Rp.slice d).K w ok2 ys [.slice B ys.length c]) (hk : ∀ k, ok2 k → some k ≠ v.ownBlock)
    (h63 : xs.length + ys.length ≤ maxLen) (hbytes : (xs.length + ys.length) * bytes ≤ 140737488355328) (hbase : base ≤ w.heap.size) :
    ∃ v' w', (Builtin.append_ #[t, t] ty #[v, .slice B ys.length c]).run P w = .ok v' w' ∧ OwnP d w' any base e v' (xs ++ ys) ∧ w.grownBy w' v.ownBlock := by
  obtain ⟨_, hcy, _, row2⟩ := sl_cap h2
  cases B with
  | none =>
    have hy : ys = [] := by
      by_cases hy : ys = []
      · exact hy
      · obtain ⟨b, o, hb, _⟩ := row2.addr hy; cases hb
    subst hy
    obtain ⟨A', c', he, _, _, h3, _⟩ := h2
    simp only [List.cons.injEq, Value.slice.injEq, and_true] at he
    obtain ⟨rfl, _, rfl⟩ := he
    obtain rfl := h3 rfl
    obtain ⟨h0, cells, hc, hK⟩ := id hown
    refine ⟨v, w, run_append_owned_none w base t ty e i d.sz ht hi v xs.length cells hc, by rw [List.append_nil]; exact hown, ⟨rfl, rfl, rfl, Nat.le_refl _, fun _ _ _ => rfl⟩⟩
  | some a =>
    obtain ⟨news, hl2, hn2, hk2⟩ : ∃ news : List Value, news.length = ys.length * d.sz ∧ (∀ j u, news[j]? = some u → w.cell? (a.add j) = some u) ∧ ∀ i x, ys[i]? = some x → d.K w ok2 x ((news.drop (i * d.sz)).take d.sz) := by
      by_cases hx : ys = []
      · subst hx; exact ⟨[], by simp, by simp, by simp⟩
      · obtain ⟨b, o, hb, _⟩ := row2.addr hx
        simp only [Option.some.injEq] at hb
        subst hb
        exact row2.news rfl
    obtain ⟨v', w', hr, ho, hg, _⟩ := run_app (d := d) t ty e i z bytes ht hi hz hsize hby hzs hown (fun _ _ => trivial) a c news ys hl2 hn2
      (fun i y hy => d.mono (fun b hb => ⟨trivial, hk b hb⟩) (hk2 i y hy)) h63 hbytes hbase
    exact ⟨v', w', hr, ho, hg⟩
/-- a slice up to k, without room -/
theorem run_sliceAt_full {P : Program} {t e : TypeId} (hu : P.underlying t = some (.slice e)) {sz : Nat} (hsz : (P.info? e).map (·.size) = some sz) (A : Option Addr) (n c k : Nat) (h : k ≤ c) (w : World) :
    (Instr.sliceAt t (.slice A n c) none (some (.int .i64 k)) (some (.int .i64 k))).run P w = .ok (.slice A k k) w := by
  rw [run_sliceAt hu]
  cases hq : P.info? e with
  | none => simp [hq] at hsz
  | some i =>
    have hb : (0 : Int) ≤ (k : Int) ∧ (k : Int) ≤ (c : Int) := by omega
    simp [Instr.slice, underlying, typeInfo, sizeOf, Instr.sliceBounds, Instr.sliceBound, asIntOf, hu, hq, hb]
    cases A <;> simp [Addr.add] <;> omega
theorem slice_take {α : Type} {d : Rp α} {w : World} {ok : Nat → Prop} {xs : List α} {A : Option Addr} {n c : Nat} (h : (Rp.slice d).K w ok xs [.slice A n c]) (k : Nat) (hk : k ≤ n) :
    (Rp.slice d).K w ok (xs.take k) [.slice A (xs.take k).length (xs.take k).length] := by
  obtain ⟨A', c', hv, h1, h2, h3, h4⟩ := h
  simp only [List.cons.injEq, Value.slice.injEq, and_true] at hv
  obtain ⟨rfl, rfl, rfl⟩ := hv
  refine ⟨A, (xs.take k).length, rfl, Nat.le_refl _, by rw [List.length_take]; omega, fun hn => by have := h3 hn; rw [List.length_take]; omega, fun i x hx => ?_⟩
  rw [List.getElem?_take] at hx
  split at hx
  · exact h4 i x hx
  · cases hx
theorem own_lit64 {w : World} {m : Nat} {x : Int} {b : Nat} (K : Blk w b 2 [.int .i64 x]) (hm : m ≤ b) : OwnP Rp.i64 w any m 2 (.slice (some ⟨b, 0, none⟩) 1 1) [x] := by
  refine ⟨fun g hg => trivial, [.int .i64 x], ⟨rfl, .inr ⟨b, 1, #[.int .i64 x], rfl, hm, K, Nat.le_refl _, by decide, rfl, rfl⟩⟩, fun i y hy => ?_⟩
  cases i with
  | zero => simp at hy; subst hy; exact ⟨rfl, trivial⟩
  | succ n => simp at hy
section
variable {P : Program} {ops : Array Oper} {rest : List Oper} {o : Oper} {a : Act} {Q : Exit → Act → World → Prop} {w : World}
/-- the walk at an append of which a run is known -/
theorem wpList_run (hgd : o.guard = none) (s x : Operand) (t : TypeId) (ho : o.op = .call { callee := .builtin .append, args := #[s, x], argTypes := #[t, t] }) {vs vx : Value} (hs : a.eval s = vs) (hx : a.eval x = vx) {Φ : Value → World → Prop}
    (hr : ∃ v' w', (Builtin.append_ #[t, t] o.type #[vs, vx]).run P w = .ok v' w' ∧ Φ v' w') (h : ∀ v' w', Φ v' w' → wpList P ops Q rest (a.put o.dst v') w') : wpList P ops Q (o :: rest) a w := by
  obtain ⟨v', w', hr, hf⟩ := hr
  refine wpList_plain hgd fun K hKK => ?_
  unfold Oper.wp execOp
  simp only [ho, resolve, invoke, builtin, Sem.run_bind, Sem.run_pure, Result.andThen_ok, List.map_toArray, List.map_cons, List.map_nil, hs, hx, hr]
  exact hKK _ _ (h v' w' hf)
end
theorem falls_eq : ∀ (l m : List Int), l.Perm m → l.Pairwise (fun a b => b ≤ a) → m.Pairwise (fun a b => b ≤ a) → l = m
  | [], m, h, _, _ => by rw [List.nil_perm.1 h]
  | x :: l, [], h, _, _ => by have := h.length_eq; simp at this
  | x :: l, y :: m, h, h1, h2 => by
    have hx : x ∈ y :: m := h.subset (by simp)
    have hy : y ∈ x :: l := h.symm.subset (by simp)
    have hxy : x = y := by
      rw [List.pairwise_cons] at h1 h2
      rcases List.mem_cons.1 hx with hx | hx
      · exact hx
      · rcases List.mem_cons.1 hy with hy | hy
        · exact hy.symm
        · have := h2.1 x hx; have := h1.1 y hy; omega
    subst hxy
    rw [falls_eq l m (h.cons_inv) (List.pairwise_cons.1 h1).2 (List.pairwise_cons.1 h2).2]
/-- put in at k -/
theorem falls_put {l : List Int} {n : Int} {k : Nat} (h : l.Pairwise (fun a b => b ≤ a)) (h1 : ∀ x ∈ l.take k, n ≤ x) (h2 : ∀ x ∈ l.drop k, x ≤ n) : (l.take k ++ n :: l.drop k).Pairwise (fun a b => b ≤ a) := by
  have hs : l.take k ++ l.drop k = l := List.take_append_drop k l
  rw [← hs] at h
  obtain ⟨p1, p2, p3⟩ := List.pairwise_append.1 h
  refine List.pairwise_append.2 ⟨p1, List.pairwise_cons.2 ⟨h2, p2⟩, fun a ha b hb => ?_⟩
  rcases List.mem_cons.1 hb with rfl | hb
  · exact h1 a ha
  · exact p3 a ha b hb
theorem put_perm (l : List Int) (n : Int) (k : Nat) : (l.take k ++ n :: l.drop k).Perm (n :: l) := by
  refine List.perm_middle.trans ?_
  rw [List.take_append_drop]
def onceP (h : HsD) (p : CkD) : CkD := { id := p.id, has := true, hash := h.hash, comp := h.comp, rev := p.rev, err := p.err }
def onceR (h : HsD) (ps : List CkD) (ms : List HsD) : RdD := ⟨h :: ms, [h.rev], [ps.map (onceP h)]⟩
theorem once_peers (h : HsD) (ps : List CkD) (ms : List HsD) (q : Int) : peersD (onceR h ps ms).revs (onceR h ps ms).pss q = if q = h.rev then ps.map (onceP h) else [] := by
  unfold peersD onceR
  by_cases hq : q = h.rev
  · subst hq; simp [List.idxOf_cons_self]
  · simp [hq]
theorem once_cnt (h : HsD) (ps : List CkD) : cntOf h (ps.map (onceP h)) = ps.length := by
  unfold cntOf
  rw [List.filter_eq_self.2, List.length_map]
  intro p hp
  obtain ⟨p0, _, rfl⟩ := List.mem_map.1 hp
  simp [onceP]
theorem once_same (h : HsD) (ps : List CkD) (ms : List HsD) (hne : ps ≠ []) : allSame (onceR h ps ms) h = true := by
  unfold allSame
  rw [once_peers, if_pos rfl, once_cnt, List.length_map]
  cases ps with
  | nil => exact absurd rfl hne
  | cons a l => simp
theorem once_other (h : HsD) (ps : List CkD) (ms : List HsD) {g : HsD} (hg : g.rev ≠ h.rev) : allSame (onceR h ps ms) g = false := by
  unfold allSame
  rw [once_peers, if_neg hg]; rfl
theorem once_ok (own : Int) (h : HsD) (ps : List CkD) (ms : List HsD) (hl : ps.length ≤ 12) (hm : ms.length ≤ 8) (hr : ∀ m ∈ ms, m.rev ≠ h.rev) : RdOk own (allSame (onceR h ps ms)) (allSame (onceR h ps ms)) (fun _ => []) (onceR h ps ms) := by
  refine quiet_ok own _ (by simp [onceR]; omega) (fun l hl' => ?_) (fun g hg p hp _ hc => ?_)
  · obtain rfl : l = ps.map (onceP h) := List.mem_singleton.1 hl'
    rw [List.length_map]; exact hl
  · rw [once_peers] at hp
    split at hp
    · rename_i hgr
      obtain ⟨p0, _, rfl⟩ := List.mem_map.1 hp
      rcases List.mem_cons.1 hg with rfl | hg
      · rfl
      · exact absurd hgr (hr g hg)
    · cases hp
theorem unchk_one (h : HsD) (latest : Int) : unchk latest [h] = if latest < h.rev then [h] else [] := by
  unfold unchk
  rw [show sortD [h] = [h] from rfl]
  by_cases hl : latest < h.rev
  · simp [List.takeWhile, hl]
  · simp [List.takeWhile, hl]
theorem takeWhile_falls : ∀ (l : List HsD) (r : Int), l.Pairwise (fun a b => b.rev ≤ a.rev) → l.takeWhile (fun h => decide (r < h.rev)) = l.filter (fun h => decide (r < h.rev))
  | [], r, _ => rfl
  | x :: l, r, h => by
    rw [List.pairwise_cons] at h
    by_cases hx : r < x.rev
    · rw [List.takeWhile_cons_of_pos (by simpa using hx), List.filter_cons_of_pos (by simpa using hx), takeWhile_falls l r h.2]
    · rw [List.takeWhile_cons_of_neg (by simpa using hx), List.filter_cons_of_neg (by simpa using hx)]
      symm
      refine List.filter_eq_nil_iff.2 fun y hy => ?_
      have := h.1 y hy
      simp; omega
theorem unchk_perm (r : Int) (l : List HsD) : ((unchk r l).map (·.rev)).Perm ((l.filter (fun h => decide (r < h.rev))).map (·.rev)) ∧ ((unchk r l).map (·.rev)).Pairwise (fun a b => b ≤ a) := by
  unfold unchk
  refine ⟨?_, ?_⟩
  · rw [takeWhile_falls _ _ (sortD_sorted l)]
    exact ((sortD_perm l).filter _).map _
  · rw [List.pairwise_map]
    exact (sortD_sorted l).sublist (List.takeWhile_sublist _)
theorem mem_tw {p : HsD → Bool} {x : HsD} : ∀ {l : List HsD}, x ∈ l.takeWhile p → p x = true
  | [], h => by simp at h
  | y :: l, h => by
    rw [List.takeWhile_cons] at h
    split at h
    · rename_i hy
      rcases List.mem_cons.1 h with rfl | h
      · exact hy
      · exact mem_tw h
    · cases h
/-- what three rounds ask for -/
theorem once_comp (h : HsD) (ps : List CkD) (ms : List HsD) (hne : ps ≠ []) (h1 : 1 ≤ h.rev) (hr : ∀ m ∈ ms, m.rev ≠ h.rev) :
    (compD allSame allSame (fun _ _ => []) [onceR h ps [], onceR h ps ms, onceR h ps []]).2 = ([[], [], []], [[h.rev], (unchk h.rev (h :: ms)).map (·.rev), []]) := by
  have hs := once_same h ps
  have e1 : unchk 0 [h] = [h] := by rw [unchk_one, if_pos (by omega)]
  have e3 : unchk h.rev [h] = [] := by rw [unchk_one, if_neg (by omega)]
  have hoth : ∀ g ∈ unchk h.rev (h :: ms), allSame (onceR h ps ms) g = false := fun g hg => by
    have h2 : h.rev < g.rev := by
      have := mem_tw hg
      simpa using this
    exact once_other h ps ms (by omega)
  have hask : askedG (allSame (onceR h ps ms)) (unchk h.rev (h :: ms)) = (unchk h.rev (h :: ms)).map (·.rev) := by
    rw [askedG_split _ _ (unchk h.rev (h :: ms)).length (by rw [List.take_length]; exact hoth), List.take_length, List.drop_length]
    simp [askedG]
  have s1 : stepC allSame allSame (fun _ _ => []) (0, [], []) (onceR h ps []) = (h.rev, [[]], [[h.rev]]) := by
    unfold stepC
    simp only [show (onceR h ps []).hs = [h] from rfl, e1]
    have hl : latestG (allSame (onceR h ps [])) (allSame (onceR h ps [])) 0 [h] = h.rev := by
      unfold latestG
      simp only [List.find?_cons, hs [] hne]
      unfold latestD
      rw [if_pos (by simp; omega)]
    have ha : alarmG (allSame (onceR h ps [])) (fun _ => []) [h] = [] := by unfold alarmG; split <;> rfl
    have hq : askedG (allSame (onceR h ps [])) [h] = [h.rev] := by simp [askedG, hs [] hne]
    rw [hl, ha, hq]; rfl
  have s2 : stepC allSame allSame (fun _ _ => []) (h.rev, [[]], [[h.rev]]) (onceR h ps ms) = (h.rev, [[], []], [[h.rev], (unchk h.rev (h :: ms)).map (·.rev)]) := by
    unfold stepC
    simp only [show (onceR h ps ms).hs = h :: ms from rfl]
    rw [latestG_none hoth, alarmG_none hoth, hask]; rfl
  have s3 : stepC allSame allSame (fun _ _ => []) (h.rev, [[], []], [[h.rev], (unchk h.rev (h :: ms)).map (·.rev)]) (onceR h ps []) = (h.rev, [[], [], []], [[h.rev], (unchk h.rev (h :: ms)).map (·.rev), []]) := by
    unfold stepC
    simp only [show (onceR h ps []).hs = [h] from rfl, e3]
    rfl
  unfold compD
  simp only [List.foldl_cons, List.foldl_nil]
  rw [s1, s2, s3]
end Go.Proofs.Ythnhgfpkmbgkdaa
