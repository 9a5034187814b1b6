/-
  Sorted lists: sort.Ints, slices.Sort, Clone, Compact, Equal, Contains by the shelf; cpuset's List; spec.Rising.
-/
import Derived.Test.YtfefnflcgkanpaaGreatDoorSb
import Derived.Test.YtfefnflcgkanpaaGreatDoorShelf
import Derived.Sort.OwnSortedInts
namespace Go.Proofs.YtfefnflcgkanpaaGreatDoor
open Go.RowKit Go.Sort
set_option linter.unusedSimpArgs false
set_option linter.unusedVariables false

theorem ext_grow (w : World) (k : Nat) (os : Array Obj) : Ext w (Go.Sort.grow (w.drewN k) os) := by
  refine ⟨rfl, rfl, rfl, ?_, fun i hi => ?_⟩
  · show w.heap.size ≤ (w.heap ++ os).size
    simp
  · show (w.heap ++ os)[i]? = _
    rw [Array.getElem?_append_left hi]
theorem extX_grown {w w' : World} {g : Nat} (h : w.grownBy w' (some g)) : ExtX (fun k => k = g) w w' := ⟨h.os, h.tape, h.output, h.size, fun k hk hm => h.block k hk (fun e => hm (Option.some.inj e))⟩
theorem below_ext {w w' : World} (h : Below w.heap.size w w') : Ext w w' := ⟨h.os, h.tape, h.output, h.size, fun k hk => h.block k hk⟩
namespace OwnP
variable {w w' : World} {ok : Nat → Prop} {base : Nat} {e : TypeId} {v : Value} {xs : List Int}
theorem ints (h : OwnP Rp.iv w ok base e v xs) : w.ownsRow base e 1 v xs.length (xs.map (Value.int .i64)) := by
  obtain ⟨_, cells, h1, h2⟩ := h
  have hl : cells.length = xs.length * 1 := h1.1
  rw [show xs.map (Value.int .i64) = cells from ?_]
  · exact h1
  apply List.ext_getElem?
  intro i
  by_cases hi : i < xs.length
  · have := (h2 i xs[i] (List.getElem?_eq_getElem hi)).1
    have h3 : ((cells.drop (i * 1)).take 1)[0]? = some (Value.int .i64 xs[i]) := by rw [show (cells.drop (i * 1)).take 1 = [Value.int .i64 xs[i]] from this]; rfl
    rw [List.getElem?_take_of_lt (by decide), List.getElem?_drop] at h3
    simp only [Nat.mul_one, Nat.add_zero] at h3
    rw [h3]
    simp [hi]
  · rw [List.getElem?_eq_none (by simp; omega), List.getElem?_eq_none (by omega)]
theorem ofInts (h : w.ownsRow base e 1 v xs.length (xs.map (Value.int .i64))) : OwnP Rp.iv w any base e v xs := by
  refine ⟨fun _ _ => trivial, _, h, fun i x hx => ⟨?_, trivial⟩⟩
  obtain ⟨hi, rfl⟩ := List.getElem?_eq_some_iff.1 hx
  show ((xs.map (Value.int .i64)).drop (i * 1)).take 1 = [Value.int .i64 xs[i]]
  rw [Nat.mul_one, List.drop_eq_getElem_cons (by simpa using hi)]
  simp
end OwnP
/-- whose own it is, from an earlier block on -/
theorem OwnP.base {α : Type} {d : Rp α} {w : World} {ok : Nat → Prop} {b1 b2 : Nat} {e : TypeId} {v : Value} {xs : List α} (h : OwnP d w ok b1 e v xs) (hb : b2 ≤ b1) : OwnP d w any b2 e v xs := by
  obtain ⟨_, cells, ⟨a, c⟩, dd⟩ := h
  refine ⟨fun _ _ => trivial, cells, ⟨a, ?_⟩, fun i x hx => d.mono (fun b hb => ⟨trivial, hb.2⟩) (dd i x hx)⟩
  rcases c with c | ⟨g, cap, cur, rfl, hg, rest⟩
  · exact .inl c
  · exact .inr ⟨g, cap, cur, rfl, Nat.le_trans hb hg, rest⟩
theorem sl_cap {α : Type} {d : Rp α} {w : World} {ok : Nat → Prop} {xs : List α} {A : Option Addr} {n c : Nat} (h : (Rp.slice d).K w ok xs [.slice A n c]) : n = xs.length ∧ xs.length ≤ c ∧ c ≤ maxLen ∧ d.row w ok A xs := by
  obtain ⟨A', c', he, h1, h2, _, h4⟩ := h
  simp only [List.cons.injEq, Value.slice.injEq, and_true] at he
  obtain ⟨rfl, rfl, rfl⟩ := he
  exact ⟨rfl, h1, h2, h4⟩
/-- an append to a slice of the call's own, of whatever can be read -/
theorem run_app_own {α : Type} {P : Program} {d : Rp α} {w : World} {ok2 : Nat → Prop} {base : Nat} (t ty e : TypeId) (i : TypeInfo) (z : Value) (bytes : Nat) (ht : P.underlying t = some (.slice e)) (hi : P.info? e = some i) (hz : i.zero = some z)
    (hsize : i.size = d.sz) (hby : i.bytes = bytes) (hzs : z.cells.size = d.sz) {v : Value} {xs ys : List α} {B : Option Addr} {c : Nat} (hown : OwnP d w any base e v xs) (h2 : (Rp.slice d).K w ok2 ys [.slice B ys.length c]) (hk : ∀ k, ok2 k → some k ≠ v.ownBlock)
    (h63 : xs.length + ys.length ≤ maxLen) (hbytes : (xs.length + ys.length) * bytes ≤ 140737488355328) (hbase : base ≤ w.heap.size) :
    ∃ v' w', (Builtin.append_ #[t, t] ty #[v, .slice B ys.length c]).run P w = .ok v' w' ∧ OwnP d w' any base e v' (xs ++ ys) ∧ w.grownBy w' v.ownBlock := by
  obtain ⟨_, hcy, _, row2⟩ := sl_cap h2
  cases B with
  | none =>
    have hy : ys = [] := by
      by_cases hy : ys = []
      · exact hy
      · obtain ⟨b, o, hb, _⟩ := row2.addr hy; cases hb
    subst hy
    obtain ⟨A', c', he, _, _, h3, _⟩ := h2
    simp only [List.cons.injEq, Value.slice.injEq, and_true] at he
    obtain ⟨rfl, _, rfl⟩ := he
    obtain rfl := h3 rfl
    obtain ⟨h0, cells, hc, hK⟩ := id hown
    refine ⟨v, w, run_append_owned_none w base t ty e i d.sz ht hi v xs.length cells hc, by rw [List.append_nil]; exact hown, ⟨rfl, rfl, rfl, Nat.le_refl _, fun _ _ _ => rfl⟩⟩
  | some a =>
    obtain ⟨news, hl2, hn2, hk2⟩ : ∃ news : List Value, news.length = ys.length * d.sz ∧ (∀ j u, news[j]? = some u → w.cell? (a.add j) = some u) ∧ ∀ i x, ys[i]? = some x → d.K w ok2 x ((news.drop (i * d.sz)).take d.sz) := by
      by_cases hx : ys = []
      · subst hx; exact ⟨[], by simp, by simp, by simp⟩
      · obtain ⟨b, o, hb, _⟩ := row2.addr hx
        simp only [Option.some.injEq] at hb
        subst hb
        exact row2.news rfl
    obtain ⟨v', w', hr, ho, hg, _⟩ := run_app (d := d) t ty e i z bytes ht hi hz hsize hby hzs hown (fun _ _ => trivial) a c news ys hl2 hn2
      (fun i y hy => d.mono (fun b hb => ⟨trivial, hk b hb⟩) (hk2 i y hy)) h63 hbytes hbase
    exact ⟨v', w', hr, ho, hg⟩
section
variable {P : Program} {ops : Array Oper} {rest : List Oper} {o : Oper} {a : Act} {Q : Exit → Act → World → Prop} {w : World}
/-- the walk at an append of which a run is known -/
theorem wpList_run (hgd : o.guard = none) (s x : Operand) (t : TypeId) (ho : o.op = .call { callee := .builtin .append, args := #[s, x], argTypes := #[t, t] }) {vs vx : Value} (hs : a.eval s = vs) (hx : a.eval x = vx) {Φ : Value → World → Prop}
    (hr : ∃ v' w', (Builtin.append_ #[t, t] o.type #[vs, vx]).run P w = .ok v' w' ∧ Φ v' w') (h : ∀ v' w', Φ v' w' → wpList P ops Q rest (a.put o.dst v') w') : wpList P ops Q (o :: rest) a w := by
  obtain ⟨v', w', hr, hf⟩ := hr
  refine wpList_plain hgd fun K hKK => ?_
  unfold Oper.wp execOp
  simp only [ho, resolve, invoke, builtin, Sem.run_bind, Sem.run_pure, Result.andThen_ok, List.map_toArray, List.map_cons, List.map_nil, hs, hx, hr]
  exact hKK _ _ (h v' w' hf)
end
/-- what a sort leaves -/
def SortAns (base : Nat) (v : Value) (xs : List Int) (w : World) (e : Ending) (w' : World) : Prop :=
  e = .returned (.tuple #[]) ∧ OwnP Rp.iv w' any base 3 v (srt xs) ∧ ExtX (fun k => v.ownBlock = some k) w w'
theorem sort_own {base : Nat} {v : Value} {xs : List Int} {w : World} {n : Nat} {os : Array Obj} {g cap : Nat} {cur : Array Value} (hv : v = .slice (some ⟨g, 0, none⟩) xs.length cap) (hb : base ≤ g) (hg : w.heap[g]? = some (.cells cur 3 (0, 0))) (h1 : xs.length ≤ cap) (h2 : cap ≤ maxLen) (h3 : cur.size = cap * 1) :
    OwnP Rp.iv (grow (putRow (Value.int .i64) (Sort.ahead w n) g 0 (srt xs).toArray) os) any base 3 v (srt xs) ∧ ExtX (fun k => v.ownBlock = some k) w (grow (putRow (Value.int .i64) (Sort.ahead w n) g 0 (srt xs).toArray) os) := by
  have hl := srt_length xs
  refine ⟨OwnP.ofInts ?_, ?_⟩
  · have := ownsRow_sortedI (n := n) (os := os) (ts := srt xs) (ss := xs) hl hb hg h1 h2 h3
    rw [hv]
    rw [hl]
    exact this
  · have := extX_grown (grownBy_sortedI (w := w) (g := g) (n := n) (os := os) (srt xs).toArray)
    exact this.mono fun k _ hk => by rw [hv, hk]; rfl
theorem sortInts_any (base : Nat) (v : Value) (xs : List Int) (w : World) (h : OwnP Rp.iv w any base 3 v xs) (hn : xs.length ≤ 2000) :
    Calls Tryz.prog 36 #[v] w (SortAns base v xs w) := by
    have hsz : xs.length < 4611686018427387904 := by omega
    obtain ⟨_, cells, ⟨hc1, hc2⟩, _⟩ := id h
    have hi := h.ints
    rcases hi.2 with ⟨rfl, hn⟩ | ⟨g, cap, cur, rfl, hb, hg, hc, hm, hs, ht⟩
    · obtain rfl := List.eq_nil_of_length_eq_zero hn
      refine (Any.sort_Ints_none Tryz.lays191 none 0 w).mono ?_
      rintro e w' ⟨rfl, rfl⟩
      exact ⟨rfl, by rw [show srt [] = [] by simp [srt]]; exact h, ExtX.refl _ _⟩
    · have hH : Holds (Value.int .i64) w g 0 xs.toArray := holds_of_blockI hg (by rw [Nat.mul_one] at ht; exact ht)
      refine (Any.sort_Ints Tryz.lays191 g 0 cap xs w hH (Array.getElem?_eq_some_iff.1 hg).1 hsz).mono ?_
      rintro e w' ⟨rfl, n, os, rfl⟩
      obtain ⟨a, b⟩ := sort_own (n := n) (os := os) (v := .slice (some ⟨g, 0, none⟩) xs.length cap) rfl hb hg hc hm hs
      exact ⟨rfl, a, b⟩
theorem slicesSort_any (base : Nat) (v : Value) (xs : List Int) (w : World) (h : OwnP Rp.iv w any base 3 v xs) (hn : xs.length ≤ 2000) :
    Calls Tryz.prog 47 #[v] w (SortAns base v xs w) := by
    have hsz : xs.length < 4611686018427387904 := by omega
    obtain ⟨_, cells, ⟨hc1, hc2⟩, _⟩ := id h
    have hi := h.ints
    rcases hi.2 with ⟨rfl, hn⟩ | ⟨g, cap, cur, rfl, hb, hg, hc, hm, hs, ht⟩
    · obtain rfl := List.eq_nil_of_length_eq_zero hn
      refine (Any.slices_Sort_int_none Tryz.lays189 none 0 w).mono ?_
      rintro e w' ⟨rfl, rfl⟩
      exact ⟨rfl, by rw [show srt [] = [] by simp [srt]]; exact h, ExtX.refl _ _⟩
    · have hH : Holds (Value.int .i64) w g 0 xs.toArray := holds_of_blockI hg (by rw [Nat.mul_one] at ht; exact ht)
      refine (Any.slices_Sort_int Tryz.lays189 g 0 cap xs w hH (Array.getElem?_eq_some_iff.1 hg).1 hsz).mono ?_
      rintro e w' ⟨rfl, n, os, rfl⟩
      obtain ⟨a, b⟩ := sort_own (n := n) (os := os) (v := .slice (some ⟨g, 0, none⟩) xs.length cap) rfl hb hg hc hm hs
      exact ⟨rfl, a, b⟩
theorem grow_none (w : World) : grow w #[] = w := by simp [grow]
theorem below_grow {w : World} {n : Nat} : Ext w (w.drewN n) := (Ext.refl w).drewN n
theorem equal_read (xs ys : List Int) (v u : Value) {ok ok' : Nat → Prop} (w : World) (h : (Rp.slice Rp.iv).K w ok xs [v]) (h' : (Rp.slice Rp.iv).K w ok' ys [u]) :
    Calls Tryz.prog 7 #[v, u] w fun e w' => e = .returned (.bool (xs == ys)) ∧ Ext w w' := by
  obtain ⟨A, cap, rfl, h1, h2, hA⟩ := slice_shape h
  obtain ⟨B, cap', rfl, h1', h2', hB⟩ := slice_shape h'
  by_cases hl : xs.length = ys.length
  · cases xs with
    | nil =>
      obtain rfl : ys = [] := List.eq_nil_of_length_eq_zero hl.symm
      refine (Any.slices_Equal_int_empty Tryz.lays111 A B cap 0 cap' w (by omega)).mono ?_
      rintro e w' ⟨rfl, rfl⟩
      exact ⟨rfl, Ext.refl _⟩
    | cons x xs =>
      obtain ⟨b, o, rfl⟩ := hA (by simp)
      obtain ⟨b', o', rfl⟩ := hB (by intro e; subst e; simp at hl)
      refine (Any.slices_Equal_int Tryz.lays111 b o (x :: xs).length cap b' o' ys.length cap' (x :: xs) ys w (Nat.le_refl _) (Nat.le_refl _) (Nat.le_trans h1 h2) (Nat.le_trans h1' h2') (cells_of h).2 (cells_of h').2).mono ?_
      rintro e w' ⟨rfl, q, rfl⟩
      rw [List.take_length, List.take_length]
      exact ⟨rfl, (Ext.refl w).drewN q⟩
  · refine (Any.slices_Equal_int_lens Tryz.lays111 A B xs.length cap ys.length cap' w hl).mono ?_
    rintro e w' ⟨rfl, rfl⟩
    have : (xs == ys) = false := by rw [beq_eq_false_iff_ne]; rintro rfl; exact hl rfl
    exact ⟨by rw [this], Ext.refl _⟩
set_option maxRecDepth 20000 in
theorem list_any (b : Nat) (ks : List Int) (w : World) (H : SetI w b ks) (hn : ks.length ≤ 2000) :
    Calls Tryz.prog 23 #[setV b] w fun e w' => ∃ v l, e = .returned v ∧ OwnP Rp.iv w' any w.heap.size 3 v l ∧ Asc l ∧ (∀ x, x ∈ l ↔ x ∈ ks) ∧ Ext w w' := by
  have E0 := (Ext.refl w).alloc (.cells #[.map (some b)] 41)
  have HS := Lib.hid (H.extW E0)
  clear H
  go_enter Tryz.func23, Tryz.ntmps23
  go_wp2_with fail
  refine (unsorted_any b ks _ HS.out hn).mono ?_
  rintro e w1 ⟨v, done, rfl, hO, ⟨hnd, hmem⟩, e1⟩
  have hdl : done.length ≤ 2000 := Nat.le_trans (nodup_le hnd fun x hx => (hmem x).1 hx) hn
  have HO := Lib.hid hO
  have hm := Lib.hid hmem
  have hd := Lib.hid hnd
  clear hO hmem hnd
  go_wp2_with fail
  refine (sortInts_any _ v done _ HO.out hdl).mono ?_
  rintro e w2 ⟨rfl, hO2, x2⟩
  have HO2 := Lib.hid hO2
  have hw := HO.out.own
  have E2 : Ext w w2 := (((E0.trans e1).toX _).trans x2).toExt (fun k hk => by have := (hw k hk).1; rw [World.size_alloc] at this; omega)
  have HW := Lib.hid (show ∀ g, v.ownBlock = some g → w.heap.size ≤ g from fun g hg => by have := (hw g hg).1; rw [World.size_alloc] at this; omega)
  clear hO2 x2 hw
  go_wp2_with fail
  go_ret
  refine ⟨_, srt done, rfl, ?_, srt_asc hd.out, fun x => by rw [mem_srt, hm.out], E2⟩
  refine ⟨fun _ _ => trivial, ?_⟩
  obtain ⟨_, cells, ⟨a, c⟩, d⟩ := HO2.out
  refine ⟨cells, ⟨a, ?_⟩, d⟩
  rcases c with c | ⟨g, cap, cur, rfl, hb, rest⟩
  · exact .inl c
  · exact .inr ⟨g, cap, cur, rfl, HW.out g rfl, rest⟩
end Go.Proofs.YtfefnflcgkanpaaGreatDoor
