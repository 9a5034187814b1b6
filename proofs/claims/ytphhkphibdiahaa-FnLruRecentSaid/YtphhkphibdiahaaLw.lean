/-
  FnLruRecent: copies of the operations, lists of keys that are sorted and searched.
-/
import Derived.Test.YtphhkphibdiahaaLv
import Derived.Sort.OwnSortedInts
namespace Go.Proofs.Ytphhkphibdiahaa
open Go.RowKit Go.Sort
set_option linter.unusedSimpArgs false
set_option linter.unusedVariables false

theorem ext_grow (w : World) (k : Nat) (os : Array Obj) : Ext w (Go.Sort.grow (w.drewN k) os) := by
  refine ⟨rfl, rfl, rfl, ?_, fun i hi => ?_⟩
  · show w.heap.size ≤ (w.heap ++ os).size
    simp
  · show (w.heap ++ os)[i]? = _
    rw [Array.getElem?_append_left hi]
theorem extX_grown {w w' : World} {g : Nat} (h : w.grownBy w' (some g)) : ExtX (fun k => k = g) w w' := ⟨h.os, h.tape, h.output, h.size, fun k hk hm => h.block k hk (fun e => hm (Option.some.inj e))⟩
theorem below_ext {w w' : World} (h : Below w.heap.size w w') : Ext w w' := ⟨h.os, h.tape, h.output, h.size, fun k hk => h.block k hk⟩
namespace OwnP
variable {w w' : World} {ok : Nat → Prop} {base : Nat} {e : TypeId} {v : Value} {xs : List Int}
theorem ints (h : OwnP Rp.iv w ok base e v xs) : w.ownsRow base e 1 v xs.length (xs.map (Value.int .i64)) := by
  obtain ⟨_, cells, h1, h2⟩ := h
  have hl : cells.length = xs.length * 1 := h1.1
  rw [show xs.map (Value.int .i64) = cells from ?_]
  · exact h1
  apply List.ext_getElem?
  intro i
  by_cases hi : i < xs.length
  · have := (h2 i xs[i] (List.getElem?_eq_getElem hi)).1
    have h3 : ((cells.drop (i * 1)).take 1)[0]? = some (Value.int .i64 xs[i]) := by rw [show (cells.drop (i * 1)).take 1 = [Value.int .i64 xs[i]] from this]; rfl
    rw [List.getElem?_take_of_lt (by decide), List.getElem?_drop] at h3
    simp only [Nat.mul_one, Nat.add_zero] at h3
    rw [h3]
    simp [hi]
  · rw [List.getElem?_eq_none (by simp; omega), List.getElem?_eq_none (by omega)]
theorem ofInts (h : w.ownsRow base e 1 v xs.length (xs.map (Value.int .i64))) : OwnP Rp.iv w any base e v xs := by
  refine ⟨fun _ _ => trivial, _, h, fun i x hx => ⟨?_, trivial⟩⟩
  obtain ⟨hi, rfl⟩ := List.getElem?_eq_some_iff.1 hx
  show ((xs.map (Value.int .i64)).drop (i * 1)).take 1 = [Value.int .i64 xs[i]]
  rw [Nat.mul_one, List.drop_eq_getElem_cons (by simpa using hi)]
  simp
end OwnP
/-- whose own it is, from an earlier block on -/
theorem OwnP.base {α : Type} {d : Rp α} {w : World} {ok : Nat → Prop} {b1 b2 : Nat} {e : TypeId} {v : Value} {xs : List α} (h : OwnP d w ok b1 e v xs) (hb : b2 ≤ b1) : OwnP d w any b2 e v xs := by
  obtain ⟨_, cells, ⟨a, c⟩, dd⟩ := h
  refine ⟨fun _ _ => trivial, cells, ⟨a, ?_⟩, fun i x hx => d.mono (fun b hb => ⟨trivial, hb.2⟩) (dd i x hx)⟩
  rcases c with c | ⟨g, cap, cur, rfl, hg, rest⟩
  · exact .inl c
  · exact .inr ⟨g, cap, cur, rfl, Nat.le_trans hb hg, rest⟩
theorem sl_cap {α : Type} {d : Rp α} {w : World} {ok : Nat → Prop} {xs : List α} {A : Option Addr} {n c : Nat} (h : (Rp.slice d).K w ok xs [.slice A n c]) : n = xs.length ∧ xs.length ≤ c ∧ c ≤ maxLen ∧ d.row w ok A xs := by
  obtain ⟨A', c', he, h1, h2, _, h4⟩ := h
  simp only [List.cons.injEq, Value.slice.injEq, and_true] at he
  obtain ⟨rfl, rfl, rfl⟩ := he
  exact ⟨rfl, h1, h2, h4⟩
/-- an append to a slice of the call's own, of whatever can be read -/
theorem run_app_own {α : Type} {P : Program} {d : Rp α} {w : World} {ok2 : Nat → Prop} {base : Nat} (t ty e : TypeId) (i : TypeInfo) (z : Value) (bytes : Nat) (ht : P.underlying t = some (.slice e)) (hi : P.info? e = some i) (hz : i.zero = some z)
    (hsize : i.size = d.sz) (hby : i.bytes = bytes) (hzs : z.cells.size = d.sz) {v : Value} {xs ys : List α} {B : Option Addr} {c : Nat} (hown : OwnP d w any base e v xs) (h2 : (Rp.slice d).K w ok2 ys [.slice B ys.length c]) (hk : ∀ k, ok2 k → some k ≠ v.ownBlock)
    (h63 : xs.length + ys.length ≤ maxLen) (hbytes : (xs.length + ys.length) * bytes ≤ 140737488355328) (hbase : base ≤ w.heap.size) :
    ∃ v' w', (Builtin.append_ #[t, t] ty #[v, .slice B ys.length c]).run P w = .ok v' w' ∧ OwnP d w' any base e v' (xs ++ ys) ∧ w.grownBy w' v.ownBlock := by
  obtain ⟨_, hcy, _, row2⟩ := sl_cap h2
  cases B with
  | none =>
    have hy : ys = [] := by
      by_cases hy : ys = []
      · exact hy
      · obtain ⟨b, o, hb, _⟩ := row2.addr hy; cases hb
    subst hy
    obtain ⟨A', c', he, _, _, h3, _⟩ := h2
    simp only [List.cons.injEq, Value.slice.injEq, and_true] at he
    obtain ⟨rfl, _, rfl⟩ := he
    obtain rfl := h3 rfl
    obtain ⟨h0, cells, hc, hK⟩ := id hown
    refine ⟨v, w, run_append_owned_none w base t ty e i d.sz ht hi v xs.length cells hc, by rw [List.append_nil]; exact hown, ⟨rfl, rfl, rfl, Nat.le_refl _, fun _ _ _ => rfl⟩⟩
  | some a =>
    obtain ⟨news, hl2, hn2, hk2⟩ : ∃ news : List Value, news.length = ys.length * d.sz ∧ (∀ j u, news[j]? = some u → w.cell? (a.add j) = some u) ∧ ∀ i x, ys[i]? = some x → d.K w ok2 x ((news.drop (i * d.sz)).take d.sz) := by
      by_cases hx : ys = []
      · subst hx; exact ⟨[], by simp, by simp, by simp⟩
      · obtain ⟨b, o, hb, _⟩ := row2.addr hx
        simp only [Option.some.injEq] at hb
        subst hb
        exact row2.news rfl
    obtain ⟨v', w', hr, ho, hg, _⟩ := run_app (d := d) t ty e i z bytes ht hi hz hsize hby hzs hown (fun _ _ => trivial) a c news ys hl2 hn2
      (fun i y hy => d.mono (fun b hb => ⟨trivial, hk b hb⟩) (hk2 i y hy)) h63 hbytes hbase
    exact ⟨v', w', hr, ho, hg⟩
section
variable {P : Program} {ops : Array Oper} {rest : List Oper} {o : Oper} {a : Act} {Q : Exit → Act → World → Prop} {w : World}
/-- the walk at an append of which a run is known -/
theorem wpList_run (hgd : o.guard = none) (s x : Operand) (t : TypeId) (ho : o.op = .call { callee := .builtin .append, args := #[s, x], argTypes := #[t, t] }) {vs vx : Value} (hs : a.eval s = vs) (hx : a.eval x = vx) {Φ : Value → World → Prop}
    (hr : ∃ v' w', (Builtin.append_ #[t, t] o.type #[vs, vx]).run P w = .ok v' w' ∧ Φ v' w') (h : ∀ v' w', Φ v' w' → wpList P ops Q rest (a.put o.dst v') w') : wpList P ops Q (o :: rest) a w := by
  obtain ⟨v', w', hr, hf⟩ := hr
  refine wpList_plain hgd fun K hKK => ?_
  unfold Oper.wp execOp
  simp only [ho, resolve, invoke, builtin, Sem.run_bind, Sem.run_pure, Result.andThen_ok, List.map_toArray, List.map_cons, List.map_nil, hs, hx, hr]
  exact hKK _ _ (h v' w' hf)
end
def srt (l : List Int) : List Int := l.mergeSort fun x y => decide (x ≤ y)
theorem mem_srt {l : List Int} {x : Int} : x ∈ srt l ↔ x ∈ l := (List.mergeSort_perm l _).mem_iff
theorem srt_le (l : List Int) : (srt l).Pairwise (· ≤ ·) := by
  have := List.pairwise_mergeSort (le := fun x y : Int => decide (x ≤ y)) (fun a b c h1 h2 => by simp at *; omega) (fun a b => by simp; omega) l
  exact this.imp fun h => by simpa using h
theorem srt_length (l : List Int) : (srt l).length = l.length := List.length_mergeSort l
/-- what a sort leaves -/
def SortAns (base : Nat) (v : Value) (xs : List Int) (w : World) (e : Ending) (w' : World) : Prop :=
  e = .returned (.tuple #[]) ∧ OwnP Rp.iv w' any base 3 v (srt xs) ∧ ExtX (fun k => v.ownBlock = some k) w w'
theorem sort_own {base : Nat} {v : Value} {xs : List Int} {w : World} {n : Nat} {os : Array Obj} {g cap : Nat} {cur : Array Value} (hv : v = .slice (some ⟨g, 0, none⟩) xs.length cap) (hb : base ≤ g) (hg : w.heap[g]? = some (.cells cur 3 (0, 0))) (h1 : xs.length ≤ cap) (h2 : cap ≤ maxLen) (h3 : cur.size = cap * 1) :
    OwnP Rp.iv (grow (putRow (Value.int .i64) (Sort.ahead w n) g 0 (srt xs).toArray) os) any base 3 v (srt xs) ∧ ExtX (fun k => v.ownBlock = some k) w (grow (putRow (Value.int .i64) (Sort.ahead w n) g 0 (srt xs).toArray) os) := by
  have hl := srt_length xs
  refine ⟨OwnP.ofInts ?_, ?_⟩
  · have := ownsRow_sortedI (n := n) (os := os) (ts := srt xs) (ss := xs) hl hb hg h1 h2 h3
    rw [hv]
    rw [hl]
    exact this
  · have := extX_grown (grownBy_sortedI (w := w) (g := g) (n := n) (os := os) (srt xs).toArray)
    exact this.mono fun k _ hk => by rw [hv, hk]; rfl
theorem slicesSort_any (base : Nat) (v : Value) (xs : List Int) (w : World) (h : OwnP Rp.iv w any base 3 v xs) (hn : xs.length ≤ 2000) :
    Calls Try.prog 12 #[v] w (SortAns base v xs w) := by
    have hsz : xs.length < 4611686018427387904 := by omega
    obtain ⟨_, cells, ⟨hc1, hc2⟩, _⟩ := id h
    have hi := h.ints
    rcases hi.2 with ⟨rfl, hn⟩ | ⟨g, cap, cur, rfl, hb, hg, hc, hm, hs, ht⟩
    · obtain rfl := List.eq_nil_of_length_eq_zero hn
      refine (Any.slices_Sort_int_none Try.lays189 none 0 w).mono ?_
      rintro e w' ⟨rfl, rfl⟩
      exact ⟨rfl, by rw [show srt [] = [] by simp [srt]]; exact h, ExtX.refl _ _⟩
    · have hH : Holds (Value.int .i64) w g 0 xs.toArray := holds_of_blockI hg (by rw [Nat.mul_one] at ht; exact ht)
      refine (Any.slices_Sort_int Try.lays189 g 0 cap xs w hH (Array.getElem?_eq_some_iff.1 hg).1 hsz).mono ?_
      rintro e w' ⟨rfl, n, os, rfl⟩
      obtain ⟨a, b⟩ := sort_own (n := n) (os := os) (v := .slice (some ⟨g, 0, none⟩) xs.length cap) rfl hb hg hc hm hs
      exact ⟨rfl, a, b⟩
theorem contains_read (xs : List Int) (v : Value) {ok : Nat → Prop} (x : Int) (w : World) (h : (Rp.slice Rp.iv).K w ok xs [v]) :
    Calls Try.prog 11 #[v, .int .i64 x] w fun e w' => e = .returned (.bool (xs.contains x)) ∧ w' = w := by
  obtain ⟨A, cap, rfl, h1, h2, hA⟩ := slice_shape h
  cases xs with
  | nil => exact Any.slices_Contains_int_empty Try.lays107 A cap x w
  | cons y ys =>
    obtain ⟨b, o, rfl⟩ := hA (by simp)
    have := Any.slices_Contains_int Try.lays107 b o (y :: ys).length cap (y :: ys) x w (Nat.le_refl _) (Nat.le_trans h1 h2) (cells_of h).2
    rwa [List.take_length] at this
theorem srt_keys {L : PL} (h : (ksP L).Nodup) : outK (sortP L) = srt (ksP L) := by
  have h1 : (outK (sortP L)).Pairwise (· ≤ ·) := by
    have := List.pairwise_mergeSort (le := fun a b : Int × Int => decide (a.1 ≤ b.1)) (fun a b c h1 h2 => by simp at *; omega) (fun a b => by simp; omega) L
    exact List.pairwise_map.2 (this.imp fun h => by simpa using h)
  have h2 : (outK (sortP L)).Perm (srt (ksP L)) := ((List.mergeSort_perm L _).map _).trans (List.mergeSort_perm (ksP L) _).symm
  exact h2.eq_of_pairwise (fun a b _ _ h3 h4 => by omega) h1 (srt_le _)
theorem infoOp : (Try.prog.info? 32).map (fun i => (i.zero, i.size, i.bytes)) = some (some (.agg #[.int .i64 0, .int .i64 0, .int .i64 0]), 3, 24) := by kernel_rfl
set_option maxRecDepth 20000 in
set_option maxHeartbeats 1000000 in
theorem cloneOp_any (ops : List OpD) (v : Value) (w : World) (h : (Rp.slice Rp.op).K w any ops [v]) (hn : ops.length ≤ 400) :
    Calls Try.prog 10 #[v] w fun e w' => ∃ v', e = .returned v' ∧ OwnP Rp.op w' any w.heap.size 32 v' ops ∧ Ext w w' := by
  obtain ⟨i0, hi, hz0, hz1, hz2⟩ := info_parts3 infoOp
  have HH := Lib.hid h
  obtain ⟨A, cap, hv, p1, p2, p3, hrow⟩ := h
  simp only [List.cons.injEq, and_true] at hv
  subst hv
  cases A with
  | none =>
    have hz : ops = [] := List.eq_nil_of_length_eq_zero (by have := p3 rfl; omega)
    subst hz
    refine (AnyE.slices_Clone_nil Try.laysCOp 0 cap w).mono ?_
    rintro e w' ⟨rfl, rfl⟩
    exact ⟨_, rfl, OwnP.nil _ _ _ _ _, Ext.refl _⟩
  | some a =>
    by_cases hne : ops = []
    · subst hne
      clear hrow
      have q22 : ∀ (w : World) (a : Option Addr) (n c n' c' : Nat), (binOp .eql 22 (.slice a n c) (.slice none n' c')).run Try.prog w = .ok (.bool a.isNone) w := fun w a n c n' c' => Lib.run_eql_slice_nil w _ _ a n c n' c' Try.underlying22
      go_enter Try.func10, Try.ntmps10
      go_wp2_with (at_builtin; refine wpList_run (Φ := fun v' w' => Hid (OwnP Rp.op w' any w.heap.size 32 v' [] ∧ Ext w w')) rfl _ _ 22 rfl rfl rfl ?hr ?_)
      case hr =>
        have E0 := (Ext.refl w).alloc (.cells #[] 32)
        have own0 : OwnP Rp.op (w.alloc (.cells #[] 32)) any w.heap.size 32 (.slice (some ⟨w.heap.size, 0, none⟩) 0 0) [] := ⟨fun _ _ => trivial, [], World.ownsRow_made w #[] 0 (Nat.le_refl _) (Nat.zero_le _) (by simp), fun i x hx => by simp at hx⟩
        exact ⟨_, _, ⟨rfl, rfl⟩, Lib.hid ⟨own0, E0⟩⟩
      intro v' w' hoe
      have ho := hoe.out.1
      have he := hoe.out.2
      have HO := Lib.hid ho
      have HE := Lib.hid he
      obtain ⟨A', n', c', rfl⟩ := own_shape ho
      clear ho he hoe
      go_wp2_with fail
      go_ret
      exact ⟨_, rfl, HO.out, HE.out⟩
    · obtain ⟨b, o, hA, _⟩ := hrow.addr hne
      simp only [Option.some.injEq] at hA
      subst hA
      obtain ⟨news, hl, hc, hk⟩ := hrow.news rfl
      refine (AnyE.slices_Clone Try.laysCOp i0 _ 3 24 hi hz0 hz1 hz2 rfl (by decide) Try.sizeOf32 b o ops.length cap news w hl (by unfold maxLen; omega) (by omega) (fun j u hj => ?_) (fun u hu => ?_)).mono ?_
      · have := hc j u hj
        rwa [Addr.add_lit] at this
      · obtain ⟨j, hj⟩ := List.mem_iff_getElem?.1 hu
        have hjl := (List.getElem?_eq_some_iff.1 hj).1
        have hsz : Rp.op.sz = 3 := rfl
        rw [hsz] at hl hk
        obtain ⟨y, hy⟩ : ∃ y, ops[j / 3]? = some y := ⟨_, List.getElem?_eq_getElem (by omega)⟩
        refine Rp.op.one (hk (j / 3) y hy) u (List.mem_iff_getElem?.2 ⟨j % 3, ?_⟩)
        rw [List.getElem?_take_of_lt (Nat.mod_lt j (by decide)), List.getElem?_drop, show j / 3 * 3 + j % 3 = j by omega]
        exact hj
      · rintro e w' ⟨v', rfl, ho, _, hbel⟩
        exact ⟨v', rfl, ⟨fun q hq => trivial, news, ho, fun i p hp => by have := hk i p hp; exact this⟩, below_ext hbel⟩
end Go.Proofs.Ytphhkphibdiahaa
