/-
  Stores of whole values into a block, and results that lie in a block.
-/
import Derived.Test.YtphhkphibdiahaaOwn
import Derived.Laws.Rows
import Derived.Laws.CopyRow
namespace Go.Proofs.Ytphhkphibdiahaa
open Go.RowKit
set_option linter.unusedSimpArgs false
set_option linter.unusedVariables false

section
variable {P : Program} {ops : Array Oper} {rest : List Oper} {o : Oper} {a : Act} {Q : Exit → Act → World → Prop} {R : World → World → Prop} {w : World}
/-- cells put over others, from an offset on -/
def over (off : Nat) (vs cur : List Value) : List Value := cur.take off ++ vs ++ cur.drop (off + vs.length)
theorem exec_store (x v : Operand) (t : TypeId) (ho : o.op = .store t x v) {b off : Nat} {val : Value} (hx : a.eval x = .pointer (some ⟨b, off, none⟩)) (hv : a.eval v = val) {vs : List Value} (hvs : val.cells.toList = vs)
    {T : TypeId} {cur : List Value} (K : Blk w b T cur) (hsz : (P.info? t).map (·.size) = some vs.length) (hfit : off + vs.length ≤ cur.length) (h1 : vs.all (·.oneCell') = true) :
    ∃ w', (execOp a.eval o).run P w = .ok .skip w' ∧ Blk w' b T (over off vs cur) ∧ ExtX (fun k => k = b) w w' := by
  have hrun := run_storeCells_at (P := P) b off T vs 0 cur.toArray w K (by simpa using hfit) (fun u hu => List.all_eq_true.1 h1 u hu)
  refine ⟨w.setRow b (over off vs cur).toArray, ?_, setRow_heap w b _ _ T (0, 0) K, ⟨rfl, rfl, rfl, by simp [World.setRow], fun k hk hm => setRow_other w b k _ hm⟩⟩
  have hlen : val.cells.size = vs.length := by rw [← hvs]; simp
  cases hq : P.info? t with
  | none => simp [hq] at hsz
  | some i =>
    have hs : i.size = vs.length := by simpa [hq] using hsz
    unfold execOp
    simp only [Nat.add_zero] at hrun
    simp only [ho, hx, hv, Instr.storeAt, storeVar, sizeOf, typeInfo, Instr.sureAddr, asAddr, hvs, hlen]
    simp [hq, hs, hrun, over]
theorem wpList_store (hgd : o.guard = none) (hdst : o.dst = none) (x v : Operand) (t : TypeId) (ho : o.op = .store t x v) {b off : Nat} {val : Value} (hx : a.eval x = .pointer (some ⟨b, off, none⟩)) (hv : a.eval v = val) {vs : List Value} (hvs : val.cells.toList = vs)
    {T : TypeId} {cur : List Value} (K : Blk w b T cur) (hsz : (P.info? t).map (·.size) = some vs.length) (hfit : off + vs.length ≤ cur.length) (h1 : vs.all (·.oneCell') = true)
    (h : ∀ w', Blk w' b T (over off vs cur) → ExtX (fun k => k = b) w w' → wpList P ops Q rest a w') : wpList P ops Q (o :: rest) a w := by
  obtain ⟨w', hr, hb, he⟩ := exec_store (P := P) x v t ho hx hv hvs K hsz hfit h1
  refine wpList_plain hgd fun K hKK => ?_
  unfold Oper.wp
  rw [hr]
  show K (a.put o.dst undef) w'
  rw [hdst]
  exact hKK _ _ (h w' hb he)
theorem wpS_lastK {i : Nat} {r : Sched} (d : Option Tmp) (o : Oper) (ho : ops[i]? = some o) (hd : o.dst = d) (hw : Region.wanted o (yielded ops a.tmps) = true)
    (h : ∃ w', (execOp a.eval o).run P w = .ok .skip w' ∧ wpS P ops Q R r (a.put d undef) w') : wpS P ops Q R (.last i r) a w := by
  obtain ⟨w', he, h⟩ := h
  exact wpS_last d o undef w' ho hd hw (.inr ⟨rfl, he⟩) h
theorem wpS_store {i : Nat} {r : Sched} (d : Option Tmp) (o : Oper) (hoi : ops[i]? = some o) (hd : o.dst = d) (hw : Region.wanted o (yielded ops a.tmps) = true)
    (x v : Operand) (t : TypeId) (ho : o.op = .store t x v) {b off : Nat} {val : Value} (hx : a.eval x = .pointer (some ⟨b, off, none⟩)) (hv : a.eval v = val) {vs : List Value} (hvs : val.cells.toList = vs)
    {T : TypeId} {cur : List Value} (K : Blk w b T cur) (hsz : (P.info? t).map (·.size) = some vs.length) (hfit : off + vs.length ≤ cur.length) (h1 : vs.all (·.oneCell') = true)
    (h : ∀ w', Blk w' b T (over off vs cur) → ExtX (fun k => k = b) w w' → wpS P ops Q R r (a.put d undef) w') : wpS P ops Q R (.last i r) a w := by
  obtain ⟨w', hr, hb, he⟩ := exec_store (P := P) x v t ho hx hv hvs K hsz hfit h1
  exact wpS_lastK d o hoi hd hw ⟨w', hr, h w' hb he⟩
/-- a slice of given elements is made -/
theorem wpS_make {i : Nat} {r more : Sched} (d : Option Tmp) (o : Oper) (ho : ops[i]? = some o) (hd : o.dst = d) (hw : Region.wanted o (yielded ops a.tmps) = true) (T : TypeId) (cs : List Value) (n : Nat)
    (he : (execOp a.eval o).run P w = .ok (.value (.slice (some ⟨w.heap.size, 0, none⟩) n n)) (w.alloc (.cells cs.toArray T)))
    (hR : ∀ w', Ext w w' → R w w')
    (h : ∀ b w', b = w.heap.size → Ext w w' → Blk w' b T cs → wpS P ops Q R r (a.put d (.slice (some ⟨b, 0, none⟩) n n)) w') (hm : wpS P ops Q R more a w) : wpS P ops Q R (.loud i r more) a w :=
  wpS_val d o _ _ ho hd hw (.inl he) (hR _ ((Ext.refl _).alloc _)) (h _ _ rfl ((Ext.refl _).alloc _) (Blk.new _ _ _)) hm
/-- a store that is not the last one -/
theorem wpS_storeL {i : Nat} {r more : Sched} (d : Option Tmp) (o : Oper) (hoi : ops[i]? = some o) (hd : o.dst = d) (hw : Region.wanted o (yielded ops a.tmps) = true)
    (x v : Operand) (t : TypeId) (ho : o.op = .store t x v) {b off : Nat} {val : Value} (hx : a.eval x = .pointer (some ⟨b, off, none⟩)) (hv : a.eval v = val) {vs : List Value} (hvs : val.cells.toList = vs)
    {T : TypeId} {cur : List Value} (K : Blk w b T cur) (hsz : (P.info? t).map (·.size) = some vs.length) (hfit : off + vs.length ≤ cur.length) (h1 : vs.all (·.oneCell') = true)
    (hR : ∀ w', ExtX (fun k => k = b) w w' → R w w')
    (h : ∀ w', Blk w' b T (over off vs cur) → ExtX (fun k => k = b) w w' → wpS P ops Q R r (a.put d undef) w') (hm : wpS P ops Q R more a w) : wpS P ops Q R (.loud i r more) a w := by
  obtain ⟨w', hr, hb, he⟩ := exec_store (P := P) x v t ho hx hv hvs K hsz hfit h1
  exact wpS_val d o undef w' hoi hd hw (.inr ⟨rfl, hr⟩) (hR w' he) (h w' hb he) hm
end

section
variable {P : Program} {ops : Array Oper} {rest : List Oper} {o : Oper} {a : Act} {Q : Exit → Act → World → Prop} {w : World}
/-- an append of nothing (a nil source) -/
theorem wpList_app0 {α : Type} {d : Rp α} {ok : Nat → Prop} {base : Nat} (hgd : o.guard = none) (s x : Operand) (t : TypeId) (ho : o.op = .call { callee := .builtin .append, args := #[s, x], argTypes := #[t, t] })
    (e : TypeId) (i : TypeInfo) (ht : P.underlying t = some (.slice e)) (hi : P.info? e = some i) {v : Value} {xs : List α} (hs : a.eval s = v) (hown : OwnP d w ok base e v xs) (hx : a.eval x = .slice none 0 0)
    (h : wpList P ops Q rest (a.put o.dst v) w) : wpList P ops Q (o :: rest) a w := by
  obtain ⟨_, cells, h1, _⟩ := hown
  have hr := run_append_owned_none (P := P) w base t o.type e i d.sz ht hi v xs.length cells h1
  refine wpList_plain hgd fun K hKK => ?_
  unfold Oper.wp execOp
  simp only [ho, resolve, invoke, builtin, Sem.run_bind, Sem.run_pure, Result.andThen_ok, List.map_toArray, List.map_cons, List.map_nil, hs, hx, hr]
  exact hKK _ _ h
end
theorem slice_news {α : Type} {d : Rp α} {w : World} {ok : Nat → Prop} {xs : List α} {ad : Addr} {n c : Nat} (h : (Rp.slice d).K w ok xs [.slice (some ad) n c]) :
    n = xs.length ∧ ∃ news : List Value, news.length = xs.length * d.sz ∧ (∀ j u, news[j]? = some u → w.cell? (ad.add j) = some u) ∧ ∀ i y, xs[i]? = some y → d.K w ok y ((news.drop (i * d.sz)).take d.sz) := by
  obtain ⟨A', c', hv, p1, p2, p3, hrow⟩ := h
  simp only [List.cons.injEq, Value.slice.injEq, and_true] at hv
  obtain ⟨rfl, rfl, rfl⟩ := hv
  refine ⟨rfl, ?_⟩
  by_cases hn0 : xs = []
  · subst hn0
    exact ⟨[], by simp, fun j u hu => by simp at hu, fun i y hy => by simp at hy⟩
  · obtain ⟨b, o, hA, hb⟩ := hrow.addr hn0
    obtain rfl := Option.some.inj hA
    exact hrow.news rfl
theorem slice_nil {α : Type} {d : Rp α} {w : World} {ok : Nat → Prop} {xs : List α} {n c : Nat} (h : (Rp.slice d).K w ok xs [.slice none n c]) : xs = [] ∧ n = 0 ∧ c = 0 := by
  obtain ⟨A', c', hv, p1, p2, p3, hrow⟩ := h
  simp only [List.cons.injEq, Value.slice.injEq, and_true] at hv
  obtain ⟨rfl, rfl, rfl⟩ := hv
  have := p3 rfl
  exact ⟨List.eq_nil_of_length_eq_zero (by omega), by omega, by omega⟩
/-! ### Slices of slices -/
theorem run_slice_to {P : Program} {t e : TypeId} (hu : P.underlying t = some (.slice e)) {sz : Nat} (hsz : (P.info? e).map (·.size) = some sz) (A : Option Addr) (n c hi : Nat) (h : hi ≤ c) (w : World) :
    (Instr.slice t (.slice A n c) none (some (.int .i64 hi)) none).run P w = .ok (.slice A hi c) w := by
  cases hq : P.info? e with
  | none => simp [hq] at hsz
  | some i =>
    have hb : (0 : Int) ≤ (hi : Int) ∧ (hi : Int) ≤ (c : Int) := by omega
    simp [Instr.slice, underlying, typeInfo, sizeOf, Instr.sliceBounds, Instr.sliceBound, asIntOf, hu, hq, hb]
    cases A <;> simp [Addr.add] <;> omega
theorem run_slice_from {P : Program} {t e : TypeId} (hu : P.underlying t = some (.slice e)) {sz : Nat} (hsz : (P.info? e).map (·.size) = some sz) (A : Option Addr) (n c lo : Nat) (h : lo ≤ n) (w : World) :
    (Instr.slice t (.slice A n c) (some (.int .i64 lo)) none none).run P w = .ok (.slice (if c = lo then A else A.map (·.add (lo * sz))) (n - lo) (c - lo)) w := by
  cases hq : P.info? e with
  | none => simp [hq] at hsz
  | some i =>
    have hs : i.size = sz := by simpa [hq] using hsz
    have hb : (0 : Int) ≤ (lo : Int) ∧ (lo : Int) ≤ (n : Int) := by omega
    simp [Instr.slice, underlying, typeInfo, sizeOf, Instr.sliceBounds, Instr.sliceBound, asIntOf, hu, hq, hb, hs]
    omega
theorem run_sliceAt {P : Program} {t e : TypeId} (hu : P.underlying t = some (.slice e)) (x : Value) (lo hi mx : Option Value) (w : World) : (Instr.sliceAt t x lo hi mx).run P w = (Instr.slice t x lo hi mx).run P w := by
  simp [Instr.sliceAt, underlying, typeInfo, hu]
theorem run_sliceAt_to {P : Program} {t e : TypeId} (hu : P.underlying t = some (.slice e)) {sz : Nat} (hsz : (P.info? e).map (·.size) = some sz) (A : Option Addr) (n c hi : Nat) (h : hi ≤ c) (w : World) :
    (Instr.sliceAt t (.slice A n c) none (some (.int .i64 hi)) none).run P w = .ok (.slice A hi c) w := (run_sliceAt hu _ _ _ _ w).trans (run_slice_to hu hsz A n c hi h w)
theorem run_sliceAt_from {P : Program} {t e : TypeId} (hu : P.underlying t = some (.slice e)) {sz : Nat} (hsz : (P.info? e).map (·.size) = some sz) (A : Option Addr) (n c lo : Nat) (h : lo ≤ n) (w : World) :
    (Instr.sliceAt t (.slice A n c) (some (.int .i64 lo)) none none).run P w = .ok (.slice (if c = lo then A else A.map (·.add (lo * sz))) (n - lo) (c - lo)) w := (run_sliceAt hu _ _ _ _ w).trans (run_slice_from hu hsz A n c lo h w)
theorem slice_drop {α : Type} {d : Rp α} {w : World} {ok : Nat → Prop} {xs : List α} {A : Option Addr} {n c : Nat} (h : (Rp.slice d).K w ok xs [.slice A n c]) (lo : Nat) (hlo : lo ≤ n) :
    (Rp.slice d).K w ok (xs.drop lo) [.slice (if c = lo then A else A.map (·.add (lo * d.sz))) (n - lo) (c - lo)] := by
  obtain ⟨A', c', hv, h1, h2, h3, h4⟩ := h
  simp only [List.cons.injEq, Value.slice.injEq, and_true] at hv
  obtain ⟨rfl, rfl, rfl⟩ := hv
  refine ⟨_, c - lo, by rw [List.length_drop], by rw [List.length_drop]; omega, by omega, fun hn => ?_, fun i x hx => ?_⟩
  · cases A with
    | none => have := h3 rfl; omega
    | some a => split at hn <;> simp at hn
  · rw [List.getElem?_drop] at hx
    have hlt := (List.getElem?_eq_some_iff.1 hx).1
    obtain ⟨b, o, cs, rfl, hb, hc, hK⟩ := h4 _ _ hx
    refine ⟨b, o + lo * d.sz, cs, ?_, hb, fun j hj => ?_, hK⟩
    · rw [if_neg (by omega)]
      simp only [Option.map_some]
      congr 1
      unfold Addr.add
      split
      · rename_i hz; rw [hz]; rfl
      · rfl
    · rw [← hc j hj]
      congr 2
      rw [Nat.add_mul]; omega
end Go.Proofs.Ytphhkphibdiahaa
