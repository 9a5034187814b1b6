/-
  Maps that a call owns, as lists of pairs ('MapL'), and the walk along one ('IterL').
-/
import Derived.Test.YtphhkphibdiahaaOwn
import Derived.Maps.RangeRun
namespace Go.Proofs.Ytphhkphibdiahaa
open Go.RowKit
set_option linter.unusedSimpArgs false
set_option linter.unusedVariables false

/-- keys of one kind: how they are looked for -/
structure KeyCls (P : Program) (kt : TypeId) {κ : Type} (kv : κ → Value) : Prop where
  inj : ∀ a b, kv a = kv b → a = b
  chk : ∀ e k w, (Instr.checkKey e 10000 kt (kv k)).run P w = .ok () w
  find : ∀ (l : List MapEntry) k w, (∀ x ∈ l, ∃ a, x.key = kv a) → ((Instr.findKey kt (kv k) l).run P w = .ok none w ∧ ∀ x ∈ l, x.key ≠ kv k) ∨
    ∃ j e, (Instr.findKey kt (kv k) l).run P w = .ok (some (j, e.val)) w ∧ l[j]? = some e ∧ e.key = kv k
  same : ∀ k, Instr.sameBits 10000 (kv k) (kv k) = true
theorem KeyCls.plain {P : Program} {kt : TypeId} {κ : Type} {kv : κ → Value} {d : TypeDesc} (hd : P.underlying kt = some d) (hk : ∀ a, MapKept.IsKey d (kv a)) (inj : ∀ a b, kv a = kv b → a = b) (same : ∀ k, Instr.sameBits 10000 (kv k) (kv k) = true) : KeyCls P kt kv where
  inj := inj
  chk e k w := MapKept.run_checkKey hd (hk k) e 9999
  find l k w hl := by
    rcases MapKept.findNow_spec (hk k) l 0 (fun x hx => by obtain ⟨a, ha⟩ := hl x hx; rw [ha]; exact hk a) with ⟨h1, h2⟩ | ⟨j, e, h1, h2, h3⟩
    · exact .inl ⟨MapKept.run_findKey hd h1, h2⟩
    · rw [Nat.zero_add] at h1
      exact .inr ⟨j, e, MapKept.run_findKey hd h1, h2, h3⟩
  same := same
theorem KeyCls.int {P : Program} {kt : TypeId} {q : IntKind} (hd : P.underlying kt = some (.int q)) : KeyCls P kt (Value.int q) :=
  KeyCls.plain hd (fun _ => rfl) (fun a b h => by cases h; rfl) (fun k => by simp [Instr.sameBits])
theorem KeyCls.str {P : Program} {kt : TypeId} (hd : P.underlying kt = some .string) : KeyCls P kt Value.string :=
  KeyCls.plain hd (fun _ => trivial) (fun a b h => by cases h; rfl) (fun k => by simp [Instr.sameBits, MapKept.bytes_beq])

theorem erase_map {α β : Type} (f : α → β) : ∀ (l : List α) (j : Nat), (l.eraseIdx j).map f = (l.map f).eraseIdx j
  | [], _ => rfl
  | _ :: _, 0 => rfl
  | a :: l, j + 1 => by simp [erase_map f l j]
section
variable {κ : Type} {kv : κ → Value}
/-- block b is a map that holds just these pairs -/
def MapL (kv : κ → Value) (w : World) (b : Nat) (l : List (κ × Value)) : Prop :=
  ∃ es clock, w.heap[b]? = some (.map es clock) ∧ MapKept.Stamped es clock ∧ es.toList.map (fun e => (e.key, e.val)) = l.map (fun p => (kv p.1, p.2))
/-- what a map holds at a key -/
def aget [DecidableEq κ] (l : List (κ × Value)) (k : κ) : Option Value := (l.find? (fun p => decide (p.1 = k))).map (·.2)
def aput [DecidableEq κ] (l : List (κ × Value)) (k : κ) (v : Value) : List (κ × Value) :=
  if k ∈ l.map (·.1) then l.map (fun p => if p.1 = k then (k, v) else p) else l ++ [(k, v)]
def adel [DecidableEq κ] (l : List (κ × Value)) (k : κ) : List (κ × Value) := l.filter (fun p => decide (p.1 ≠ k))

namespace MapL
variable {w w' : World} {b : Nat} {l : List (κ × Value)}
theorem lt (h : MapL kv w b l) : b < w.heap.size := by obtain ⟨es, clock, hb, _⟩ := h; exact (Array.getElem?_eq_some_iff.1 hb).1
theorem extX {M : Nat → Prop} (h : MapL kv w b l) (e : ExtX M w w') (hb : ¬ M b) : MapL kv w' b l := by
  have := h.lt
  obtain ⟨es, clock, h1, h2⟩ := h
  exact ⟨es, clock, (e.2.2.2.2 b this hb).trans h1, h2⟩
theorem ext (h : MapL kv w b l) (e : Ext w w') : MapL kv w' b l := h.extX (e.toX (fun _ => False)) (fun h => h)
theorem drew (h : MapL kv w b l) : MapL kv w.drew b l := h
theorem new (w : World) : MapL kv (w.alloc (.map #[] 0)) w.heap.size [] := ⟨#[], 0, heap_alloc_new w _, MapKept.stamped_empty 0, rfl⟩
theorem keysOf {es : Array MapEntry} (hl : es.toList.map (fun e => (e.key, e.val)) = l.map (fun p => (kv p.1, p.2))) : ∀ x ∈ es.toList, ∃ a, x.key = kv a := by
  intro x hx
  have : (x.key, x.val) ∈ es.toList.map (fun e => (e.key, e.val)) := List.mem_map.2 ⟨x, hx, rfl⟩
  rw [hl] at this
  obtain ⟨p, _, hp⟩ := List.mem_map.1 this
  exact ⟨p.1, (congrArg Prod.fst hp).symm⟩
theorem at_idx {es : Array MapEntry} (hl : es.toList.map (fun e => (e.key, e.val)) = l.map (fun p => (kv p.1, p.2))) (j : Nat) : (es.toList[j]?).map (fun e => (e.key, e.val)) = (l[j]?).map (fun p => (kv p.1, p.2)) := by
  rw [← List.getElem?_map, ← List.getElem?_map, hl]
theorem len_eq {es : Array MapEntry} (hl : es.toList.map (fun e => (e.key, e.val)) = l.map (fun p => (kv p.1, p.2))) : es.size = l.length := by
  have := congrArg List.length hl
  simpa using this
/-- no key stands twice -/
theorem nodup (h : MapL kv w b l) : (l.map (·.1)).Nodup := by
  obtain ⟨es, clock, _, ⟨_, _, h3⟩, hl⟩ := h
  have h4 : (l.map (fun p => kv p.1)).Nodup := by
    have : es.toList.map (·.key) = l.map (fun p => kv p.1) := by
      have := congrArg (List.map Prod.fst) hl
      simpa [List.map_map, Function.comp_def] using this
    rw [← this]; exact h3
  have h5 : ((l.map (·.1)).map kv).Nodup := by rw [List.map_map]; exact h4
  rw [List.Nodup, List.pairwise_map] at h5
  exact h5.imp fun h e => h (by rw [e])
variable {P : Program} {kt e t : TypeId} [DecidableEq κ]
omit [DecidableEq κ] in
theorem find_none (C : KeyCls P kt kv) {es : Array MapEntry} (hl : es.toList.map (fun e => (e.key, e.val)) = l.map (fun p => (kv p.1, p.2))) {k : κ} (h : ∀ x ∈ es.toList, x.key ≠ kv k) : k ∉ l.map (·.1) := by
  intro hk
  obtain ⟨p, hp, rfl⟩ := List.mem_map.1 hk
  have : (kv p.1, p.2) ∈ l.map (fun p => (kv p.1, p.2)) := List.mem_map.2 ⟨p, hp, rfl⟩
  rw [← hl] at this
  obtain ⟨x, hx, he⟩ := List.mem_map.1 this
  simp only [Prod.mk.injEq] at he
  exact h x hx he.1
theorem aget_none {k : κ} (h : k ∉ l.map (·.1)) : aget l k = none := by
  unfold aget
  rw [List.find?_eq_none.2]
  · rfl
  · intro p hp hd
    exact h (List.mem_map.2 ⟨p, hp, by simpa using hd⟩)
theorem aget_at (hn : (l.map (·.1)).Nodup) {j : Nat} {p : κ × Value} (hp : l[j]? = some p) : aget l p.1 = some p.2 := by
  unfold aget
  have hm := List.mem_of_getElem? hp
  cases hf : l.find? (fun q => decide (q.1 = p.1)) with
  | none => exact absurd (List.find?_eq_none.1 hf p hm) (by simp)
  | some q =>
    have hq1 := List.find?_some hf
    have hq2 := List.mem_of_find?_eq_some hf
    simp only [decide_eq_true_eq] at hq1
    have : q = p := by
      obtain ⟨i, hi⟩ := List.mem_iff_getElem?.1 hq2
      have hij : i = j := by
        have hil : i < (l.map (·.1)).length := by rw [List.length_map]; exact (List.getElem?_eq_some_iff.1 hi).1
        refine (List.getElem?_inj hil hn).1 ?_
        rw [List.getElem?_map, List.getElem?_map, hi, hp]
        simp [hq1]
      subst hij
      rw [hi] at hp
      exact Option.some.inj hp
    rw [this]; rfl
theorem look (C : KeyCls P kt kv) (h : MapL kv w b l) (ht : P.underlying t = some (.map kt e)) {z : Value} (hz : (zeroValue e).run P w = .ok z w) (k : κ) (c : Bool) :
    (Instr.lookup t (.map (some b)) (kv k) c).run P w = .ok (if c then .tuple #[(aget l k).getD z, .bool (aget l k).isSome] else (aget l k).getD z) w := by
  have hn := h.nodup
  obtain ⟨es, clock, hb, hst, hl⟩ := h
  unfold Instr.lookup
  simp only [Sem.run_bind, run_underlying ht, Result.andThen, MapKept.run_getObj_map hb, Sem.run_pure, C.chk]
  rcases C.find es.toList k w (keysOf hl) with ⟨h1, h2⟩ | ⟨j, x, h1, h2, h3⟩
  · rw [aget_none (find_none C hl h2)]
    simp only [h1, hz, Sem.run_bind, Result.andThen, Sem.run_pure]
    rfl
  · have h4 := at_idx hl j
    rw [h2] at h4
    cases hp : l[j]? with
    | none => rw [hp] at h4; cases h4
    | some p =>
      rw [hp] at h4
      simp only [Option.map_some, Option.some.injEq, Prod.mk.injEq] at h4
      have hk : p.1 = k := C.inj _ _ (h4.1.symm.trans h3)
      have := aget_at hn hp
      rw [hk] at this
      rw [this]
      simp only [h1, Sem.run_bind, Result.andThen, Sem.run_pure, h4.2]
      rfl
theorem put (C : KeyCls P kt kv) (h : MapL kv w b l) (ht : P.underlying t = some (.map kt e)) (k : κ) (v : Value) :
    ∃ w', (Instr.mapUpdate t (.map (some b)) (kv k) v).run P w = .ok () w' ∧ MapL kv w' b (aput l k v) ∧ ExtX (fun x => x = b) w w' ∧ w'.heap.size = w.heap.size := by
  obtain ⟨es, clock, hb, hst, hl⟩ := h
  have hext : ∀ o, ExtX (fun x => x = b) w { w with heap := w.heap.setIfInBounds b o } := fun o => ⟨rfl, rfl, rfl, by simp, fun i _ hi => (MapKept.heap_set hb).2 i hi⟩
  rcases C.find es.toList k w (keysOf hl) with ⟨h1, h2⟩ | ⟨j, x, h1, h2, h3⟩
  · refine ⟨{ w with heap := w.heap.setIfInBounds b (.map (es.push { key := kv k, val := v, born := clock }) (clock + 1)) }, ?_, ⟨_, _, (MapKept.heap_set hb).1, MapKept.stamped_push hst h2, ?_⟩, hext _, by simp⟩
    · unfold Instr.mapUpdate
      simp only [Sem.run_bind, run_underlying ht, Result.andThen, MapKept.run_getObj_map hb, C.chk, h1, MapKept.run_setObj_map _ hb]
    · unfold aput
      rw [if_neg (find_none C hl h2)]
      simp [hl]
  · have hj : es[j]? = some x := by simpa using h2
    have hkey : ∀ y, es[j]? = some y → y.key = kv k := fun y hy => by rw [hj] at hy; cases hy; exact h3
    refine ⟨{ w with heap := w.heap.setIfInBounds b (.map (es.modify j fun y => { y with key := kv k, val := v }) clock) }, ?_, ⟨_, _, (MapKept.heap_set hb).1, MapKept.stamped_modify hst j _ (fun _ _ => rfl) (fun y _ hy => (hkey y hy).symm), ?_⟩, hext _, by simp⟩
    · unfold Instr.mapUpdate Instr.keyThatStays
      simp only [Sem.run_bind, run_underlying ht, Result.andThen, MapKept.run_getObj_map hb, C.chk, h1, hj, Option.map_some, Option.getD_some, h3, C.same, if_true, Sem.run_pure, MapKept.run_setObj_map _ hb]
    · have hlen := len_eq hl
      have h4 := at_idx hl j
      rw [h2] at h4
      cases hp : l[j]? with
      | none => rw [hp] at h4; cases h4
      | some p =>
        rw [hp] at h4
        simp only [Option.map_some, Option.some.injEq, Prod.mk.injEq] at h4
        have hk : p.1 = k := C.inj _ _ (h4.1.symm.trans h3)
        unfold aput
        rw [if_pos (List.mem_map.2 ⟨p, List.mem_of_getElem? hp, hk⟩)]
        have hn := (show MapL kv w b l from ⟨es, clock, hb, hst, hl⟩).nodup
        apply List.ext_getElem?
        intro i
        have h5 := at_idx hl i
        simp only [List.getElem?_map, Array.getElem?_toList, Array.getElem?_modify] at h5 ⊢
        by_cases hij : j = i
        · subst hij
          rw [if_pos rfl, hj, hp]
          simp [hk]
        · rw [if_neg hij, h5]
          cases hi : l[i]? with
          | none => rfl
          | some q =>
            have : q.1 ≠ k := by
              intro hq
              apply hij
              have hil : i < (l.map (·.1)).length := by rw [List.length_map]; exact (List.getElem?_eq_some_iff.1 hi).1
              have := (List.getElem?_inj (i := i) (j := j) hil hn).1 (by rw [List.getElem?_map, List.getElem?_map, hi, hp]; simp [hq, hk])
              exact this.symm
            simp [this]
omit [DecidableEq κ] in
theorem length (h : MapL kv w b l) (ht : P.underlying t = some (.map kt e)) (ty : TypeId) : (Builtin.len_ #[t] ty #[.map (some b)]).run P w = .ok (goInt l.length) w := by
  obtain ⟨es, clock, hb, hst, hl⟩ := h
  unfold Builtin.len_
  simp [Sem.run_bind, run_underlying ht, Result.andThen, MapKept.run_getObj_map hb, len_eq hl]
theorem del (C : KeyCls P kt kv) (h : MapL kv w b l) (ht : P.underlying t = some (.map kt e)) (k : κ) (ty : TypeId) :
    ∃ w', (Builtin.delete_ #[t, kt] ty #[.map (some b), kv k]).run P w = .ok (.tuple #[]) w' ∧ MapL kv w' b (adel l k) ∧ ExtX (fun x => x = b) w w' ∧ w'.heap.size = w.heap.size := by
  have hn := h.nodup
  obtain ⟨es, clock, hb, hst, hl⟩ := h
  have hext : ∀ o, ExtX (fun x => x = b) w { w with heap := w.heap.setIfInBounds b o } := fun o => ⟨rfl, rfl, rfl, by simp, fun i _ hi => (MapKept.heap_set hb).2 i hi⟩
  rcases C.find es.toList k w (keysOf hl) with ⟨h1, h2⟩ | ⟨j, x, h1, h2, h3⟩
  · refine ⟨{ w with heap := w.heap.setIfInBounds b (.map es clock) }, ?_, ⟨_, _, (MapKept.heap_set hb).1, hst, ?_⟩, hext _, by simp⟩
    · unfold Builtin.delete_
      simp [Sem.run_bind, run_underlying ht, Result.andThen, MapKept.run_getObj_map hb, C.chk, h1, MapKept.run_setObj_map _ hb]
    · unfold adel
      rw [List.filter_eq_self.2]
      · exact hl
      · intro p hp
        have := find_none C hl h2
        simp only [decide_not, Bool.not_eq_eq_eq_not, Bool.not_true, decide_eq_false_iff_not]
        exact fun hk => this (List.mem_map.2 ⟨p, hp, hk⟩)
  · refine ⟨{ w with heap := w.heap.setIfInBounds b (.map (es.eraseIdxIfInBounds j) clock) }, ?_, ⟨_, _, (MapKept.heap_set hb).1, MapKept.stamped_erase hst j, ?_⟩, hext _, by simp⟩
    · unfold Builtin.delete_
      simp [Sem.run_bind, run_underlying ht, Result.andThen, MapKept.run_getObj_map hb, C.chk, h1, MapKept.run_setObj_map _ hb]
    · have hjl : j < es.toList.length := (List.getElem?_eq_some_iff.1 h2).1
      have hjs : j < es.size := by simpa using hjl
      have h4 := at_idx hl j
      rw [h2] at h4
      cases hp : l[j]? with
      | none => rw [hp] at h4; cases h4
      | some p =>
        rw [hp] at h4
        simp only [Option.map_some, Option.some.injEq, Prod.mk.injEq] at h4
        have hk : p.1 = k := C.inj _ _ (h4.1.symm.trans h3)
        have e1 : (es.eraseIdxIfInBounds j).toList = es.toList.eraseIdx j := by
          unfold Array.eraseIdxIfInBounds
          rw [dif_pos hjs]
          simp
        have e2 : adel l k = l.eraseIdx j := by
          have hjl' : j < l.length := (List.getElem?_eq_some_iff.1 hp).1
          have hspl : l = l.take j ++ p :: l.drop (j + 1) := by
            have := (List.getElem?_eq_some_iff.1 hp).2
            rw [← this, List.getElem_cons_drop, List.take_append_drop]
          rw [List.eraseIdx_eq_take_drop_succ]
          rw [hspl] at hn
          simp only [List.map_append, List.map_cons] at hn
          have hn1 := List.nodup_append.1 hn
          have hn2 := List.nodup_cons.1 hn1.2.1
          unfold adel
          conv => lhs; rw [hspl]
          rw [List.filter_append, List.filter_cons, if_neg (by simp [hk])]
          congr 1
          · refine List.filter_eq_self.2 fun q hq => ?_
            simp only [decide_not, Bool.not_eq_eq_eq_not, Bool.not_true, decide_eq_false_iff_not]
            intro hqk
            exact hn1.2.2 q.1 (List.mem_map.2 ⟨q, hq, rfl⟩) p.1 (by simp) (hqk.trans hk.symm)
          · refine List.filter_eq_self.2 fun q hq => ?_
            simp only [decide_not, Bool.not_eq_eq_eq_not, Bool.not_true, decide_eq_false_iff_not]
            intro hqk
            exact hn2.1 (List.mem_map.2 ⟨q, hq, hqk.trans hk.symm⟩)
        rw [e1, e2, erase_map, erase_map, hl]
end MapL

/-- the walk along a map under way: 'left' are the keys that are still to come -/
def IterL (kv : κ → Value) (w : World) (b r : Nat) (l : List (κ × Value)) (left : List κ) : Prop :=
  ∃ es clock since seen c0, w.heap[b]? = some (.map es clock) ∧ MapKept.Stamped es clock ∧ es.toList.map (fun e => (e.key, e.val)) = l.map (fun p => (kv p.1, p.2)) ∧
    w.heap[r]? = some (.mapIter (some b) since seen c0) ∧ (∀ x ∈ es.toList, x.born < since) ∧ since ≤ c0 ∧ since ≤ clock ∧ left.Nodup ∧ (∀ k ∈ left, k ∈ l.map (·.1)) ∧
    ∀ x ∈ es.toList, ∀ a, x.key = kv a → (a ∈ left ↔ seen.contains x.born = false)
namespace IterL
variable {w w' : World} {b r : Nat} {l : List (κ × Value)} {left : List κ} {P : Program} {kt e t : TypeId}
theorem map (h : IterL kv w b r l left) : MapL kv w b l := by obtain ⟨es, clock, since, seen, c0, h1, h2, h3, _⟩ := h; exact ⟨es, clock, h1, h2, h3⟩
theorem lt (h : IterL kv w b r l left) : r < w.heap.size := by obtain ⟨es, clock, since, seen, c0, h1, h2, h3, h4, _⟩ := h; exact (Array.getElem?_eq_some_iff.1 h4).1
theorem ne (h : IterL kv w b r l left) : r ≠ b := by
  obtain ⟨es, clock, since, seen, c0, h1, h2, h3, h4, _⟩ := h
  intro e
  rw [e, h1] at h4
  cases h4
theorem sub (h : IterL kv w b r l left) : ∀ k ∈ left, k ∈ l.map (·.1) := by obtain ⟨es, clock, since, seen, c0, h1, h2, h3, h4, h5, h6, h7, h8, h9, h10⟩ := h; exact h9
theorem extX {M : Nat → Prop} (h : IterL kv w b r l left) (x : ExtX M w w') (hb : ¬ M b) (hr : ¬ M r) : IterL kv w' b r l left := by
  have l1 := h.map.lt
  have l2 := h.lt
  obtain ⟨es, clock, since, seen, c0, h1, h2, h3, h4, rest⟩ := h
  exact ⟨es, clock, since, seen, c0, (x.2.2.2.2 b l1 hb).trans h1, h2, h3, (x.2.2.2.2 r l2 hr).trans h4, rest⟩
theorem ext (h : IterL kv w b r l left) (x : Ext w w') : IterL kv w' b r l left := h.extX (x.toX (fun _ => False)) (fun h => h) (fun h => h)
theorem start (C : KeyCls P kt kv) (h : MapL kv w b l) (ht : P.underlying t = some (.map kt e)) :
    ∃ w', (Instr.range t (.map (some b))).run P w = .ok (.pointer (some ⟨w.heap.size, 0, none⟩)) w' ∧ IterL kv w' b w.heap.size l (l.map (·.1)) ∧ Ext w w' ∧ w'.heap.size = w.heap.size + 1 := by
  have hn := h.nodup
  have hlt := h.lt
  obtain ⟨es, clock, hb, hst, hl⟩ := h
  refine ⟨_, run_range_map w t kt e b es clock ht hb, ⟨es, clock, clock, #[], clock, (MapKept.heap_alloc w _).2 b hlt |>.trans hb, hst, hl, heap_alloc_new w _, hst.1, Nat.le_refl _, Nat.le_refl _, hn, fun k hk => hk, fun x hx a ha => ?_⟩, (Ext.refl w).alloc _, World.size_alloc _ _⟩
  simp only [Array.contains_empty, iff_true]
  have : (x.key, x.val) ∈ es.toList.map (fun e => (e.key, e.val)) := List.mem_map.2 ⟨x, hx, rfl⟩
  rw [hl] at this
  obtain ⟨p, hp, he⟩ := List.mem_map.1 this
  have h1 : kv p.1 = x.key := congrArg Prod.fst he
  rw [C.inj _ _ (ha.symm.trans h1.symm)]
  exact List.mem_map.2 ⟨p, hp, rfl⟩
theorem next [DecidableEq κ] (C : KeyCls P kt kv) (h : IterL kv w b r l left) (ty : TypeId) :
    (left = [] ∧ (Instr.next (.pointer (some ⟨r, 0, none⟩)) false ty).run P w = .ok (.tuple #[.bool false]) w) ∨
    ∃ k v w', k ∈ left ∧ (k, v) ∈ l ∧ (Instr.next (.pointer (some ⟨r, 0, none⟩)) false ty).run P w = .ok (.tuple #[.bool true, kv k, v]) w' ∧
      IterL kv w' b r l (left.filter (fun x => decide (x ≠ k))) ∧ ExtX (fun x => x = r) w w' ∧ w'.heap.size = w.heap.size ∧ (Instr.entry (.pointer (some ⟨r, 0, none⟩))).run P w' = .ok (.tuple #[kv k, v]) w' := by
  have hne := h.ne
  obtain ⟨es, clock, since, seen, c0, hb, hst, hl, hr, hold, hsc, hsk, hnd, hsub, hleft⟩ := h
  rcases run_next_at (P := P) w ty r b since c0 seen es clock hr hb hold hsc with ⟨h0, hrun⟩ | ⟨e, he, w1, hal, hrun⟩
  · refine .inl ⟨List.eq_nil_iff_forall_not_mem.2 fun k hk => ?_, hrun⟩
    obtain ⟨p, hp, rfl⟩ := List.mem_map.1 (hsub k hk)
    have : (kv p.1, p.2) ∈ l.map (fun p => (kv p.1, p.2)) := List.mem_map.2 ⟨p, hp, rfl⟩
    rw [← hl] at this
    obtain ⟨x, hx, hxe⟩ := List.mem_map.1 this
    have h1 := (hleft x hx p.1 (congrArg Prod.fst hxe)).1 hk
    rw [all_seen es seen h0 x hx] at h1
    cases h1
  · obtain ⟨hem, hes⟩ := mem_left he
    have : (e.key, e.val) ∈ es.toList.map (fun e => (e.key, e.val)) := List.mem_map.2 ⟨e, hem, rfl⟩
    rw [hl] at this
    obtain ⟨p, hp, hpe⟩ := List.mem_map.1 this
    simp only [Prod.mk.injEq] at hpe
    have hr1 : w1.heap[r]? = some (.mapIter (some b) since seen c0) := by rcases hal with rfl | rfl <;> exact hr
    have hb1 : w1.heap[b]? = some (.map es clock) := by rcases hal with rfl | rfl <;> exact hb
    have hset := MapKept.heap_set (o' := .mapIter (some b) since (seen.push e.born) clock) hr1
    have hb' : (ChangeMaps.setBlock w1 r (.mapIter (some b) since (seen.push e.born) clock)).heap[b]? = some (.map es clock) := (hset.2 b (fun e1 => hne e1.symm)).trans hb1
    rw [← hpe.1, ← hpe.2] at hrun
    refine .inr ⟨p.1, p.2, _, (hleft e hem p.1 hpe.1.symm).2 hes, hp, hrun, ⟨es, clock, since, seen.push e.born, clock, hb', hst, hl, hset.1, hold, hsk, hsk, hnd.filter _, fun k hk => hsub k (List.mem_filter.1 hk).1, fun x hx a ha => ?_⟩, ?_, ?_, ?_⟩
    · rw [List.mem_filter, contains_push, Bool.or_eq_false_iff, ← hleft x hx a ha]
      simp only [decide_not, Bool.not_eq_eq_eq_not, Bool.not_true, decide_eq_false_iff_not, beq_eq_false_iff_ne, ne_eq]
      refine and_congr_right fun _ => not_congr ⟨fun hk => ?_, fun hbn => ?_⟩
      · subst hk
        have hkk : x.key = e.key := ha.trans hpe.1
        rw [entryOne hst.2.2 hx hem hkk]
      · obtain rfl := born_inj hst.2.1 hx hem hbn
        exact C.inj _ _ (ha.symm.trans hpe.1.symm)
    · rcases hal with rfl | rfl <;> exact ⟨rfl, rfl, rfl, by simp [ChangeMaps.setBlock], fun i _ hi => hset.2 i hi⟩
    · rcases hal with rfl | rfl <;> simp [ChangeMaps.setBlock]
    · rw [hpe.1, hpe.2]
      exact run_entry_at _ r b since seen es clock e hset.1 hb' hem hst.2.1
where
  entryOne {l : List MapEntry} (hn : (l.map (·.key)).Nodup) {x y : MapEntry} (hx : x ∈ l) (hy : y ∈ l) (h : x.key = y.key) : x = y := by
    obtain ⟨i, hi⟩ := List.mem_iff_getElem?.1 hx
    obtain ⟨j, hj⟩ := List.mem_iff_getElem?.1 hy
    have hil : i < (l.map (·.key)).length := by rw [List.length_map]; exact (List.getElem?_eq_some_iff.1 hi).1
    have := (List.getElem?_inj (j := j) hil hn).1 (by rw [List.getElem?_map, List.getElem?_map, hi, hj]; simp [h])
    subst this
    rw [hi] at hj
    exact Option.some.inj hj
theorem del [DecidableEq κ] (C : KeyCls P kt kv) (h : IterL kv w b r l left) (ht : P.underlying t = some (.map kt e)) (k : κ) (ty : TypeId) :
    ∃ w', (Builtin.delete_ #[t, kt] ty #[.map (some b), kv k]).run P w = .ok (.tuple #[]) w' ∧ IterL kv w' b r (adel l k) (left.filter (fun x => decide (x ≠ k))) ∧ ExtX (fun x => x = b) w w' ∧ w'.heap.size = w.heap.size := by
  have hne := h.ne
  have hlr := h.lt
  obtain ⟨w', hrun, ⟨es', clock', hb', hst', hl'⟩, hx, hsz⟩ := h.map.del C ht k ty
  obtain ⟨es, clock, since, seen, c0, hb, hst, hl, hr, hold, hsc, hsk, hnd, hsub, hleft⟩ := h
  -- what is left of the entries were entries
  have hes : clock' = clock ∧ ∀ x ∈ es'.toList, x ∈ es.toList := by
    rcases C.find es.toList k w (MapL.keysOf hl) with ⟨h1, h2⟩ | ⟨j, x, h1, h2, h3⟩
    · have e1 : (Builtin.delete_ #[t, kt] ty #[.map (some b), kv k]).run P w = .ok (.tuple #[]) { w with heap := w.heap.setIfInBounds b (.map es clock) } := by
        unfold Builtin.delete_
        simp [Sem.run_bind, run_underlying ht, Result.andThen, MapKept.run_getObj_map hb, C.chk, h1, MapKept.run_setObj_map _ hb]
      rw [hrun] at e1
      simp only [Result.ok.injEq, true_and] at e1
      rw [e1] at hb'
      have := (MapKept.heap_set (o' := .map es clock) hb).1
      rw [this] at hb'
      simp only [Option.some.injEq, Obj.map.injEq] at hb'
      exact ⟨hb'.2.symm, fun x hx => by rw [hb'.1]; exact hx⟩
    · have e1 : (Builtin.delete_ #[t, kt] ty #[.map (some b), kv k]).run P w = .ok (.tuple #[]) { w with heap := w.heap.setIfInBounds b (.map (es.eraseIdxIfInBounds j) clock) } := by
        unfold Builtin.delete_
        simp [Sem.run_bind, run_underlying ht, Result.andThen, MapKept.run_getObj_map hb, C.chk, h1, MapKept.run_setObj_map _ hb]
      rw [hrun] at e1
      simp only [Result.ok.injEq, true_and] at e1
      rw [e1] at hb'
      have := (MapKept.heap_set (o' := .map (es.eraseIdxIfInBounds j) clock) hb).1
      rw [this] at hb'
      simp only [Option.some.injEq, Obj.map.injEq] at hb'
      refine ⟨hb'.2.symm, fun x hx => ?_⟩
      rw [← hb'.1] at hx
      unfold Array.eraseIdxIfInBounds at hx
      split at hx
      · simp only [Array.toList_eraseIdx] at hx
        exact List.mem_of_mem_eraseIdx hx
      · exact hx
  obtain ⟨rfl, hes⟩ := hes
  refine ⟨w', hrun, ⟨es', clock', since, seen, c0, hb', hst', hl', (hx.2.2.2.2 r hlr hne).trans hr, fun x hx => hold x (hes x hx), hsc, hsk, hnd.filter _, fun a ha => ?_, fun x hx a ha => ?_⟩, hx, hsz⟩
  · obtain ⟨h1, h2⟩ := List.mem_filter.1 ha
    obtain ⟨p, hp, rfl⟩ := List.mem_map.1 (hsub a h1)
    exact List.mem_map.2 ⟨p, List.mem_filter.2 ⟨hp, h2⟩, rfl⟩
  · rw [List.mem_filter, ← hleft x (hes x hx) a ha]
    refine and_iff_left ?_
    have : (x.key, x.val) ∈ es'.toList.map (fun e => (e.key, e.val)) := List.mem_map.2 ⟨x, hx, rfl⟩
    rw [hl'] at this
    obtain ⟨p, hp, he⟩ := List.mem_map.1 this
    have h1 : kv p.1 = x.key := congrArg Prod.fst he
    rw [C.inj _ _ (ha.symm.trans h1.symm)]
    exact (List.mem_filter.1 hp).2
end IterL
end
end Go.Proofs.Ytphhkphibdiahaa
