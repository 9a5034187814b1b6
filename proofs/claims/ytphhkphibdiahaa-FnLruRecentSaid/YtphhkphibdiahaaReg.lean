/-
  A region that draws its order, walked by one schedule: what only reads is taken first (its value stays in every world that the region may yet come to), what makes memory or calls is walked where it alone may come up, or by one branch each.
-/
import Derived.Test.YtphhkphibdiahaaBase
import Derived.OrdersHeld
namespace Go.Proofs.Ytphhkphibdiahaa
open Go.RowKit

section
variable {P : Program} {ops : Array Oper} {Q : Exit → Act → World → Prop} {md : Region.Mode} {R : World → World → Prop} {fin : List Nat}

/-- whatever order is picked from here on, each operation that is carried out keeps R, but for those of 'fin' (which wait for all that is taken first) -/
def wpAnyR (P : Program) (md : Region.Mode) (ops : Array Oper) (Q : Exit → Act → World → Prop) (R : World → World → Prop) (fin : List Nat) : Nat → Array Bool → Act → World → Prop
  | 0, listed, a, w => Region.ready md ops listed = [] ∧ Q .normal a w
  | fuel + 1, listed, a, w =>
    (Region.ready md ops listed = [] → Q .normal a w) ∧
    ∀ i ∈ Region.ready md ops listed, wpOp P ops Q i (fun a' w' => (fin.contains i = false → R w w') ∧ wpAnyR P md ops Q R fin fuel (listed.setIfInBounds i true) a' w') a w

theorem wpAny_of_R : ∀ (fuel : Nat) (listed : Array Bool) (a : Act) (w : World), wpAnyR P md ops Q R fin fuel listed a w → wpAny P md ops Q fuel listed a w
  | 0, _, _, _, h => h
  | fuel + 1, _, _, _, h => ⟨h.1, fun i hi => wpOp_mono (fun a' w' h' => wpAny_of_R fuel _ a' w' h'.2) (h.2 i hi)⟩

theorem wpAnyR_first (hrefl : ∀ w, R w w) (htr : ∀ a b c, R a b → R b c → R a c) {i : Nat} {oi : Oper} {v : Value} (hi : ops[i]? = some oi)
    (hsel : ∀ (j : Nat) (o : Oper) cs b, ops[j]? = some o → o.op ≠ .select cs b) (hQ : ∀ c a w, Q (.panic c) (a.put oi.dst v) w → Q (.panic c) a w) :
    ∀ (fuel : Nat) (listed : Array Bool) (a : Act) (w : World),
      (∀ j oj, ops[j]? = some oj → j ≠ i → listed.getD j true = false → (∀ e ∈ oj.after, Region.binds md e = true → e.on ≠ i) → oi.apart ops oj = true) →
      (∀ j oj, ops[j]? = some oj → fin.contains j = true → ∃ e ∈ oj.after, Region.binds md e = true ∧ e.on = i) →
      i ∈ Region.ready md ops listed → YieldsIf P ops (R w) oi v a →
      wpAnyR P md ops Q R fin fuel (listed.setIfInBounds i true) (a.put oi.dst v) w → wpAnyR P md ops Q R fin (fuel + 1) listed a w := by
  intro fuel
  induction fuel with
  | zero =>
    intro listed a w _ hfin hr hy H
    refine ⟨fun h => (by rw [h] at hr; cases hr), fun j hj => ?_⟩
    by_cases hji : j = i
    · subst hji; exact hy.wpOp hi (hrefl w) ⟨fun _ => hrefl w, H⟩
    · have := ready_mono hj hji
      rw [H.1] at this
      cases this
  | succ fuel ih =>
    intro listed a w hfree hfin hr hy H
    refine ⟨fun h => (by rw [h] at hr; cases hr), fun j hj => ?_⟩
    by_cases hji : j = i
    · subst hji; exact hy.wpOp hi (hrefl w) ⟨fun _ => hrefl w, H⟩
    · have h1 := H.2 j (ready_mono hj hji)
      obtain ⟨hjun, oj, hoj, hall⟩ := mem_ready.1 hj
      have hnot : ∀ e ∈ oj.after, Region.binds md e = true → e.on ≠ i := fun e he hb heq => by
        have h1 := hall e he hb
        have h0 := (mem_ready.1 hr).1
        rw [heq] at h1
        rcases Nat.lt_or_ge i listed.size with h' | h'
        · simp [h'] at h0 h1; rw [h0] at h1; cases h1
        · simp [Array.getElem?_eq_none h'] at h1
      have h2 := wpOp_putIf (S := R w) hoj (hfree j oj hoj hji hjun hnot) (fun cs b => hsel i oi cs b hi) (fun cs b => hsel j oj cs b hoj) hQ hy h1
      have hfree' : ∀ k ok, ops[k]? = some ok → k ≠ i → (listed.setIfInBounds j true).getD k true = false →
          (∀ e ∈ ok.after, Region.binds md e = true → e.on ≠ i) → oi.apart ops ok = true := fun k ok hk hki hun hno => by
        refine hfree k ok hk hki ?_ hno
        by_cases hjk : j = k
        · subst hjk; exact hjun
        · rw [getD_set_ne true hjk] at hun; exact hun
      have hjf : fin.contains j = false := by
        cases hc : fin.contains j with
        | false => rfl
        | true =>
          obtain ⟨e, he, hb, hon⟩ := hfin j oj hoj hc
          exact absurd hon (hnot e he hb)
      refine wpOp_mono (fun a' w' h3 => ⟨h3.2.1, ih (listed.setIfInBounds j true) a' w' hfree' hfin (ready_mono hr (Ne.symm hji)) ?_ ?_⟩) h2
      · exact h3.1.imp (fun ⟨x, y⟩ => ⟨x, fun w2 hw2 => y w2 (htr _ _ _ (h3.2.1 hjf) hw2)⟩) id
      · rw [Array.setIfInBounds_comm _ _ hji]
        exact h3.2.2

/-- an operation that yields the same in every world, taken first -/
theorem wpAnyR_firstP (hrefl : ∀ w, R w w) {i : Nat} {oi : Oper} {v : Value} (hi : ops[i]? = some oi)
    (hsel : ∀ (j : Nat) (o : Oper) cs b, ops[j]? = some o → o.op ≠ .select cs b) (hQ : ∀ c a w, Q (.panic c) (a.put oi.dst v) w → Q (.panic c) a w) :
    ∀ (fuel : Nat) (listed : Array Bool) (a : Act) (w : World),
      (∀ j oj, ops[j]? = some oj → j ≠ i → listed.getD j true = false → (∀ e ∈ oj.after, Region.binds md e = true → e.on ≠ i) → oi.apart ops oj = true) →
      i ∈ Region.ready md ops listed → YieldsIf P ops (fun _ => True) oi v a →
      wpAnyR P md ops Q R fin fuel (listed.setIfInBounds i true) (a.put oi.dst v) w → wpAnyR P md ops Q R fin (fuel + 1) listed a w := by
  intro fuel
  induction fuel with
  | zero =>
    intro listed a w _ hr hy H
    refine ⟨fun h => (by rw [h] at hr; cases hr), fun j hj => ?_⟩
    by_cases hji : j = i
    · subst hji; exact hy.wpOp hi trivial ⟨fun _ => hrefl w, H⟩
    · have := ready_mono hj hji
      rw [H.1] at this
      cases this
  | succ fuel ih =>
    intro listed a w hfree hr hy H
    refine ⟨fun h => (by rw [h] at hr; cases hr), fun j hj => ?_⟩
    by_cases hji : j = i
    · subst hji; exact hy.wpOp hi trivial ⟨fun _ => hrefl w, H⟩
    · have h1 := H.2 j (ready_mono hj hji)
      obtain ⟨hjun, oj, hoj, hall⟩ := mem_ready.1 hj
      have hnot : ∀ e ∈ oj.after, Region.binds md e = true → e.on ≠ i := fun e he hb heq => by
        have h1 := hall e he hb
        have h0 := (mem_ready.1 hr).1
        rw [heq] at h1
        rcases Nat.lt_or_ge i listed.size with h' | h'
        · simp [h'] at h0 h1; rw [h0] at h1; cases h1
        · simp [Array.getElem?_eq_none h'] at h1
      have h2 := wpOp_putIf (S := fun _ => True) hoj (hfree j oj hoj hji hjun hnot) (fun cs b => hsel i oi cs b hi) (fun cs b => hsel j oj cs b hoj) hQ hy h1
      have hfree' : ∀ k ok, ops[k]? = some ok → k ≠ i → (listed.setIfInBounds j true).getD k true = false →
          (∀ e ∈ ok.after, Region.binds md e = true → e.on ≠ i) → oi.apart ops ok = true := fun k ok hk hki hun hno => by
        refine hfree k ok hk hki ?_ hno
        by_cases hjk : j = k
        · subst hjk; exact hjun
        · rw [getD_set_ne true hjk] at hun; exact hun
      refine wpOp_mono (fun a' w' h3 => ⟨h3.2.1, ih (listed.setIfInBounds j true) a' w' hfree' (ready_mono hr (Ne.symm hji)) h3.1 ?_⟩) h2
      rw [Array.setIfInBounds_comm _ _ hji]
      exact h3.2.2

/-- a schedule: all done · take i first · i comes up (then what follows), or another one ('more') · no more -/
inductive Sched where
  | done
  | quiet (i : Nat) (r : Sched)
  | pure (i : Nat) (r : Sched)
  | loud (i : Nat) (r more : Sched)
  | last (i : Nat) (r : Sched)
  | stop
def Sched.depth : Sched → Nat
  | .done => 0
  | .quiet _ r => r.depth + 1
  | .pure _ r => r.depth + 1
  | .loud _ r more => max (r.depth + 1) more.depth
  | .last _ r => r.depth + 1
  | .stop => 0
/-- 'rs': those of the ready ones that are still to be branched over (none: the branching has not begun) -/
def Sched.ok (md : Region.Mode) (ops : Array Oper) (fin : List Nat) : Sched → Array Bool → Option (List Nat) → Bool
  | .done, listed, none => Region.ready md ops listed == []
  | .quiet i r, listed, none => (Region.ready md ops listed).contains i && Region.free md ops listed i && fin.all (fun j => ((ops[j]?).map (·.after.any fun e => Region.binds md e && e.on == i)).getD true) && r.ok md ops fin (listed.setIfInBounds i true) none
  | .pure i r, listed, none => (Region.ready md ops listed).contains i && Region.free md ops listed i && r.ok md ops fin (listed.setIfInBounds i true) none
  | .loud i r more, listed, none =>
    (match Region.ready md ops listed with
     | x :: rs => x == i && r.ok md ops fin (listed.setIfInBounds i true) none && more.ok md ops fin listed (some rs)
     | [] => false)
  | .last i r, listed, none => Region.ready md ops listed == [i] && fin.contains i && r.ok md ops fin (listed.setIfInBounds i true) none
  | .loud i r more, listed, some (x :: rs) => x == i && r.ok md ops fin (listed.setIfInBounds i true) none && more.ok md ops fin listed (some rs)
  | .stop, _, some [] => true
  | _, _, _ => false
/-- the walk along a schedule -/
def wpS (P : Program) (ops : Array Oper) (Q : Exit → Act → World → Prop) (R : World → World → Prop) : Sched → Act → World → Prop
  | .done, a, w => Q .normal a w
  | .quiet i r, a, w => ∃ o v, ops[i]? = some o ∧ YieldsIf P ops (R w) o v a ∧ wpS P ops Q R r (a.put o.dst v) w
  | .pure i r, a, w => ∃ o v, ops[i]? = some o ∧ YieldsIf P ops (fun _ => True) o v a ∧ wpS P ops Q R r (a.put o.dst v) w
  | .loud i r more, a, w => wpOp P ops Q i (fun a' w' => R w w' ∧ wpS P ops Q R r a' w') a w ∧ wpS P ops Q R more a w
  | .last i r, a, w => wpOp P ops Q i (fun a' w' => wpS P ops Q R r a' w') a w
  | .stop, _, _ => True

theorem wpAnyR_of_S (hrefl : ∀ w, R w w) (htr : ∀ a b c, R a b → R b c → R a c) (hs : Region.noSelect ops = true)
    (hQ : ∀ c a d v w, Q (.panic c) (a.put d v) w → Q (.panic c) a w) :
    ∀ (s : Sched) (listed : Array Bool) (a : Act) (w : World),
      (s.ok md ops fin listed none = true → wpS P ops Q R s a w → ∀ fuel, s.depth ≤ fuel → wpAnyR P md ops Q R fin fuel listed a w) ∧
      (∀ rs, s.ok md ops fin listed (some rs) = true → wpS P ops Q R s a w → ∀ fuel, s.depth ≤ fuel + 1 →
        ∀ i ∈ rs, wpOp P ops Q i (fun a' w' => (fin.contains i = false → R w w') ∧ wpAnyR P md ops Q R fin fuel (listed.setIfInBounds i true) a' w') a w) := by
  intro s
  induction s with
  | done =>
    intro listed a w
    refine ⟨fun hok h fuel _ => ?_, fun rs hok => by simp [Sched.ok] at hok⟩
    have hr : Region.ready md ops listed = [] := by simpa [Sched.ok] using hok
    cases fuel with
    | zero => exact ⟨hr, h⟩
    | succ n => exact ⟨fun _ => h, by rw [hr]; simp⟩
  | stop =>
    intro listed a w
    refine ⟨fun hok => by simp [Sched.ok] at hok, fun rs hok _ fuel _ i hi => ?_⟩
    cases rs with
    | nil => cases hi
    | cons x r => simp [Sched.ok] at hok
  | last i r ih =>
    intro listed a w
    refine ⟨fun hok h fuel hf => ?_, fun rs hok => by simp [Sched.ok] at hok⟩
    simp only [Sched.ok, Bool.and_eq_true, beq_iff_eq] at hok
    obtain ⟨⟨hr, hfin⟩, hrest⟩ := hok
    simp only [Sched.depth] at hf
    obtain ⟨n, rfl⟩ : ∃ n, fuel = n + 1 := ⟨fuel - 1, by omega⟩
    refine ⟨fun h0 => (by rw [hr] at h0; cases h0), fun j hj => ?_⟩
    rw [hr, List.mem_singleton] at hj
    subst hj
    exact wpOp_mono (fun a' w' h' => ⟨fun hc => (by rw [hfin] at hc; cases hc), (ih _ _ _).1 hrest h' n (by omega)⟩) h
  | quiet i r ih =>
    intro listed a w
    refine ⟨fun hok h fuel hf => ?_, fun rs hok => by simp [Sched.ok] at hok⟩
    simp only [Sched.ok, Bool.and_eq_true] at hok
    obtain ⟨⟨⟨hr, hfree⟩, hfin⟩, hrest⟩ := hok
    obtain ⟨o, v, ho, hy, hw⟩ := h
    simp only [Sched.depth] at hf
    obtain ⟨n, rfl⟩ : ∃ n, fuel = n + 1 := ⟨fuel - 1, by omega⟩
    exact wpAnyR_first hrefl htr ho (Region.noSelect_spec hs) (fun c a w => hQ c a _ _ w) n listed a w (Region.free_spec ho hfree) (fun j oj hj hc => by
        have h1 := List.all_eq_true.1 hfin j (by simpa using hc)
        rw [hj] at h1
        simp only [Option.map_some, Option.getD_some, Array.any_eq_true', Bool.and_eq_true, beq_iff_eq] at h1
        obtain ⟨e, he, hb, hon⟩ := h1
        exact ⟨e, he, hb, hon⟩) (by simpa using hr) hy
      ((ih _ _ _).1 hrest hw n (by omega))
  | pure i r ih =>
    intro listed a w
    refine ⟨fun hok h fuel hf => ?_, fun rs hok => by simp [Sched.ok] at hok⟩
    simp only [Sched.ok, Bool.and_eq_true] at hok
    obtain ⟨⟨hr, hfree⟩, hrest⟩ := hok
    obtain ⟨o, v, ho, hy, hw⟩ := h
    simp only [Sched.depth] at hf
    obtain ⟨n, rfl⟩ : ∃ n, fuel = n + 1 := ⟨fuel - 1, by omega⟩
    exact wpAnyR_firstP hrefl ho (Region.noSelect_spec hs) (fun c a w => hQ c a _ _ w) n listed a w (Region.free_spec ho hfree) (by simpa using hr) hy
      ((ih _ _ _).1 hrest hw n (by omega))
  | loud i r more ih1 ih2 =>
    intro listed a w
    have key : ∀ rs, i :: rs ≠ [] → r.ok md ops fin (listed.setIfInBounds i true) none = true → more.ok md ops fin listed (some rs) = true → wpS P ops Q R (.loud i r more) a w →
        ∀ fuel, (Sched.loud i r more).depth ≤ fuel + 1 → ∀ j ∈ i :: rs, wpOp P ops Q j (fun a' w' => (fin.contains j = false → R w w') ∧ wpAnyR P md ops Q R fin fuel (listed.setIfInBounds j true) a' w') a w := by
      intro rs _ h1 h2 h fuel hf j hj
      simp only [Sched.depth] at hf
      rcases List.mem_cons.1 hj with rfl | hj
      · exact wpOp_mono (fun a' w' h' => ⟨fun _ => h'.1, (ih1 _ _ _).1 h1 h'.2 fuel (by omega)⟩) h.1
      · exact (ih2 _ _ _).2 rs h2 h.2 fuel (by omega) j hj
    refine ⟨fun hok h fuel hf => ?_, fun rs hok h fuel hf j hj => ?_⟩
    · simp only [Sched.ok] at hok
      split at hok
      · rename_i x rs hrd
        simp only [Bool.and_eq_true, beq_iff_eq] at hok
        obtain ⟨⟨rfl, h1⟩, h2⟩ := hok
        obtain ⟨n, rfl⟩ : ∃ n, fuel = n + 1 := ⟨fuel - 1, by simp only [Sched.depth] at hf; omega⟩
        refine ⟨(fun h0 => by rw [hrd] at h0; cases h0), ?_⟩
        rw [hrd]
        exact key rs (by simp) h1 h2 h n hf
      · cases hok
    · cases rs with
      | nil => cases hj
      | cons x rs =>
        simp only [Sched.ok, Bool.and_eq_true, beq_iff_eq] at hok
        obtain ⟨⟨rfl, h1⟩, h2⟩ := hok
        exact key rs (by simp) h1 h2 h fuel hf j hj

/-- THE BEGINNING -/
theorem wp_region_sched {id : Nat} {a : Act} {w : World} (R : World → World → Prop) (fin : List Nat) (s : Sched) (hm : P.follows .mixedOrders = true) (hrefl : ∀ w, R w w) (htr : ∀ a b c, R a b → R b c → R a c)
    (hok : (Region.noSelect ops && s.ok .any ops fin (Array.replicate ops.size false) none && decide (s.depth ≤ ops.size)) = true)
    (hQ : ∀ c a d v w, Q (.panic c) (a.put d v) w → Q (.panic c) a w)
    (h : wpS P ops Q R s a w.drew) : (Code.region id ops true).wp P Q a w := by
  simp only [Bool.and_eq_true, decide_eq_true_eq] at hok
  exact wp_region_any hm (wpAny_of_R _ _ _ _ ((wpAnyR_of_S hrefl htr hok.1.1 hQ s _ _ _).1 hok.1.2 h _ hok.2))

theorem wpS_quiet {i : Nat} {r : Sched} {a : Act} {w : World} (d : Option Tmp) (o : Oper) (v : Value) (ho : ops[i]? = some o) (hd : o.dst = d) (hw : Region.wanted o (yielded ops a.tmps) = true)
    (hy : ∀ w', R w w' → (execOp a.eval o).run P w' = .ok (.value v) w') (h : wpS P ops Q R r (a.put d v) w) : wpS P ops Q R (.quiet i r) a w :=
  ⟨o, v, ho, .inl ⟨hw, hy⟩, by rw [hd]; exact h⟩
theorem wpS_pure {i : Nat} {r : Sched} {a : Act} {w : World} (d : Option Tmp) (o : Oper) (v : Value) (ho : ops[i]? = some o) (hd : o.dst = d) (hw : Region.wanted o (yielded ops a.tmps) = true)
    (hy : ∀ w', (execOp a.eval o).run P w' = .ok (.value v) w') (h : wpS P ops Q R r (a.put d v) w) : wpS P ops Q R (.pure i r) a w :=
  ⟨o, v, ho, .inl ⟨hw, fun w' _ => hy w'⟩, by rw [hd]; exact h⟩
theorem wpS_pass {i : Nat} {r : Sched} {a : Act} {w : World} (d : Option Tmp) (o : Oper) (ho : ops[i]? = some o) (hd : o.dst = d) (hw : Region.wanted o (yielded ops a.tmps) = false)
    (h : wpS P ops Q R r (a.put d undef) w) : wpS P ops Q R (.quiet i r) a w :=
  ⟨o, undef, ho, .inr ⟨hw, rfl⟩, by rw [hd]; exact h⟩
theorem wpS_last {i : Nat} {r : Sched} {a : Act} {w : World} (d : Option Tmp) (o : Oper) (v : Value) (w' : World) (ho : ops[i]? = some o) (hd : o.dst = d)
    (hw : Region.wanted o (yielded ops a.tmps) = true) (he : (execOp a.eval o).run P w = .ok (.value v) w' ∨ (v = undef ∧ (execOp a.eval o).run P w = .ok .skip w'))
    (h : wpS P ops Q R r (a.put d v) w') : wpS P ops Q R (.last i r) a w := by
  subst hd
  show wpOp P ops Q i _ a w
  unfold wpOp
  simp only [ho, hw, if_true]
  refine .inl ?_
  unfold Oper.wp
  rcases he with he | ⟨rfl, he⟩
  · rw [he]; exact h
  · rw [he]; exact h
/-- the one that comes up, handed to the walk; a way back by 'hK' -/
theorem wpS_loud {i : Nat} {r : Sched} {a : Act} {w : World} (o : Oper) (ho : ops[i]? = some o) (hw : Region.wanted o (yielded ops a.tmps) = true)
    (h : Oper.wp P o a w (fun a' w' => R w w' ∧ wpS P ops Q R r a' w') Q) : wpS P ops Q R (.loud i r .stop) a w :=
  ⟨by unfold wpOp; simp only [ho, hw, if_true]; exact .inl h, trivial⟩
theorem wpS_loud_pass {i : Nat} {r : Sched} {a : Act} {w : World} (hrefl : R w w) (d : Option Tmp) (o : Oper) (ho : ops[i]? = some o) (hd : o.dst = d) (hw : Region.wanted o (yielded ops a.tmps) = false)
    (h : wpS P ops Q R r (a.put d undef) w) : wpS P ops Q R (.loud i r .stop) a w :=
  ⟨by unfold wpOp; simp only [ho, hw, hd]; exact ⟨hrefl, h⟩, trivial⟩
/-- a call of a function comes up: by its contract -/
theorem wpS_call {i : Nat} {r : Sched} {a : Act} {w : World} (d : Option Tmp) (o : Oper) (f : FuncId) (args : Array Value) (ho : ops[i]? = some o) (hd : o.dst = d)
    (hw : Region.wanted o (yielded ops a.tmps) = true) (he : (execOp a.eval o).run P w = .ok (.enter f args) w)
    (h : Calls P f args w fun e w' => ∃ v, e = .returned v ∧ R w w' ∧ wpS P ops Q R r (a.put d v) w') : wpS P ops Q R (.loud i r .stop) a w := by
  refine wpS_loud o ho hw ?_
  unfold Oper.wp
  rw [he]
  refine Calls.mono h fun e w' hx => ?_
  obtain ⟨v, rfl, h1, h2⟩ := hx
  subst hd
  exact ⟨h1, h2⟩
/-- an operation that yields a value, or none, and turns the world -/
theorem wpS_val {i : Nat} {r more : Sched} {a : Act} {w : World} (d : Option Tmp) (o : Oper) (v : Value) (w' : World) (ho : ops[i]? = some o) (hd : o.dst = d)
    (hw : Region.wanted o (yielded ops a.tmps) = true) (he : (execOp a.eval o).run P w = .ok (.value v) w' ∨ (v = undef ∧ (execOp a.eval o).run P w = .ok .skip w'))
    (hR : R w w') (h : wpS P ops Q R r (a.put d v) w') (hm : wpS P ops Q R more a w) : wpS P ops Q R (.loud i r more) a w := by
  subst hd
  refine ⟨?_, hm⟩
  unfold wpOp
  simp only [ho, hw, if_true]
  refine .inl ?_
  unfold Oper.wp
  rcases he with he | ⟨rfl, he⟩
  · rw [he]; exact ⟨hR, h⟩
  · rw [he]; exact ⟨hR, h⟩
/-- the same, the world behind it told by what it is good for -/
theorem wpS_alloc {i : Nat} {r more : Sched} {a : Act} {w : World} (d : Option Tmp) (o : Oper) (T : TypeId) (cs : List Value) (ho : ops[i]? = some o) (hd : o.dst = d)
    (hw : Region.wanted o (yielded ops a.tmps) = true) (he : (execOp a.eval o).run P w = .ok (.value (.pointer (some ⟨w.heap.size, 0, none⟩))) (w.alloc (.cells cs.toArray T)))
    (hR : ∀ w', Ext w w' → R w w')
    (h : ∀ b w', b = w.heap.size → Ext w w' → Blk w' b T cs → wpS P ops Q R r (a.put d (.pointer (some ⟨b, 0, none⟩))) w') (hm : wpS P ops Q R more a w) : wpS P ops Q R (.loud i r more) a w :=
  wpS_val d o _ _ ho hd hw (.inl he) (hR _ ((Ext.refl _).alloc _)) (h _ _ rfl ((Ext.refl _).alloc _) (Blk.new _ _ _)) hm
theorem wpS_callm {i : Nat} {r more : Sched} {a : Act} {w : World} (d : Option Tmp) (o : Oper) (f : FuncId) (args : Array Value) (ho : ops[i]? = some o) (hd : o.dst = d)
    (hw : Region.wanted o (yielded ops a.tmps) = true) (he : (execOp a.eval o).run P w = .ok (.enter f args) w)
    (h : Calls P f args w fun e w' => ∃ v, e = .returned v ∧ R w w' ∧ wpS P ops Q R r (a.put d v) w') (hm : wpS P ops Q R more a w) : wpS P ops Q R (.loud i r more) a w :=
  ⟨(wpS_call (r := r) d o f args ho hd hw he h).1, hm⟩
end
/-- the operations of a region of a function, looked up -/
def opsOf : Code → Nat → Option (Array Oper)
  | .region id ops _, n => if id == n then some ops else none
  | .seq a b, n => match opsOf a n with | some x => some x | none => opsOf b n
  | .cond _ a b, n => match opsOf a n with | some x => some x | none => opsOf b n
  | .rangeFunc _ _ a b, n => match opsOf a n with | some x => some x | none => opsOf b n
  | .block _ b, n => opsOf b n
  | .loop b, n => opsOf b n
  | .scope b, n => opsOf b n
  | _, _ => none
def opsAt (f : Func) (n : Nat) : Array Oper := ((f.body.getD .skip |> (opsOf · n))).getD #[]
theorem extB_refl (B : Nat) : ∀ w, ExtB B w w := ExtB.refl B
theorem extB_trans (B : Nat) : ∀ a b c, ExtB B a b → ExtB B b c → ExtB B a c := fun _ _ _ => ExtB.trans
theorem ext_refl : ∀ w, Ext w w := Ext.refl
theorem ext_trans : ∀ a b c, Ext a b → Ext b c → Ext a c := fun _ _ _ => Ext.trans
end Go.Proofs.Ytphhkphibdiahaa
