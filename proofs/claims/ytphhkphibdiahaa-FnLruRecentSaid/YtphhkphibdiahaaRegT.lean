/-
  A region that draws its order, walked by one schedule, as Reg has it: an operation that waits for all that is taken first, be it through others, may turn whatever it will.
-/
import Derived.Test.YtphhkphibdiahaaReg
namespace Go.Proofs.Ytphhkphibdiahaa
open Go.RowKit

section
variable {P : Program} {ops : Array Oper} {Q : Exit → Act → World → Prop} {md : Region.Mode} {R : World → World → Prop} {fin : List Nat}

/-- j waits for i, straight or through others that are not listed yet -/
def waitsB (md : Region.Mode) (ops : Array Oper) (listed : Array Bool) (i : Nat) : Nat → Nat → Bool
  | 0, _ => false
  | n + 1, j => match ops[j]? with
    | none => false
    | some o => o.after.any fun e => Region.binds md e && (e.on == i || (!(listed.getD e.on true) && waitsB md ops listed i n e.on))
theorem waits_not {listed : Array Bool} {i : Nat} (hi : listed.getD i true = false) : ∀ {n j : Nat}, waitsB md ops listed i n j = true → j ∉ Region.ready md ops listed
  | 0, j, h => by simp [waitsB] at h
  | n + 1, j, h => by
    intro hj
    obtain ⟨hjun, oj, hoj, hall⟩ := mem_ready.1 hj
    simp only [waitsB, hoj, Array.any_eq_true', Bool.and_eq_true, Bool.or_eq_true, beq_iff_eq, Bool.not_eq_eq_eq_not, Bool.not_true] at h
    obtain ⟨e, he, hb, hc⟩ := h
    have h1 := hall e he hb
    have un : ∀ k, listed.getD k true = false → listed[k]?.getD false = false := fun k hk => by
      rcases Nat.lt_or_ge k listed.size with h' | h'
      · simp [h'] at hk ⊢; exact hk
      · simp [Array.getElem?_eq_none h'] at hk
    have hf : listed.getD e.on true = false := by
      rcases hc with h2 | h2
      · rw [h2]; exact hi
      · exact h2.1
    have h2 := un _ hf
    rcases Nat.lt_or_ge e.on listed.size with h' | h'
    · simp [h'] at h1 h2; rw [h2] at h1; cases h1
    · simp [Array.getElem?_eq_none h'] at h1
theorem waits_mono {listed : Array Bool} {i k : Nat} (hi : listed.getD i true = false) (hk : k ∈ Region.ready md ops listed) : ∀ {n j : Nat}, waitsB md ops listed i n j = true → waitsB md ops (listed.setIfInBounds k true) i n j = true
  | 0, j, h => by simp [waitsB] at h
  | n + 1, j, h => by
    unfold waitsB at h ⊢
    split at h
    · cases h
    · rename_i o ho
      simp only [Array.any_eq_true', Bool.and_eq_true, Bool.or_eq_true, beq_iff_eq, Bool.not_eq_eq_eq_not, Bool.not_true] at h ⊢
      obtain ⟨e, he, hb, hc⟩ := h
      refine ⟨e, he, hb, ?_⟩
      rcases hc with h2 | ⟨h2, h3⟩
      · exact .inl h2
      · refine .inr ⟨?_, waits_mono hi hk h3⟩
        have hne : k ≠ e.on := fun h => waits_not hi h3 (h ▸ hk)
        rw [getD_set_ne true hne]; exact h2

theorem wpAnyR_firstT (hrefl : ∀ w, R w w) (htr : ∀ a b c, R a b → R b c → R a c) {i : Nat} {oi : Oper} {v : Value} (hi : ops[i]? = some oi)
    (hsel : ∀ (j : Nat) (o : Oper) cs b, ops[j]? = some o → o.op ≠ .select cs b) (hQ : ∀ c a w, Q (.panic c) (a.put oi.dst v) w → Q (.panic c) a w) (n : Nat) :
    ∀ (fuel : Nat) (listed : Array Bool) (a : Act) (w : World),
      (∀ j oj, ops[j]? = some oj → j ≠ i → listed.getD j true = false → (∀ e ∈ oj.after, Region.binds md e = true → e.on ≠ i) → oi.apart ops oj = true) →
      (∀ j, fin.contains j = true → listed.getD j true = false → waitsB md ops listed i n j = true) →
      i ∈ Region.ready md ops listed → YieldsIf P ops (R w) oi v a →
      wpAnyR P md ops Q R fin fuel (listed.setIfInBounds i true) (a.put oi.dst v) w → wpAnyR P md ops Q R fin (fuel + 1) listed a w := by
  intro fuel
  induction fuel with
  | zero =>
    intro listed a w _ hfin hr hy H
    refine ⟨fun h => (by rw [h] at hr; cases hr), fun j hj => ?_⟩
    by_cases hji : j = i
    · subst hji; exact hy.wpOp hi (hrefl w) ⟨fun _ => hrefl w, H⟩
    · have := ready_mono hj hji
      rw [H.1] at this
      cases this
  | succ fuel ih =>
    intro listed a w hfree hfin hr hy H
    have hiun : listed.getD i true = false := by
      have h0 := (mem_ready.1 hr).1
      rcases Nat.lt_or_ge i listed.size with h' | h'
      · simpa [h'] using h0
      · simp [Array.getElem?_eq_none h'] at h0
    refine ⟨fun h => (by rw [h] at hr; cases hr), fun j hj => ?_⟩
    by_cases hji : j = i
    · subst hji; exact hy.wpOp hi (hrefl w) ⟨fun _ => hrefl w, H⟩
    · have h1 := H.2 j (ready_mono hj hji)
      obtain ⟨hjun, oj, hoj, hall⟩ := mem_ready.1 hj
      have hnot : ∀ e ∈ oj.after, Region.binds md e = true → e.on ≠ i := fun e he hb heq => by
        have h1 := hall e he hb
        have h0 := (mem_ready.1 hr).1
        rw [heq] at h1
        rcases Nat.lt_or_ge i listed.size with h' | h'
        · simp [h'] at h0 h1; rw [h0] at h1; cases h1
        · simp [Array.getElem?_eq_none h'] at h1
      have h2 := wpOp_putIf (S := R w) hoj (hfree j oj hoj hji hjun hnot) (fun cs b => hsel i oi cs b hi) (fun cs b => hsel j oj cs b hoj) hQ hy h1
      have hfree' : ∀ k ok, ops[k]? = some ok → k ≠ i → (listed.setIfInBounds j true).getD k true = false →
          (∀ e ∈ ok.after, Region.binds md e = true → e.on ≠ i) → oi.apart ops ok = true := fun k ok hk hki hun hno => by
        refine hfree k ok hk hki ?_ hno
        by_cases hjk : j = k
        · subst hjk; exact hjun
        · rw [getD_set_ne true hjk] at hun; exact hun
      have hjf : fin.contains j = false := by
        cases hc : fin.contains j with
        | false => rfl
        | true => exact absurd hj (waits_not hiun (hfin j hc hjun))
      have hfin' : ∀ k, fin.contains k = true → (listed.setIfInBounds j true).getD k true = false → waitsB md ops (listed.setIfInBounds j true) i n k = true := fun k hk hun => by
        refine waits_mono hiun hj (hfin k hk ?_)
        by_cases hjk : j = k
        · subst hjk; exact hjun
        · rw [getD_set_ne true hjk] at hun; exact hun
      refine wpOp_mono (fun a' w' h3 => ⟨h3.2.1, ih (listed.setIfInBounds j true) a' w' hfree' hfin' (ready_mono hr (Ne.symm hji)) ?_ ?_⟩) h2
      · exact h3.1.imp (fun ⟨x, y⟩ => ⟨x, fun w2 hw2 => y w2 (htr _ _ _ (h3.2.1 hjf) hw2)⟩) id
      · rw [Array.setIfInBounds_comm _ _ hji]
        exact h3.2.2

def Sched.okT (md : Region.Mode) (ops : Array Oper) (fin : List Nat) : Sched → Array Bool → Option (List Nat) → Bool
  | .done, listed, none => Region.ready md ops listed == []
  | .quiet i r, listed, none => (Region.ready md ops listed).contains i && Region.free md ops listed i && fin.all (fun j => listed.getD j true || waitsB md ops listed i ops.size j) && r.okT md ops fin (listed.setIfInBounds i true) none
  | .pure i r, listed, none => (Region.ready md ops listed).contains i && Region.free md ops listed i && r.okT md ops fin (listed.setIfInBounds i true) none
  | .loud i r more, listed, none =>
    (match Region.ready md ops listed with
     | x :: rs => x == i && r.okT md ops fin (listed.setIfInBounds i true) none && more.okT md ops fin listed (some rs)
     | [] => false)
  | .last i r, listed, none => Region.ready md ops listed == [i] && fin.contains i && r.okT md ops fin (listed.setIfInBounds i true) none
  | .loud i r more, listed, some (x :: rs) => x == i && r.okT md ops fin (listed.setIfInBounds i true) none && more.okT md ops fin listed (some rs)
  | .stop, _, some [] => true
  | _, _, _ => false

theorem wpAnyR_of_ST (hrefl : ∀ w, R w w) (htr : ∀ a b c, R a b → R b c → R a c) (hs : Region.noSelect ops = true)
    (hQ : ∀ c a d v w, Q (.panic c) (a.put d v) w → Q (.panic c) a w) :
    ∀ (s : Sched) (listed : Array Bool) (a : Act) (w : World),
      (s.okT md ops fin listed none = true → wpS P ops Q R s a w → ∀ fuel, s.depth ≤ fuel → wpAnyR P md ops Q R fin fuel listed a w) ∧
      (∀ rs, s.okT md ops fin listed (some rs) = true → wpS P ops Q R s a w → ∀ fuel, s.depth ≤ fuel + 1 →
        ∀ i ∈ rs, wpOp P ops Q i (fun a' w' => (fin.contains i = false → R w w') ∧ wpAnyR P md ops Q R fin fuel (listed.setIfInBounds i true) a' w') a w) := by
  intro s
  induction s with
  | done =>
    intro listed a w
    refine ⟨fun hok h fuel _ => ?_, fun rs hok => by simp [Sched.okT] at hok⟩
    have hr : Region.ready md ops listed = [] := by simpa [Sched.okT] using hok
    cases fuel with
    | zero => exact ⟨hr, h⟩
    | succ n => exact ⟨fun _ => h, by rw [hr]; simp⟩
  | stop =>
    intro listed a w
    refine ⟨fun hok => by simp [Sched.okT] at hok, fun rs hok _ fuel _ i hi => ?_⟩
    cases rs with
    | nil => cases hi
    | cons x r => simp [Sched.okT] at hok
  | last i r ih =>
    intro listed a w
    refine ⟨fun hok h fuel hf => ?_, fun rs hok => by simp [Sched.okT] at hok⟩
    simp only [Sched.okT, Bool.and_eq_true, beq_iff_eq] at hok
    obtain ⟨⟨hr, hfin⟩, hrest⟩ := hok
    simp only [Sched.depth] at hf
    obtain ⟨n, rfl⟩ : ∃ n, fuel = n + 1 := ⟨fuel - 1, by omega⟩
    refine ⟨fun h0 => (by rw [hr] at h0; cases h0), fun j hj => ?_⟩
    rw [hr, List.mem_singleton] at hj
    subst hj
    exact wpOp_mono (fun a' w' h' => ⟨fun hc => (by rw [hfin] at hc; cases hc), (ih _ _ _).1 hrest h' n (by omega)⟩) h
  | quiet i r ih =>
    intro listed a w
    refine ⟨fun hok h fuel hf => ?_, fun rs hok => by simp [Sched.okT] at hok⟩
    simp only [Sched.okT, Bool.and_eq_true] at hok
    obtain ⟨⟨⟨hr, hfree⟩, hfin⟩, hrest⟩ := hok
    obtain ⟨o, v, ho, hy, hw⟩ := h
    simp only [Sched.depth] at hf
    obtain ⟨n, rfl⟩ : ∃ n, fuel = n + 1 := ⟨fuel - 1, by omega⟩
    exact wpAnyR_firstT hrefl htr ho (Region.noSelect_spec hs) (fun c a w => hQ c a _ _ w) ops.size n listed a w (Region.free_spec ho hfree) (fun j hc hun => by
        have h1 := List.all_eq_true.1 hfin j (by simpa using hc)
        rw [hun, Bool.false_or] at h1
        exact h1) (by simpa using hr) hy
      ((ih _ _ _).1 hrest hw n (by omega))
  | pure i r ih =>
    intro listed a w
    refine ⟨fun hok h fuel hf => ?_, fun rs hok => by simp [Sched.okT] at hok⟩
    simp only [Sched.okT, Bool.and_eq_true] at hok
    obtain ⟨⟨hr, hfree⟩, hrest⟩ := hok
    obtain ⟨o, v, ho, hy, hw⟩ := h
    simp only [Sched.depth] at hf
    obtain ⟨n, rfl⟩ : ∃ n, fuel = n + 1 := ⟨fuel - 1, by omega⟩
    exact wpAnyR_firstP hrefl ho (Region.noSelect_spec hs) (fun c a w => hQ c a _ _ w) n listed a w (Region.free_spec ho hfree) (by simpa using hr) hy
      ((ih _ _ _).1 hrest hw n (by omega))
  | loud i r more ih1 ih2 =>
    intro listed a w
    have key : ∀ rs, i :: rs ≠ [] → r.okT md ops fin (listed.setIfInBounds i true) none = true → more.okT md ops fin listed (some rs) = true → wpS P ops Q R (.loud i r more) a w →
        ∀ fuel, (Sched.loud i r more).depth ≤ fuel + 1 → ∀ j ∈ i :: rs, wpOp P ops Q j (fun a' w' => (fin.contains j = false → R w w') ∧ wpAnyR P md ops Q R fin fuel (listed.setIfInBounds j true) a' w') a w := by
      intro rs _ h1 h2 h fuel hf j hj
      simp only [Sched.depth] at hf
      rcases List.mem_cons.1 hj with rfl | hj
      · exact wpOp_mono (fun a' w' h' => ⟨fun _ => h'.1, (ih1 _ _ _).1 h1 h'.2 fuel (by omega)⟩) h.1
      · exact (ih2 _ _ _).2 rs h2 h.2 fuel (by omega) j hj
    refine ⟨fun hok h fuel hf => ?_, fun rs hok h fuel hf j hj => ?_⟩
    · simp only [Sched.okT] at hok
      split at hok
      · rename_i x rs hrd
        simp only [Bool.and_eq_true, beq_iff_eq] at hok
        obtain ⟨⟨rfl, h1⟩, h2⟩ := hok
        obtain ⟨n, rfl⟩ : ∃ n, fuel = n + 1 := ⟨fuel - 1, by simp only [Sched.depth] at hf; omega⟩
        refine ⟨(fun h0 => by rw [hrd] at h0; cases h0), ?_⟩
        rw [hrd]
        exact key rs (by simp) h1 h2 h n hf
      · cases hok
    · cases rs with
      | nil => cases hj
      | cons x rs =>
        simp only [Sched.okT, Bool.and_eq_true, beq_iff_eq] at hok
        obtain ⟨⟨rfl, h1⟩, h2⟩ := hok
        exact key rs (by simp) h1 h2 h fuel hf j hj

/-- THE BEGINNING -/
theorem wp_region_schedT {id : Nat} {a : Act} {w : World} (R : World → World → Prop) (fin : List Nat) (s : Sched) (hm : P.follows .mixedOrders = true) (hrefl : ∀ w, R w w) (htr : ∀ a b c, R a b → R b c → R a c)
    (hok : (Region.noSelect ops && s.okT .any ops fin (Array.replicate ops.size false) none && decide (s.depth ≤ ops.size)) = true)
    (hQ : ∀ c a d v w, Q (.panic c) (a.put d v) w → Q (.panic c) a w)
    (h : wpS P ops Q R s a w.drew) : (Code.region id ops true).wp P Q a w := by
  simp only [Bool.and_eq_true, decide_eq_true_eq] at hok
  exact wp_region_any hm (wpAny_of_R _ _ _ _ ((wpAnyR_of_ST hrefl htr hok.1.1 hQ s _ _ _).1 hok.1.2 h _ hok.2))
end
end Go.Proofs.Ytphhkphibdiahaa
