/-
  A doubly linked ring of blocks (container/list), and keys of interfaces: plain laws.
-/
import Derived.Test.YtphhkphibdiahaaMp
import Derived.Test.YtphhkphibdiahaaHeap
import Derived.Laws.StructEq
namespace Go.Proofs.Ytphhkphibdiahaa
open Go.RowKit
set_option linter.unusedSimpArgs false
set_option linter.unusedVariables false

theorem info_parts3 {P : Program} {t : TypeId} {z : Value} {n m : Nat} (h : (P.info? t).map (fun i => (i.zero, i.size, i.bytes)) = some (some z, n, m)) : ∃ i, P.info? t = some i ∧ i.zero = some z ∧ i.size = n ∧ i.bytes = m := by
  cases hi : P.info? t with
  | none => rw [hi] at h; cases h
  | some i =>
    rw [hi] at h
    simp only [Option.map_some, Option.some.injEq, Prod.mk.injEq] at h
    exact ⟨i, rfl, h.1, h.2.1, h.2.2⟩
theorem take_snoc' {α : Type} {xs : List α} {k : Nat} {x : α} (h : xs[k]? = some x) : xs.take (k + 1) = xs.take k ++ [x] := by
  rw [List.take_add_one, h]; rfl
theorem lit_at (W : World) (T : TypeId) (cs : List Value) (b : Nat) (hb : b = W.heap.size) : ∀ j u, cs[j]? = some u → (W.alloc (.cells cs.toArray T)).cell? ((⟨b, 0, none⟩ : Addr).add j) = some u := by
  subst hb
  exact lit_cells W T cs
theorem blk_at (W : World) (T : TypeId) (cs : List Value) (b : Nat) (hb : b = W.heap.size) : Blk (W.alloc (.cells cs.toArray T)) b T cs := by
  subst hb
  exact Blk.new W T cs
theorem own_shape {α : Type} {d : Rp α} {w : World} {ok : Nat → Prop} {base : Nat} {e : TypeId} {v : Value} {xs : List α} (h : OwnP d w ok base e v xs) : ∃ A n cap, v = .slice A n cap := by
  obtain ⟨A, cap, h, _⟩ := h.shape
  exact ⟨A, _, cap, h⟩
/-- flat data: so many cells, and what holds of it -/
def Rp.flat {α : Type} (f : α → List Value) (n : Nat) (hn : 0 < n) (hl : ∀ a, (f a).length = n) (h1 : ∀ a, (f a).all (·.oneCell') = true) (ok : α → Prop) : Rp α where
  K _ _ a cs := cs = f a ∧ ok a
  sz := n
  pos := hn
  len := by rintro w o a cs ⟨rfl, _⟩; exact hl a
  ext := by rintro w w' o a cs _ h; exact h
  mono := by rintro w o o' a cs _ h; exact h
  lt := by rintro w o a cs h; exact h
  one := by rintro w o a cs ⟨rfl, _⟩ u hu; exact List.all_eq_true.1 (h1 a) u hu
theorem flat_at {α : Type} {f : α → List Value} {n : Nat} {hn : 0 < n} {hl : ∀ a, (f a).length = n} {h1 : ∀ a, (f a).all (·.oneCell') = true} {p : α → Prop} {w : World} {ok : Nat → Prop} {A : Option Addr} {xs : List α} (h : (Rp.flat f n hn hl h1 p).row w ok A xs) {b o : Nat} (hA : A = some ⟨b, o, none⟩)
    {k : Nat} {x : α} (hx : xs[k]? = some x) : p x ∧ ∀ j v, (f x)[j]? = some v → w.cell? ⟨b, o + (k * n + j), none⟩ = some v := by
  obtain ⟨cs, hl', hK, hc⟩ := h.at hA hx
  obtain ⟨rfl, hw⟩ : cs = f x ∧ p x := hK
  refine ⟨hw, fun j v hv => ?_⟩
  have hj : j < n := by have := (List.getElem?_eq_some_iff.1 hv).1; rw [hl] at this; exact this
  exact (hc j hj).trans hv

/-! ### Keys of interfaces -/
/-- a number as a key -/
abbrev kI (k : Int) : Value := .iface 3 (.int .i64 k)
theorem infoI0 : (Try.prog.info? 3).map (·.comparable) = some true := by kernel_rfl
theorem eqI (w : World) (a b : Int) : (Op.equal 20 (kI a) (kI b)).run Try.prog w = .ok (decide (a = b)) w := by
  have h1 : Try.prog.underlying 20 = some (.interface #[]) := Try.underlying20
  have h2 : Try.prog.underlying 3 = some (.int .i64) := Try.underlying3
  have h3 := infoI0
  cases hi : Try.prog.info? 3 with
  | none => rw [hi] at h3; cases h3
  | some i =>
    rw [hi] at h3
    simp only [Option.map_some, Option.some.injEq] at h3
    have h4 : ∀ w, (Op.equalIn (9998 + 1) 3 (.int .i64 a) (.int .i64 b)).run Try.prog w = .ok (a == b) w := fun w => run_equalIn_int w 9998 3 .i64 .i64 a b h2
    have key : ∀ n, (∀ w, (Op.equalIn n 3 (.int .i64 a) (.int .i64 b)).run Try.prog w = .ok (a == b) w) → (Op.equalIn (n + 1) 20 (kI a) (kI b)).run Try.prog w = .ok (decide (a = b)) w := by
      intro n h
      unfold Op.equalIn
      simp only [Sem.run_bind, run_underlying h1, Result.andThen]
      simp [typeInfo, hi, h3, h, Result.andThen]
      rfl
    exact key _ h4
theorem keyI : KeyCls Try.prog 20 kI where
  inj a b h := by simpa using h
  chk e k w := by
    have h1 : Try.prog.underlying 20 = some (.interface #[]) := Try.underlying20
    have h2 : Try.prog.underlying 3 = some (.int .i64) := Try.underlying3
    have h3 := infoI0
    cases hi : Try.prog.info? 3 with
    | none => rw [hi] at h3; cases h3
    | some i =>
      rw [hi] at h3
      simp only [Option.map_some, Option.some.injEq] at h3
      have h4 : ∀ w, (Instr.checkKey e (9998 + 1) 3 (.int .i64 k)).run Try.prog w = .ok () w := fun w => MapKept.run_checkKey (d := .int .i64) (k := Value.int .i64 k) h2 rfl e 9998
      have key : ∀ n, (∀ w, (Instr.checkKey e n 3 (.int .i64 k)).run Try.prog w = .ok () w) → (Instr.checkKey e (n + 1) 20 (kI k)).run Try.prog w = .ok () w := by
        intro n h
        unfold Instr.checkKey
        simp only [Sem.run_bind, run_underlying h1, Result.andThen]
        simp [typeInfo, hi, h3, h, Result.andThen]
      exact key _ h4
  find l k w hl := by
    have h1 : Try.prog.underlying 20 = some (.interface #[]) := Try.underlying20
    have key : ∀ (l : List MapEntry) (i : Nat), (∀ x ∈ l, ∃ a, x.key = kI a) → ((Instr.findAsking 20 (kI k) l i).run Try.prog w = .ok none w ∧ ∀ x ∈ l, x.key ≠ kI k) ∨
        ∃ j e, (Instr.findAsking 20 (kI k) l i).run Try.prog w = .ok (some (i + j, e.val)) w ∧ l[j]? = some e ∧ e.key = kI k := by
      intro l
      induction l with
      | nil => intro i _; exact .inl ⟨rfl, by simp⟩
      | cons x l ih =>
        intro i hl
        obtain ⟨a, ha⟩ := hl x (by simp)
        by_cases hka : k = a
        · subst hka
          exact .inr ⟨0, x, by simp [Instr.findAsking, ha, eqI, Result.andThen], rfl, ha⟩
        · rcases ih (i + 1) (fun y hy => hl y (by simp [hy])) with ⟨h2, h3⟩ | ⟨j, e, h2, h3, h4⟩
          · refine .inl ⟨by simpa [Instr.findAsking, ha, eqI, hka, Result.andThen] using h2, fun y hy => ?_⟩
            rcases List.mem_cons.1 hy with rfl | hy
            · rw [ha]; simpa using fun h => hka h.symm
            · exact h3 y hy
          · refine .inr ⟨j + 1, e, ?_, by simpa using h3, h4⟩
            rw [show i + (j + 1) = i + 1 + j by omega]
            simpa [Instr.findAsking, ha, eqI, hka, Result.andThen] using h2
    cases l with
    | nil => exact .inl ⟨by simp [Instr.findKey, run_underlying h1, Instr.findNow, Result.andThen], by simp⟩
    | cons x l =>
      obtain ⟨a, ha⟩ := hl x (by simp)
      have h0 : Instr.findNow (.interface #[]) (kI k) (x :: l) 0 = none := by simp [Instr.findNow, Instr.sameNow]
      have h5 : (Instr.findKey 20 (kI k) (x :: l)).run Try.prog w = (Instr.findAsking 20 (kI k) (x :: l)).run Try.prog w := by
        simp [Instr.findKey, run_underlying h1, h0, Result.andThen]
      rw [h5]
      rcases key (x :: l) 0 hl with h | ⟨j, e, h2, h3, h4⟩
      · exact .inl h
      · exact .inr ⟨j, e, by simpa using h2, h3, h4⟩
  same k := by simp [Instr.sameBits]

/-! ### Links -/
/-- each leads to the next one, and this one back -/
def Link (N P : Nat → Nat) : List Nat → Prop
  | a :: b :: r => N a = b ∧ P b = a ∧ Link N P (b :: r)
  | _ => True
theorem Link.split {N P : Nat → Nat} {c : Nat} {Y : List Nat} : ∀ {X : List Nat}, Link N P (X ++ c :: Y) ↔ Link N P (X ++ [c]) ∧ Link N P (c :: Y)
  | [] => by simp [Link]
  | [a] => by simp [Link]; constructor <;> (intro h; simp_all)
  | a :: b :: X => by
    have := Link.split (N := N) (P := P) (c := c) (Y := Y) (X := b :: X)
    simp only [List.cons_append] at this ⊢
    simp only [Link, this, and_assoc]
theorem Link.congr {N P N' P' : Nat → Nat} : ∀ {l : List Nat}, (∀ a ∈ l.dropLast, N' a = N a) → (∀ b ∈ l.tail, P' b = P b) → Link N P l → Link N' P' l
  | [], _, _, _ => trivial
  | [a], _, _, _ => trivial
  | a :: b :: r, h1, h2, h => by
    refine ⟨(h1 a (by simp)).trans h.1, (h2 b (by simp)).trans h.2.1, Link.congr (fun x hx => h1 x (by simp [List.dropLast_cons_cons, hx])) (fun x hx => h2 x (by simp at hx ⊢; exact .inr hx)) h.2.2⟩
def upd (N : Nat → Nat) (b n : Nat) : Nat → Nat := fun k => if k = b then n else N k
theorem upd_same (N : Nat → Nat) (b n : Nat) : upd N b n b = n := if_pos rfl
theorem upd_ne {N : Nat → Nat} {b n k : Nat} (h : k ≠ b) : upd N b n k = N k := if_neg h
/-- the ring of l and D -/
def Ring (N P : Nat → Nat) (l : Nat) (D : List Nat) : Prop := Link N P (l :: (D ++ [l]))
theorem nodup_split {l e : Nat} {X Y : List Nat} (h : (l :: (X ++ e :: Y)).Nodup) : l ∉ X ∧ l ∉ Y ∧ l ≠ e ∧ e ∉ X ∧ e ∉ Y ∧ X.Nodup ∧ Y.Nodup ∧ (∀ a ∈ X, a ∉ Y) := by
  obtain ⟨h1, h2⟩ := List.nodup_cons.1 h
  obtain ⟨h3, h4, h5⟩ := List.nodup_append.1 h2
  obtain ⟨h6, h7⟩ := List.nodup_cons.1 h4
  simp only [List.mem_append, List.mem_cons, not_or] at h1
  exact ⟨h1.1, h1.2.2, h1.2.1, fun hx => h5 e hx e (by simp) rfl, h6, h3, h7, fun a ha hb => h5 a ha a (by simp [hb]) rfl⟩
/-- what stands last in (l :: X), first in (Y ++ [l]) -/
def lastL (l : Nat) (X : List Nat) : Nat := X.getLast?.getD l
def headL (l : Nat) (Y : List Nat) : Nat := Y.head?.getD l
theorem lastL_spec (l : Nat) (X : List Nat) : ∃ A, l :: X = A ++ [lastL l X] ∧ (∀ a ∈ A.tail, a ∈ X) := by
  rcases List.eq_nil_or_concat X with rfl | ⟨A, p, rfl⟩
  · exact ⟨[], rfl, by simp⟩
  · exact ⟨l :: A, by simp [lastL], fun a ha => by simp at ha ⊢; exact .inl ha⟩
theorem headL_spec (l : Nat) (Y : List Nat) : ∃ B, Y ++ [l] = headL l Y :: B := by
  cases Y with
  | nil => exact ⟨[], rfl⟩
  | cons y Y => exact ⟨Y ++ [l], rfl⟩
theorem Ring.mid {N P : Nat → Nat} {l e : Nat} {X Y : List Nat} (h : Ring N P l (X ++ e :: Y)) : N e = headL l Y ∧ P e = lastL l X := by
  obtain ⟨A, hA, _⟩ := lastL_spec l X
  obtain ⟨B, hB⟩ := headL_spec l Y
  have h1 : Link N P ((A ++ [lastL l X]) ++ e :: headL l Y :: B) := by
    unfold Ring at h
    rw [← hA, ← hB]
    simpa using h
  rw [List.append_assoc] at h1
  have h2 := (Link.split.1 h1).2
  exact ⟨h2.2.2.1, h2.2.1⟩
theorem Ring.first {N P : Nat → Nat} {l : Nat} {D : List Nat} (h : Ring N P l D) : N l = headL l D := by
  obtain ⟨B, hB⟩ := headL_spec l D
  unfold Ring at h
  rw [hB] at h
  exact h.1
theorem Ring.lastP {N P : Nat → Nat} {l : Nat} {D : List Nat} (h : Ring N P l D) : P l = lastL l D := by
  obtain ⟨A, hA, _⟩ := lastL_spec l D
  unfold Ring at h
  rw [← List.cons_append, hA, List.append_assoc] at h
  have := (Link.split.1 h).2
  exact this.2.1
theorem lastL_mem (l : Nat) (X : List Nat) : lastL l X = l ∨ lastL l X ∈ X := by
  rcases List.eq_nil_or_concat X with rfl | ⟨A, p, rfl⟩
  · exact .inl rfl
  · exact .inr (by simp [lastL])
theorem headL_mem (l : Nat) (Y : List Nat) : headL l Y = l ∨ headL l Y ∈ Y := by
  cases Y with
  | nil => exact .inl rfl
  | cons y Y => exact .inr (by simp [headL])
/-- one taken out -/
theorem Ring.out {N P : Nat → Nat} {l e : Nat} {X Y : List Nat} (hn : (l :: (X ++ e :: Y)).Nodup) (h : Ring N P l (X ++ e :: Y)) : Ring (upd N (lastL l X) (headL l Y)) (upd P (headL l Y) (lastL l X)) l (X ++ Y) := by
  obtain ⟨n1, n2, n3, n4, n5, n6, n7, n8⟩ := nodup_split hn
  obtain ⟨A, hA, hA2⟩ := lastL_spec l X
  obtain ⟨B, hB⟩ := headL_spec l Y
  have h1 : Link N P (A ++ lastL l X :: e :: headL l Y :: B) := by
    unfold Ring at h
    have : l :: (X ++ e :: Y ++ [l]) = A ++ lastL l X :: e :: headL l Y :: B := by
      rw [← hB, show l :: (X ++ e :: Y ++ [l]) = (l :: X) ++ e :: (Y ++ [l]) by simp, hA]; simp
    rw [← this]; exact h
  obtain ⟨h2, h3⟩ := Link.split.1 h1
  unfold Ring
  rw [show l :: (X ++ Y ++ [l]) = A ++ lastL l X :: headL l Y :: B by rw [← hB, show l :: (X ++ Y ++ [l]) = (l :: X) ++ (Y ++ [l]) by simp, hA]; simp]
  have hnA : (A ++ [lastL l X]).Nodup := by rw [← hA]; exact List.nodup_cons.2 ⟨n1, n6⟩
  have hp : lastL l X ∉ A := fun hm => (List.nodup_append.1 hnA).2.2 _ hm _ (by simp) rfl
  have hpY : lastL l X ∉ Y := by
    rcases lastL_mem l X with h | h
    · rw [h]; exact n2
    · exact n8 _ h
  have hX : ∀ b ∈ (A ++ [lastL l X]).tail, b ∈ X := by rw [← hA]; exact fun b hb => hb
  refine Link.split.2 ⟨Link.congr (fun a ha => upd_ne fun e => hp (by rw [List.dropLast_concat] at ha; exact e ▸ ha)) (fun b hb => upd_ne fun e => ?_) h2, upd_same _ _ _, upd_same _ _ _, Link.congr (fun a ha => upd_ne fun e => ?_) (fun b hb => upd_ne fun e => ?_) h3.2.2.2.2⟩
  · have hbX := hX b hb
    rcases headL_mem l Y with h | h
    · rw [e, h] at hbX; exact n1 hbX
    · rw [e] at hbX; exact n8 _ hbX h
  · rw [← hB, List.dropLast_concat] at ha
    exact hpY (e ▸ ha)
  · simp only [List.tail_cons] at hb
    cases Y with
    | nil => simp only [List.nil_append, headL, List.head?_nil, Option.getD_none, List.cons.injEq, true_and] at hB; subst hB; cases hb
    | cons y Y =>
      simp only [List.cons_append, headL, List.head?_cons, Option.getD_some, List.cons.injEq, true_and] at hB e
      subst hB e
      rcases List.mem_append.1 hb with h | h
      · exact (List.nodup_cons.1 n7).1 h
      · simp only [List.mem_singleton] at h; exact n2 (by simp [h])
/-- one put ahead -/
theorem Ring.front {N P : Nat → Nat} {l e : Nat} {D : List Nat} (hn : (l :: e :: D).Nodup) (h : Ring N P l D) : Ring (upd (upd N e (headL l D)) l e) (upd (upd P e l) (headL l D) e) l (e :: D) := by
  obtain ⟨B, hB⟩ := headL_spec l D
  obtain ⟨h1, h2⟩ := List.nodup_cons.1 hn
  obtain ⟨h3, h4⟩ := List.nodup_cons.1 h2
  simp only [List.mem_cons, not_or] at h1
  have hfe : headL l D ≠ e := by
    rcases headL_mem l D with h | h
    · rw [h]; exact h1.1
    · exact fun he => h3 (by rw [← he]; exact h)
  unfold Ring at h ⊢
  simp only [List.cons_append]
  rw [hB] at h ⊢
  refine ⟨upd_same _ _ _, (upd_ne (Ne.symm hfe)).trans (upd_same _ _ _), (upd_ne (Ne.symm h1.1)).trans (upd_same _ _ _), upd_same _ _ _, Link.congr (fun a ha => ?_) (fun b hb => ?_) h.2.2⟩
  · rw [← hB, List.dropLast_concat] at ha
    rw [upd_ne (fun he => h1.2 (by rw [← he]; exact ha)), upd_ne (fun he => h3 (by rw [← he]; exact ha))]
  · simp only [List.tail_cons] at hb
    have hbm : b ∈ D.tail ∨ (D ≠ [] ∧ b = l) := by
      cases D with
      | nil => simp only [List.nil_append, List.cons.injEq] at hB; rw [← hB.2] at hb; cases hb
      | cons y D =>
        simp only [List.cons_append, List.cons.injEq] at hB
        rw [← hB.2] at hb
        rcases List.mem_append.1 hb with h | h
        · exact .inl h
        · exact .inr ⟨by simp, by simpa using h⟩
    have hb1 : b ≠ headL l D := by
      cases D with
      | nil => rcases hbm with h | h; · cases h
               · exact absurd rfl h.1
      | cons y D =>
        simp only [headL, List.head?_cons, Option.getD_some]
        rcases hbm with h | ⟨_, rfl⟩
        · exact fun he => (List.nodup_cons.1 h4).1 (by rw [← he]; exact h)
        · exact fun he => h1.2 (by simp [he])
    have hb2 : b ≠ e := by
      rcases hbm with h | ⟨_, rfl⟩
      · exact fun he => h3 (by rw [← he]; exact List.mem_of_mem_tail h)
      · exact h1.1
    rw [upd_ne hb1, upd_ne hb2]

/-! ### The list in memory -/
abbrev pv (b : Nat) : Value := .pointer (some ⟨b, 0, none⟩)
/-- an element: its block, its entry's block, key and value -/
structure It where
  e : Nat
  t : Nat
  k : Int
  v : Int
abbrev lsCells (n p : Nat) (len : Int) : List Value := [pv n, pv p, .pointer none, .nilIface, .int .i64 len]
abbrev elCells (n p l t : Nat) : List Value := [pv n, pv p, pv l, .iface 104 (pv t)]
abbrev enCells (k v : Int) : List Value := [kI k, kI v]
def DC (w : World) (l : Nat) (len : Int) (its : List It) (N P : Nat → Nat) : Prop :=
  Blk w l 127 (lsCells (N l) (P l) len) ∧ ∀ x ∈ its, Blk w x.e 106 (elCells (N x.e) (P x.e) l x.t)
namespace DC
variable {w w' : World} {l : Nat} {len : Int} {its : List It} {N P : Nat → Nat}
theorem setN (h : DC w l len its N P) (b n : Nat) : DC (w.setCell ⟨b, 0, none⟩ (pv n)) l len its (upd N b n) P := by
  refine ⟨?_, fun x hx => ?_⟩
  · by_cases hb : l = b
    · subst hb; rw [upd_same]; exact h.1.setCell 0 (pv n)
    · rw [upd_ne hb]; exact h.1.setCell_ne (p := ⟨b, 0, none⟩) (fun e => hb e.symm) _
  · by_cases hb : x.e = b
    · rw [← hb, upd_same]; exact (h.2 x hx).setCell 0 (pv n)
    · rw [upd_ne hb]; exact (h.2 x hx).setCell_ne (p := ⟨b, 0, none⟩) (fun e => hb e.symm) _
theorem setP (h : DC w l len its N P) (b n : Nat) : DC (w.setCell ⟨b, 1, none⟩ (pv n)) l len its N (upd P b n) := by
  refine ⟨?_, fun x hx => ?_⟩
  · by_cases hb : l = b
    · subst hb; rw [upd_same]; exact h.1.setCell 1 (pv n)
    · rw [upd_ne hb]; exact h.1.setCell_ne (p := ⟨b, 1, none⟩) (fun e => hb e.symm) _
  · by_cases hb : x.e = b
    · rw [← hb, upd_same]; exact (h.2 x hx).setCell 1 (pv n)
    · rw [upd_ne hb]; exact (h.2 x hx).setCell_ne (p := ⟨b, 1, none⟩) (fun e => hb e.symm) _
theorem setLen (h : DC w l len its N P) (hl : ∀ x ∈ its, x.e ≠ l) (n : Int) : DC (w.setCell ⟨l, 4, none⟩ (.int .i64 n)) l n its N P :=
  ⟨h.1.setCell 4 _, fun x hx => (h.2 x hx).setCell_ne (p := ⟨l, 4, none⟩) (fun e => hl x hx e.symm) _⟩
theorem other (h : DC w l len its N P) {b : Nat} (hl : b ≠ l) (hb : ∀ x ∈ its, x.e ≠ b) (o : Nat) (v : Value) : DC (w.setCell ⟨b, o, none⟩ v) l len its N P :=
  ⟨h.1.setCell_ne (p := ⟨b, o, none⟩) hl _, fun x hx => (h.2 x hx).setCell_ne (p := ⟨b, o, none⟩) (fun e => hb x hx e.symm) _⟩
theorem sub (h : DC w l len its N P) {its' : List It} (hs : ∀ x ∈ its', x ∈ its) : DC w l len its' N P := ⟨h.1, fun x hx => h.2 x (hs x hx)⟩
theorem extX {M : Nat → Prop} (h : DC w l len its N P) (x : ExtX M w w') (hl : ¬ M l) (hi : ∀ x ∈ its, ¬ M x.e) : DC w' l len its N P := ⟨h.1.extX x hl, fun y hy => (h.2 y hy).extX x (hi y hy)⟩
theorem drew (h : DC w l len its N P) : DC w.drew l len its N P := h
end DC
end Go.Proofs.Ytphhkphibdiahaa
