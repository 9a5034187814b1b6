/-
  Shared words of this seat's proofs: growth of the world ('Ext'), what values read as ('Rp'), how a law's arguments are opened, and the frame that closes a law's row.
-/
import Derived.Test.YtphhkphibdiahaaRows
import Derived.WalkKit
import Derived.WalkSpells
import Derived.WalkLawsBesides
import Derived.ProofKit
import Derived.OpenShut
import Derived.ShutString
import Derived.ChangeOld
import Derived.SizedLaws
import Derived.Deep.Slices
import Derived.Deep.QuietTactic
import Derived.Deep.RegionHeld3
import Derived.BigQuiet
import Derived.Lib.SmallJoins
import Derived.Lib.Hide
namespace Go.Proofs.Ytphhkphibdiahaa
open Go.ChangeShapes Go.WideShapes Go.ChangeAt Go.RowKit

/-! ### Growth: nothing that was there has turned -/
def Ext (w w' : World) : Prop :=
  w'.os = w.os ∧ w'.tape = w.tape ∧ w'.output = w.output ∧ w.heap.size ≤ w'.heap.size ∧ ∀ k, k < w.heap.size → w'.heap[k]? = w.heap[k]?

theorem Ext.refl (w : World) : Ext w w := ⟨rfl, rfl, rfl, Nat.le_refl _, fun _ _ => rfl⟩
theorem Ext.trans {a b c : World} (h : Ext a b) (k : Ext b c) : Ext a c :=
  ⟨k.1.trans h.1, k.2.1.trans h.2.1, k.2.2.1.trans h.2.2.1, Nat.le_trans h.2.2.2.1 k.2.2.2.1,
   fun i hi => (k.2.2.2.2 i (Nat.lt_of_lt_of_le hi h.2.2.2.1)).trans (h.2.2.2.2 i hi)⟩
theorem Ext.below {w w' : World} (h : Ext w w') : Below w.heap.size w w' := ⟨h.1, h.2.1, h.2.2.1, h.2.2.2.1, h.2.2.2.2⟩
theorem Ext.of {w w' : World} (h : Below w.heap.size w w') : Ext w w' := ⟨h.os, h.tape, h.output, h.size, h.block⟩
theorem Ext.drew {a w : World} (h : Ext a w) : Ext a w.drew := h
theorem Ext.undrew {a w : World} (h : Ext a.drew w) : Ext a w := h
theorem Ext.alloc {a w : World} (h : Ext a w) (o : Obj) : Ext a (w.alloc o) :=
  h.trans (Ext.of ((Below.refl _ _).alloc (Nat.le_refl _) o))
theorem Ext.setCell {a w : World} (h : Ext a w) {p : Addr} (hp : a.heap.size ≤ p.block) (u : Value) : Ext a (w.setCell p u) :=
  Ext.of (h.below.setCell hp u)
theorem Ext.size {w w' : World} (h : Ext w w') : w.heap.size ≤ w'.heap.size := h.2.2.2.1
theorem Ext.cell {w w' : World} (h : Ext w w') {b o : Nat} (hb : b < w.heap.size) : w'.cell? ⟨b, o, none⟩ = w.cell? ⟨b, o, none⟩ :=
  h.below.cell (p := ⟨b, o, none⟩) hb
theorem Ext.cellS {w w' : World} (h : Ext w w') {p : Addr} {v : Value} (hc : w.cell? p = some v) : w'.cell? p = some v := by
  have hb : p.block < w.heap.size := World.block_lt_of_cell? w p hc
  rw [h.below.cell hb]; exact hc
/-- all old cells and marks read as before: two rules for the walk -/
theorem Ext.rules {W w1 : World} (h : Ext W w1) : (∀ b o, b < W.heap.size → w1.cell? ⟨b, o, none⟩ = W.cell? ⟨b, o, none⟩) ∧ (∀ b o, b < W.heap.size → w1.frozen? ⟨b, o, none⟩ = W.frozen? ⟨b, o, none⟩) :=
  ⟨fun b o hb => h.below.cell (p := ⟨b, o, none⟩) hb, fun b o hb => h.below.frozen (p := ⟨b, o, none⟩) hb⟩
theorem cell_lt {w : World} {p : Addr} {v : Value} (h : w.cell? p = some v) : p.block < w.heap.size := World.block_lt_of_cell? w p h

/-- below block B nothing has turned -/
def ExtB (B : Nat) (w w' : World) : Prop :=
  w'.os = w.os ∧ w'.tape = w.tape ∧ w'.output = w.output ∧ w.heap.size ≤ w'.heap.size ∧ ∀ k, k < B → w'.heap[k]? = w.heap[k]?
theorem ExtB.refl (B : Nat) (w : World) : ExtB B w w := ⟨rfl, rfl, rfl, Nat.le_refl _, fun _ _ => rfl⟩
theorem ExtB.trans {B : Nat} {a b c : World} (h : ExtB B a b) (k : ExtB B b c) : ExtB B a c :=
  ⟨k.1.trans h.1, k.2.1.trans h.2.1, k.2.2.1.trans h.2.2.1, Nat.le_trans h.2.2.2.1 k.2.2.2.1, fun i hi => (k.2.2.2.2 i hi).trans (h.2.2.2.2 i hi)⟩
theorem ExtB.drew {B : Nat} {a w : World} (h : ExtB B a w) : ExtB B a w.drew := h
theorem ExtB.undrew {B : Nat} {a w : World} (h : ExtB B a.drew w) : ExtB B a w := h
theorem ExtB.size {B : Nat} {w w' : World} (h : ExtB B w w') : w.heap.size ≤ w'.heap.size := h.2.2.2.1
theorem ExtB.below {B : Nat} {w w' : World} (h : ExtB B w w') : Below B w w' := ⟨h.1, h.2.1, h.2.2.1, h.2.2.2.1, h.2.2.2.2⟩
theorem ExtB.of {B : Nat} {w w' : World} (h : Below B w w') : ExtB B w w' := ⟨h.os, h.tape, h.output, h.size, h.block⟩
theorem ExtB.mono {B B' : Nat} {w w' : World} (h : ExtB B w w') (hB : B' ≤ B) : ExtB B' w w' := ⟨h.1, h.2.1, h.2.2.1, h.2.2.2.1, fun k hk => h.2.2.2.2 k (Nat.lt_of_lt_of_le hk hB)⟩
theorem Ext.toB {w w' : World} (h : Ext w w') {B : Nat} (hB : B ≤ w.heap.size) : ExtB B w w' := ⟨h.1, h.2.1, h.2.2.1, h.2.2.2.1, fun k hk => h.2.2.2.2 k (Nat.lt_of_lt_of_le hk hB)⟩
theorem ExtB.ext {w w' : World} (h : ExtB w.heap.size w w') : Ext w w' := h
theorem ExtB.setCell {B : Nat} {a w : World} (h : ExtB B a w) {p : Addr} (hp : B ≤ p.block) (u : Value) : ExtB B a (w.setCell p u) := ExtB.of (h.below.setCell hp u)
theorem ExtB.cellS {B : Nat} {w w' : World} (h : ExtB B w w') {p : Addr} {v : Value} (hb : p.block < B) (hc : w.cell? p = some v) : w'.cell? p = some v := by
  rw [h.below.cell hb]; exact hc

/-! ### A block of cells, whole -/
def Blk (w : World) (b : Nat) (T : TypeId) (cs : List Value) : Prop := w.heap[b]? = some (.cells cs.toArray T (0, 0))
theorem Blk.lt {w : World} {b : Nat} {T : TypeId} {cs : List Value} (h : Blk w b T cs) : b < w.heap.size := (Array.getElem?_eq_some_iff.1 h).1
theorem Blk.cell {w : World} {b : Nat} {T : TypeId} {cs : List Value} (h : Blk w b T cs) {o : Nat} {v : Value} (hv : cs[o]? = some v) : w.cell? ⟨b, o, none⟩ = some v := by
  unfold Blk at h
  simp [World.cell?, h, hv]
theorem Blk.frozen {w : World} {b : Nat} {T : TypeId} {cs : List Value} (h : Blk w b T cs) (o : Nat) : w.frozen? ⟨b, o, none⟩ = false := by
  unfold Blk at h
  simp [World.frozen?, h]
theorem Blk.ext {w w' : World} {b : Nat} {T : TypeId} {cs : List Value} (h : Blk w b T cs) (e : Ext w w') : Blk w' b T cs := (e.2.2.2.2 b h.lt).trans h
theorem Blk.extB {B : Nat} {w w' : World} {b : Nat} {T : TypeId} {cs : List Value} (h : Blk w b T cs) (e : ExtB B w w') (hb : b < B) : Blk w' b T cs := (e.2.2.2.2 b hb).trans h
theorem Blk.drew {w : World} {b : Nat} {T : TypeId} {cs : List Value} (h : Blk w b T cs) : Blk w.drew b T cs := h
theorem Blk.new (w : World) (T : TypeId) (cs : List Value) : Blk (w.alloc (.cells cs.toArray T)) w.heap.size T cs := by
  show (w.heap.push _)[w.heap.size]? = _
  simp
theorem Blk.setCell {w : World} {b : Nat} {T : TypeId} {cs : List Value} (h : Blk w b T cs) (o : Nat) (v : Value) : Blk (w.setCell ⟨b, o, none⟩ v) b T (cs.set o v) := by
  unfold Blk at *
  simp only [World.setCell, Array.getElem?_modify, if_true, h, Option.map_some]
  simp
theorem Blk.setCell_ne {w : World} {b : Nat} {T : TypeId} {cs : List Value} (h : Blk w b T cs) {p : Addr} (hp : p.block ≠ b) (v : Value) : Blk (w.setCell p v) b T cs :=
  (Below.heap_setCell w p v b (Ne.symm hp)).trans h

/-- three cells of a block, stored -/
def set3 (w : World) (b : Nat) (x y z : Value) : World := ((w.setCell ⟨b, 0, none⟩ x).setCell ⟨b, 1, none⟩ y).setCell ⟨b, 2, none⟩ z
theorem ExtB.set3 {B : Nat} {a w : World} (h : ExtB B a w) {b : Nat} (hb : B ≤ b) (x y z : Value) : ExtB B a (set3 w b x y z) :=
  ((h.setCell (p := ⟨b, 0, none⟩) hb x).setCell (p := ⟨b, 1, none⟩) hb y).setCell (p := ⟨b, 2, none⟩) hb z
theorem Blk.set3 {w : World} {b : Nat} {T : TypeId} {cs : List Value} (h : Blk w b T cs) (x y z : Value) : Blk (set3 w b x y z) b T (((cs.set 0 x).set 1 y).set 2 z) :=
  ((h.setCell 0 x).setCell 1 y).setCell 2 z
theorem Blk.set3_ne {w : World} {b b' : Nat} {T : TypeId} {cs : List Value} (h : Blk w b T cs) (hb : b' ≠ b) (x y z : Value) : Blk (Proofs.Ytphhkphibdiahaa.set3 w b' x y z) b T cs :=
  ((h.setCell_ne (p := ⟨b', 0, none⟩) hb x).setCell_ne (p := ⟨b', 1, none⟩) hb y).setCell_ne (p := ⟨b', 2, none⟩) hb z
theorem size_set3 (w : World) (b : Nat) (x y z : Value) : (set3 w b x y z).heap.size = w.heap.size := by simp [Proofs.Ytphhkphibdiahaa.set3, World.setCell]

/-! ### What values read as -/
/-- 'K w ok a cs': the cells cs read as a in w, through blocks that are ok -/
structure Rp (α : Type) where
  K : World → (Nat → Prop) → α → List Value → Prop
  sz : Nat
  pos : 0 < sz
  len : ∀ {w ok a cs}, K w ok a cs → cs.length = sz
  ext : ∀ {w w' ok a cs}, (∀ b, ok b → w'.heap[b]? = w.heap[b]?) → K w ok a cs → K w' ok a cs
  mono : ∀ {w ok ok' a cs}, (∀ b, ok b → ok' b) → K w ok a cs → K w ok' a cs
  lt : ∀ {w ok a cs}, K w ok a cs → K w (fun b => ok b ∧ b < w.heap.size) a cs
  one : ∀ {w ok a cs}, K w ok a cs → ∀ u ∈ cs, u.oneCell' = true

/-- whatever blocks -/
abbrev any : Nat → Prop := fun _ => True
namespace Rp
theorem ext' {α : Type} (d : Rp α) {w w' : World} {ok : Nat → Prop} {a : α} {cs : List Value} (e : Ext w w') (h : d.K w ok a cs) : d.K w' ok a cs :=
  d.mono (fun _ h => h.1) (d.ext (fun b hb => e.2.2.2.2 b hb.2) (d.lt h))
theorem toAny {α : Type} (d : Rp α) {w : World} {ok : Nat → Prop} {a : α} {cs : List Value} (h : d.K w ok a cs) : d.K w any a cs := d.mono (fun _ _ => trivial) h
def int (k : IntKind) : Rp Int := ⟨fun _ _ n cs => cs = [.int k n] ∧ (Lit.int k n).wf = true, 1, by decide, fun h => by rw [h.1]; rfl, fun _ h => h, fun _ h => h, fun h => h, fun h u hu => by rw [h.1] at hu; rw [List.mem_singleton.1 hu]; rfl⟩
def bool : Rp Bool := ⟨fun _ _ b cs => cs = [.bool b], 1, by decide, fun h => by rw [h]; rfl, fun _ h => h, fun _ h => h, fun h => h, fun h u hu => by rw [h] at hu; rw [List.mem_singleton.1 hu]; rfl⟩
def str : Rp ByteArray := ⟨fun _ _ s cs => cs = [.string s] ∧ s.size ≤ maxLen, 1, by decide, fun h => by rw [h.1]; rfl, fun _ h => h, fun _ h => h, fun h => h, fun h u hu => by rw [h.1] at hu; rw [List.mem_singleton.1 hu]; rfl⟩
def pair {α β : Type} (a : Rp α) (b : Rp β) : Rp (α × β) where
  K w ok x cs := ∃ c1 c2, cs = c1 ++ c2 ∧ a.K w ok x.1 c1 ∧ b.K w ok x.2 c2
  sz := a.sz + b.sz
  pos := by have := a.pos; omega
  len := by rintro w ok x cs ⟨c1, c2, rfl, h1, h2⟩; rw [List.length_append, a.len h1, b.len h2]
  ext := by rintro w w' ok x cs e ⟨c1, c2, rfl, h1, h2⟩; exact ⟨c1, c2, rfl, a.ext e h1, b.ext e h2⟩
  mono := by rintro w ok ok' x cs e ⟨c1, c2, rfl, h1, h2⟩; exact ⟨c1, c2, rfl, a.mono e h1, b.mono e h2⟩
  lt := by rintro w ok x cs ⟨c1, c2, rfl, h1, h2⟩; exact ⟨c1, c2, rfl, a.lt h1, b.lt h2⟩
  one := by rintro w ok x cs ⟨c1, c2, rfl, h1, h2⟩ u hu; exact (List.mem_append.1 hu).elim (a.one h1 u) (b.one h2 u)
def iso {α β : Type} (d : Rp α) (f : β → α) : Rp β := ⟨fun w ok x cs => d.K w ok (f x) cs, d.sz, d.pos, d.len, d.ext, d.mono, d.lt, d.one⟩
/-- a row of elements at A, read at every index -/
def row {α : Type} (d : Rp α) (w : World) (ok : Nat → Prop) (A : Option Addr) (xs : List α) : Prop :=
  ∀ i x, xs[i]? = some x → ∃ b o cs, A = some ⟨b, o, none⟩ ∧ ok b ∧ (∀ j, j < d.sz → w.cell? ⟨b, o + (i * d.sz + j), none⟩ = cs[j]?) ∧ d.K w ok x cs
theorem row.ext {α : Type} {d : Rp α} {w w' : World} {ok : Nat → Prop} {A : Option Addr} {xs : List α} (e : ∀ b, ok b → w'.heap[b]? = w.heap[b]?) (h : d.row w ok A xs) : d.row w' ok A xs := by
  intro i x hx
  obtain ⟨b, o, cs, rfl, hb, h1, h2⟩ := h i x hx
  refine ⟨b, o, cs, rfl, hb, fun j hj => ?_, d.ext e h2⟩
  rw [← h1 j hj]
  exact World.cell?_of_block (e b hb)
theorem row.mono {α : Type} {d : Rp α} {w : World} {ok ok' : Nat → Prop} {A : Option Addr} {xs : List α} (e : ∀ b, ok b → ok' b) (h : d.row w ok A xs) : d.row w ok' A xs := by
  intro i x hx
  obtain ⟨b, o, cs, rfl, hb, h1, h2⟩ := h i x hx
  exact ⟨b, o, cs, rfl, e b hb, h1, d.mono e h2⟩
theorem row.lt {α : Type} {d : Rp α} {w : World} {ok : Nat → Prop} {A : Option Addr} {xs : List α} (h : d.row w ok A xs) : d.row w (fun b => ok b ∧ b < w.heap.size) A xs := by
  intro i x hx
  obtain ⟨b, o, cs, rfl, hb, h1, h2⟩ := h i x hx
  have hl := d.len h2
  have hlt : b < w.heap.size := by
    have := h1 0 d.pos
    rw [List.getElem?_eq_getElem (by rw [hl]; exact d.pos)] at this
    exact cell_lt this
  exact ⟨b, o, cs, rfl, ⟨hb, hlt⟩, h1, d.lt h2⟩
theorem row.ext' {α : Type} {d : Rp α} {w w' : World} {ok : Nat → Prop} {A : Option Addr} {xs : List α} (e : Ext w w') (h : d.row w ok A xs) : d.row w' ok A xs :=
  row.mono (fun _ h => h.1) (row.ext (fun b hb => e.2.2.2.2 b hb.2) h.lt)
/-- an element of a slice: where it lies -/
theorem row.at {α : Type} {d : Rp α} {w : World} {ok : Nat → Prop} {A : Option Addr} {xs : List α} (h : d.row w ok A xs) {b o : Nat} (hA : A = some ⟨b, o, none⟩) {i : Nat} {x : α} (hx : xs[i]? = some x) :
    ∃ cs, cs.length = d.sz ∧ d.K w ok x cs ∧ ∀ j, j < d.sz → w.cell? ⟨b, o + (i * d.sz + j), none⟩ = cs[j]? := by
  obtain ⟨b', o', cs, hA', _, h1, h2⟩ := h i x hx
  rw [hA] at hA'
  simp only [Option.some.injEq, Addr.mk.injEq] at hA'
  obtain ⟨rfl, rfl, _⟩ := hA'
  exact ⟨cs, d.len h2, h2, h1⟩
theorem row.addr {α : Type} {d : Rp α} {w : World} {ok : Nat → Prop} {A : Option Addr} {xs : List α} (h : d.row w ok A xs) (hx : xs ≠ []) : ∃ b o, A = some ⟨b, o, none⟩ ∧ ok b := by
  obtain ⟨x, xs', rfl⟩ := List.exists_cons_of_ne_nil hx
  obtain ⟨b, o, _, hA, hb, _⟩ := h 0 x rfl
  exact ⟨b, o, hA, hb⟩
def slice {α : Type} (d : Rp α) : Rp (List α) where
  K w ok xs cs := ∃ A cap, cs = [.slice A xs.length cap] ∧ xs.length ≤ cap ∧ cap ≤ maxLen ∧ (A = none → cap = 0) ∧ d.row w ok A xs
  sz := 1
  pos := by decide
  len := by rintro w ok x cs ⟨A, cap, rfl, _⟩; rfl
  ext := by rintro w w' ok x cs e ⟨A, cap, rfl, h1, h2, h3, h4⟩; exact ⟨A, cap, rfl, h1, h2, h3, h4.ext e⟩
  mono := by rintro w ok ok' x cs e ⟨A, cap, rfl, h1, h2, h3, h4⟩; exact ⟨A, cap, rfl, h1, h2, h3, h4.mono e⟩
  lt := by rintro w ok x cs ⟨A, cap, rfl, h1, h2, h3, h4⟩; exact ⟨A, cap, rfl, h1, h2, h3, h4.lt⟩
  one := by rintro w ok x cs ⟨A, cap, rfl, _⟩ u hu; rw [List.mem_singleton.1 hu]; rfl
end Rp

/-! ### Opening -/
/-- Whatever can be read at type t, reads by d. -/
def Opens {α : Type} (P : Program) (t : TypeId) (d : Rp α) : Prop :=
  ∀ {H : Type} (enc : TypeId × Value → H) (w : World) (base : Nat) (sp : Nat → Bool) (held : Bool) (fuel : Nat) (cs : List Value) (x : DataW H × List MemPlace),
    DataW.trod enc P w base sp held fuel t cs = some x → ∃ a, d.K w any a cs

theorem Opens.int {P : Program} {t : TypeId} {k : IntKind} (h : P.underlying t = some (.int k)) : Opens P t (Rp.int k) := fun _ _ _ _ _ _ _ _ hx => by
  obtain ⟨n, rfl, _, hw⟩ := DataW.trod_int h hx
  exact ⟨n, rfl, hw⟩
theorem Opens.bool {P : Program} {t : TypeId} (h : P.underlying t = some .bool) : Opens P t Rp.bool := fun _ _ _ _ _ _ _ _ hx => by
  obtain ⟨b, rfl, _⟩ := DataW.trod_bool h hx
  exact ⟨b, rfl⟩
theorem Opens.str {P : Program} {t : TypeId} (h : P.underlying t = some .string) : Opens P t Rp.str := fun _ _ _ _ _ _ _ _ hx => by
  obtain ⟨s, rfl, _, hl⟩ := DataW.trod_string h hx
  exact ⟨s, rfl, hl⟩
theorem Opens.iso {α β : Type} {P : Program} {t : TypeId} {d : Rp α} (h : Opens P t d) (f : β → α) (g : α → β) (hf : ∀ a, f (g a) = a) : Opens P t (d.iso f) :=
  fun enc w base sp held fuel cs x hx => by
    obtain ⟨a, ha⟩ := h enc w base sp held fuel cs x hx
    exact ⟨g a, by show d.K w any (f (g a)) cs; rw [hf]; exact ha⟩

theorem cells?_get {w : World} {base : Nat} {a : Addr} {n : Nat} {cs : List Value} (h : w.cells? base a n = some cs) (hn : 0 < n) :
    ∃ b o, a = ⟨b, o, none⟩ ∧ cs.length = n ∧ ∀ j, j < n → w.cell? ⟨b, o + j, none⟩ = cs[j]? := by
  obtain ⟨hb, hlen, hc⟩ := World.cells?_some h
  obtain ⟨b, o, sp⟩ := a
  have h0 := hc 0 hn
  have hs : sp = none := by
    cases sp with
    | none => rfl
    | some x =>
      rw [List.getElem?_eq_getElem (by omega)] at h0
      simp [Addr.add, World.cell?] at h0
      split at h0 <;> simp at h0
  subst hs
  refine ⟨b, o, rfl, hlen, fun j hj => ?_⟩
  rw [← hc j hj]
  unfold Addr.add
  by_cases hz : j = 0
  · simp [hz]
  · simp [hz]

theorem Opens.slice {α : Type} {P : Program} {t e : TypeId} {d : Rp α} (h : P.underlying t = some (.slice e)) (hc : P.cellsOf e = d.sz) (hpos : 0 < d.sz) (ho : Opens P e d) : Opens P t d.slice :=
  fun enc w base sp held fuel cs x hx => by
    rcases Deep.open_slice h hx with ⟨rfl, _⟩ | ⟨a, len, cap, m, n, D, Pl, rfl, hb, hl, hm, hmm, _, hel⟩
    · exact ⟨[], none, 0, rfl, by simp, by simp, fun _ => rfl, fun i x hx => by simp at hx⟩
    · have hlm : len ≤ m := by rw [hmm]; split <;> omega
      have h1 : ∀ i : Fin len, ∃ z, ∃ cs, w.cells? base (a.add (i * P.cellsOf e)) (P.cellsOf e) = some cs ∧ d.K w any z cs := fun i => by
        obtain ⟨cs', hcs, htr⟩ := hel i (by omega)
        obtain ⟨z, hz⟩ := ho enc w base sp held n cs' _ htr
        exact ⟨z, cs', hcs, hz⟩
      have ⟨f, hf⟩ := Classical.axiomOfChoice h1
      refine ⟨List.ofFn f, some a, cap, by simp, by simpa using hl, hm, (fun h => by cases h), fun i z hz => ?_⟩
      have hi : i < len := by
        have := (List.getElem?_eq_some_iff.1 hz).1
        simpa using this
      obtain ⟨cs0, hc0, _⟩ := hf ⟨0, by omega⟩
      have ha0 : a.add ((⟨0, by omega⟩ : Fin len) * P.cellsOf e) = a := by simp [Addr.add]
      rw [ha0] at hc0
      obtain ⟨b, o, rfl, _, _⟩ := cells?_get hc0 (by rw [hc]; exact hpos)
      obtain ⟨cs, hcs, hK⟩ := hf ⟨i, hi⟩
      have hx' : f ⟨i, hi⟩ = z := by
        have := (List.getElem?_eq_some_iff.1 hz).2
        simpa using this
      rw [hx'] at hK
      obtain ⟨b', o', hadd, hlen, hcell⟩ := cells?_get hcs (by rw [hc]; exact hpos)
      have hbo : b' = b ∧ o' = o + i * d.sz := by
        simp only [hc] at hadd
        unfold Addr.add at hadd
        split at hadd
        · rename_i hz
          simp only [Addr.mk.injEq] at hadd
          exact ⟨hadd.1.symm, by rw [hz]; omega⟩
        · simp only [Addr.mk.injEq] at hadd
          exact ⟨hadd.1.symm, hadd.2.1.symm⟩
      obtain ⟨rfl, rfl⟩ := hbo
      refine ⟨b', o, cs, rfl, trivial, fun j hj => ?_, hK⟩
      rw [← hcell j (by rw [hc]; exact hj), Nat.add_assoc]

/-- fields from offset 'off' on read as d -/
def OpensF {α : Type} (P : Program) (fs : List Field) (off : Nat) (d : Rp α) : Prop :=
  ∀ {H : Type} (enc : TypeId × Value → H) (w : World) (base : Nat) (sp : Nat → Bool) (held : Bool) (fuel : Nat) (cs : List Value),
    (∀ (i : Nat) (f : Field), fs[i]? = some f → ∃ x, DataW.trod enc P w base sp held fuel f.type ((cs.drop f.offset).take (P.cellsOf f.type)) = some x) → cs.length = off + d.sz → ∃ a, d.K w any a (cs.drop off)

theorem OpensF.one {α : Type} {P : Program} {f : Field} {off : Nat} {d : Rp α} (ho : f.offset = off) (hc : P.cellsOf f.type = d.sz) (h : Opens P f.type d) : OpensF P [f] off d :=
  fun enc w base sp held fuel cs hx hlen => by
    obtain ⟨x, h1⟩ := hx 0 f rfl
    obtain ⟨a, ha⟩ := h enc w base sp held fuel _ x h1
    rw [ho, hc, List.take_of_length_le (by rw [List.length_drop]; omega)] at ha
    exact ⟨a, ha⟩
theorem OpensF.cons {α β : Type} {P : Program} {f : Field} {fs : List Field} {off : Nat} {d : Rp α} {e : Rp β} (ho : f.offset = off) (hc : P.cellsOf f.type = d.sz) (h : Opens P f.type d)
    (hr : OpensF P fs (off + d.sz) e) : OpensF P (f :: fs) off (d.pair e) :=
  fun enc w base sp held fuel cs hx hlen => by
    obtain ⟨x, h1⟩ := hx 0 f rfl
    obtain ⟨a, ha⟩ := h enc w base sp held fuel _ x h1
    obtain ⟨b, hb⟩ := hr enc w base sp held fuel cs (fun i g hg => hx (i + 1) g hg) (by rw [hlen]; show off + (d.sz + e.sz) = _; omega)
    rw [ho, hc] at ha
    refine ⟨(a, b), _, _, ?_, ha, hb⟩
    rw [← List.drop_drop, List.take_append_drop]
theorem Opens.struct {α : Type} {P : Program} {t : TypeId} {fs : Array Field} {d : Rp α} (h : P.underlying t = some (.struct fs)) (hc : P.cellsOf t = d.sz) (hf : OpensF P fs.toList 0 d) : Opens P t d :=
  fun enc w base sp held fuel cs x hx => by
    obtain ⟨xs, n, _, _, hlen, hl, hel⟩ := DataW.trod_struct h hx
    have := hf enc w base sp held n cs (fun i f hi => ?_) (by rw [hlen, hc]; omega)
    · simpa using this
    · have hi' : fs[i]? = some f := by simpa using hi
      have hlt : i < xs.length := by
        rw [hl]; exact (Array.getElem?_eq_some_iff.1 hi').1
      exact ⟨xs[i], by rw [hel i f hi', List.getElem?_eq_getElem hlt]⟩

/-! ### The frame of a law -/
theorem trodAll_below {H : Type} {enc : TypeId × Value → H} {P : Program} (hl : laidOutB P = true) {W W' : World} (hb : Below W.heap.size W W') :
    ∀ (ts : List TypeId) (vs : List Value) (ds : List (DataW H)) (p : List MemPlace), (∀ t ∈ ts, P.readableRec t = true ∧ t < P.types.size) →
      DataW.TrodAll enc P W 0 (fun _ => true) true ts vs ds p → (∀ x ∈ p, x.block < W.heap.size) →
      DataW.TrodAll enc P W' 0 (fun b => decide (b < W.heap.size)) true ts vs ds p
  | [], vs, ds, p, _, h, _ => by
    obtain ⟨rfl, rfl, rfl⟩ := trodAll_nil h
    exact trodAll_mk0
  | t :: ts, vs, ds, p, hr, h, hlt => by
    obtain ⟨v, vs', d, ds', p1, q, rfl, rfl, rfl, h1, h2⟩ := trodAll_cons h
    exact trodAll_cons_mk (Below.trod hl (hr t (by simp)).1 (hr t (by simp)).2 h1 hb (fun x hx => hlt x (by simp [hx])))
      (trodAll_below hl hb ts vs' ds' q (fun t ht => hr t (by simp [ht])) h2 (fun x hx => hlt x (by simp [hx])))

theorem trodAll_length {H : Type} {enc : TypeId × Value → H} {P : Program} {W : World} {b : Nat} {sp : Nat → Bool} {held : Bool} :
    ∀ (ts : List TypeId) (vs : List Value) (ds : List (DataW H)) (p : List MemPlace), DataW.TrodAll enc P W b sp held ts vs ds p → ds.length = ts.length
  | [], vs, ds, p, h => by obtain ⟨_, rfl, _⟩ := trodAll_nil h; rfl
  | t :: ts, vs, ds, p, h => by
    obtain ⟨v, vs', d, ds', p1, q, rfl, rfl, rfl, h1, h2⟩ := trodAll_cons h
    simp [trodAll_length ts vs' ds' q h2]

set_option maxRecDepth 100000 in
theorem law_lifted (n : Nat) (fn : Func) (s : ChangeSpec) (B : TypeId) (hfn : Try.prog.funcs[n]? = some fn) (noInit : Try.checked.prog.inits.idxOf? n = none)
    (hvars : s.vars = []) (hspec : ∀ (H : Type) (ds : List (DataW H)), ds.length = fn.params.size → s.fn H ds = { results := [.lit (.bool true)], args := ds })
    (hres : fn.resultTypes = #[B]) (hB : Try.prog.underlying B = some .bool) (hl : laidOutB Try.prog = true)
    (hread : ∀ t ∈ fn.params.toList, Try.prog.readableRec t = true ∧ t < Try.prog.types.size) (own : ownKnob Try.prog.godebug = none)
    (os : Os) (started : os.Started) (H : Type) (enc : TypeId × Value → H)
    (witness : ∃ (w : World) (tape : Tape) (i : Input), w.os = os ∧ (w.forCall tape i).Shaped Try.checked.prog ∧ i.vars = [] ∧ Input.okWide Try.checked.prog (w.forCall tape i) .any w.heap.size n i ∧
      s.pre6 enc Try.checked.prog fn [] false (w.forCall tape i).memory i.args ∧ Assume.holds {} Try.checked.prog (lone (Frame.enter Try.checked.prog n i.args .normal) [] (w.forCall tape i)))
    (walk : ∀ (W : World) (base : Nat) (args : Array Value) (ds : List (DataW H)) (p : List MemPlace),
      (∀ (j : Nat) t v, fn.params[j]? = some t → args[j]? = some v → Value.okWide Try.prog W .any base t v) →
      DataW.TrodAll enc Try.prog W 0 (fun _ => true) true fn.params.toList args.toList ds p →
      (DataW.weightsEach Try.prog fn.params.toList ds).all (· ≤ reachBytes) = true →
      Calls Try.prog n args W fun e W' => e = .returned (.bool true) ∧ Ext W W') :
    ReturnsInHanded {} Try.checked os n .any (s.pre6 enc Try.prog fn [] false) (s.post enc Try.prog fn false true false false) := by
  refine returnsInHanded_of_change_sized (C := Try.checked) own started noInit hfn witness ?_
  intro W base args ds gs before hval0 hW hcnd hsz0 _
  have hval : ∀ (j : Nat) t v, fn.params[j]? = some t → args[j]? = some v → Value.okWide Try.prog W .any base t v := hval0
  have hW' := hW
  have hlt := hW.lt
  obtain ⟨p, q, hA0, hV, rfl, hfz, hnd⟩ := hW
  have hA : DataW.TrodAll enc Try.prog W 0 (fun _ => true) true fn.params.toList args.toList ds p := hA0
  rw [hvars] at hV
  obtain ⟨rfl, rfl⟩ := trodVars_none hV
  have hsz : (DataW.weightsEach Try.prog fn.params.toList ds).all (· ≤ reachBytes) = true := by
    have h : (DataW.weightsEach Try.prog (fn.params.toList ++ s.plain.varTypes Try.prog) (ds ++ [])).all (· ≤ reachBytes) = true := hsz0
    have e : s.plain.varTypes Try.prog = [] := by
      show s.plain.vars.filterMap _ = _
      rw [show s.plain.vars = s.vars from rfl, hvars]; rfl
    simpa [e] using h
  refine (walk W base args ds p hval hA hsz).mono fun e W' ⟨he, bel⟩ => ?_
  subst he
  have hs := hspec H (ds ++ []) (by rw [List.append_nil, trodAll_length _ _ _ _ hA]; simp)
  refine ⟨_, rfl, ds, [], _, [], p, [], hW', ?_, ?_, ?_, bel.below.frame _, fun h => by cases h⟩
  · rw [hs, hres]; exact trodAll_mk1 (shut_bool hB _)
  · rw [hs]; simp only [List.append_nil]; exact trodAll_below hl bel.below _ _ _ _ hread hA (fun x hx => hlt x (by simp [hx]))
  · rw [hvars, hs]; rfl
end Go.Proofs.Ytphhkphibdiahaa
