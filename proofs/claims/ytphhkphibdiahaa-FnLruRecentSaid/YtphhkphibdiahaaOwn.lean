/-
  What a call owns and changes: growth but for some blocks ('ExtX'), slices that it makes and appends to ('OwnP').
-/
import Derived.Test.YtphhkphibdiahaaReg
namespace Go.Proofs.Ytphhkphibdiahaa
open Go.RowKit
set_option linter.unusedSimpArgs false
set_option linter.unusedVariables false

/-- nothing that was there has turned, but for the blocks of M -/
def ExtX (M : Nat → Prop) (w w' : World) : Prop :=
  w'.os = w.os ∧ w'.tape = w.tape ∧ w'.output = w.output ∧ w.heap.size ≤ w'.heap.size ∧ ∀ k, k < w.heap.size → ¬ M k → w'.heap[k]? = w.heap[k]?
theorem ExtX.refl (M : Nat → Prop) (w : World) : ExtX M w w := ⟨rfl, rfl, rfl, Nat.le_refl _, fun _ _ _ => rfl⟩
theorem ExtX.size {M : Nat → Prop} {w w' : World} (h : ExtX M w w') : w.heap.size ≤ w'.heap.size := h.2.2.2.1
theorem ExtX.trans' {M M' : Nat → Prop} {a b c : World} (h : ExtX M a b) (k : ExtX M' b c) (hM : ∀ k, k < a.heap.size → M' k → M k) : ExtX M a c :=
  ⟨k.1.trans h.1, k.2.1.trans h.2.1, k.2.2.1.trans h.2.2.1, Nat.le_trans h.size k.size,
   fun i hi hm => (k.2.2.2.2 i (Nat.lt_of_lt_of_le hi h.size) (fun hm' => hm (hM i hi hm'))).trans (h.2.2.2.2 i hi hm)⟩
theorem ExtX.trans {M : Nat → Prop} {a b c : World} (h : ExtX M a b) (k : ExtX M b c) : ExtX M a c := h.trans' k fun _ _ h => h
theorem ExtX.mono {M M' : Nat → Prop} {a b : World} (h : ExtX M a b) (hM : ∀ k, k < a.heap.size → M k → M' k) : ExtX M' a b :=
  ⟨h.1, h.2.1, h.2.2.1, h.2.2.2.1, fun i hi hm => h.2.2.2.2 i hi (fun hm' => hm (hM i hi hm'))⟩
theorem ExtX.drew {M : Nat → Prop} {a w : World} (h : ExtX M a w) : ExtX M a w.drew := h
theorem ExtX.undrew {M : Nat → Prop} {a w : World} (h : ExtX M a.drew w) : ExtX M a w := h
theorem Ext.toX {w w' : World} (h : Ext w w') (M : Nat → Prop) : ExtX M w w' := ⟨h.1, h.2.1, h.2.2.1, h.2.2.2.1, fun k hk _ => h.2.2.2.2 k hk⟩
theorem ExtX.toB {M : Nat → Prop} {w w' : World} (h : ExtX M w w') {B : Nat} (hM : ∀ k, M k → B ≤ k) (hB : B ≤ w.heap.size) : ExtB B w w' :=
  ⟨h.1, h.2.1, h.2.2.1, h.2.2.2.1, fun k hk => h.2.2.2.2 k (Nat.lt_of_lt_of_le hk hB) (fun hm => by have := hM k hm; omega)⟩
theorem ExtX.toExt {M : Nat → Prop} {w w' : World} (h : ExtX M w w') (hM : ∀ k, M k → w.heap.size ≤ k) : Ext w w' := (h.toB hM (Nat.le_refl _)).ext
theorem ExtX.setCell {M : Nat → Prop} {a w : World} (h : ExtX M a w) {p : Addr} (hp : M p.block) (u : Value) : ExtX M a (w.setCell p u) :=
  h.trans ⟨rfl, rfl, rfl, by simp [World.setCell], fun k _ hk => Below.heap_setCell _ _ _ _ (fun e => hk (e ▸ hp))⟩
theorem ExtX.alloc {M : Nat → Prop} {a w : World} (h : ExtX M a w) (o : Obj) : ExtX M a (w.alloc o) := h.trans (((Ext.refl w).alloc o).toX M)
theorem ExtX.grown {M : Nat → Prop} {a w w' : World} {row : Option Nat} (h : ExtX M a w) (hg : w.grownBy w' row) (hr : ∀ k, row = some k → M k) : ExtX M a w' :=
  h.trans ⟨hg.os, hg.tape, hg.output, hg.size, fun k hk hm => hg.block k hk (fun e => hm (hr k e.symm))⟩
theorem ExtX.cellS {M : Nat → Prop} {w w' : World} (h : ExtX M w w') {p : Addr} {v : Value} (hp : ¬ M p.block) (hc : w.cell? p = some v) : w'.cell? p = some v := by
  rw [World.cell?_of_block (h.2.2.2.2 p.block (cell_lt hc) hp)]; exact hc
theorem Blk.extX {M : Nat → Prop} {w w' : World} {b : Nat} {T : TypeId} {cs : List Value} (h : Blk w b T cs) (e : ExtX M w w') (hb : ¬ M b) : Blk w' b T cs := (e.2.2.2.2 b h.lt hb).trans h
theorem Blk.drewN {w : World} {b : Nat} {T : TypeId} {cs : List Value} (h : Blk w b T cs) (n : Nat) : Blk (w.drewN n) b T cs := h
theorem ExtX.drewN {M : Nat → Prop} {a w : World} (h : ExtX M a w) (n : Nat) : ExtX M a (w.drewN n) := h
theorem Ext.drewN {a w : World} (h : Ext a w) (n : Nat) : Ext a (w.drewN n) := h
theorem Rp.extX {α : Type} (d : Rp α) {M ok : Nat → Prop} {w w' : World} {a : α} {cs : List Value} (e : ExtX M w w') (h : d.K w ok a cs) (hok : ∀ k, ok k → ¬ M k) : d.K w' ok a cs :=
  d.mono (fun _ h => h.1) (d.ext (fun b hb => e.2.2.2.2 b hb.2 (hok b hb.1)) (d.lt h))

theorem Ext.grownBy {w w' : World} (h : Ext w w') : w.grownBy w' none := ⟨h.1, h.2.1, h.2.2.1, h.2.2.2.1, fun k hk _ => h.2.2.2.2 k hk⟩
theorem Ext.ofGrown {w w' : World} (h : w.grownBy w' none) : Ext w w' := ⟨h.os, h.tape, h.output, h.size, fun k hk => h.block k hk (by simp)⟩

/-- The slice v is the call's own, in blocks that are ok and from 'base' on, and reads as xs; what its elements lead to is ok, too, and not in its own block. -/
def OwnP {α : Type} (d : Rp α) (w : World) (ok : Nat → Prop) (base : Nat) (e : TypeId) (v : Value) (xs : List α) : Prop :=
  (∀ g, v.ownBlock = some g → ok g) ∧ ∃ cells : List Value, w.ownsRow base e d.sz v xs.length cells ∧ ∀ i x, xs[i]? = some x → d.K w (fun b => ok b ∧ some b ≠ v.ownBlock) x ((cells.drop (i * d.sz)).take d.sz)

namespace OwnP
variable {α : Type} {d : Rp α} {w w' : World} {ok ok' : Nat → Prop} {base : Nat} {e : TypeId} {v : Value} {xs : List α}
theorem nil (d : Rp α) (w : World) (ok : Nat → Prop) (base : Nat) (e : TypeId) : OwnP d w ok base e (.slice none 0 0) [] :=
  ⟨fun g h => by simp [Value.ownBlock] at h, [], World.ownsRow_nil w base e d.sz, fun i x h => by simp at h⟩
theorem own (h : OwnP d w ok base e v xs) : ∀ k, v.ownBlock = some k → base ≤ k ∧ k < w.heap.size := h.2.choose_spec.1.lt
theorem extX {M : Nat → Prop} (h : OwnP d w ok base e v xs) (x : ExtX M w w') (hM : ∀ k, ok k → k < w.heap.size → ¬ M k) : OwnP d w' ok base e v xs := by
  have ho := h.own
  obtain ⟨h0, cells, h1, h2⟩ := h
  refine ⟨h0, cells, ?_, fun i y hy => d.mono (fun _ h => ⟨h.1.1, h.1.2⟩) (d.ext (fun b hb => x.2.2.2.2 b hb.2 (hM b hb.1.1 hb.2)) (d.lt (h2 i y hy)))⟩
  refine ⟨h1.1, ?_⟩
  rcases h1.2 with hn | ⟨g, cap, cur, rfl, hb, hg, rest⟩
  · exact .inl hn
  · have hlt := (Array.getElem?_eq_some_iff.1 hg).1
    exact .inr ⟨g, cap, cur, rfl, hb, (x.2.2.2.2 g hlt (hM g (h0 g rfl) hlt)).trans hg, rest⟩
theorem ext (h : OwnP d w ok base e v xs) (x : Ext w w') : OwnP d w' ok base e v xs := h.extX (x.toX fun _ => False) fun _ _ _ h => h
theorem drew (h : OwnP d w ok base e v xs) : OwnP d w.drew ok base e v xs := h.ext (Ext.refl w)
/-- other blocks are ok -/
theorem turn (h : OwnP d w ok base e v xs) (hk : ∀ k, ok k → k < w.heap.size → ok' k) : OwnP d w ok' base e v xs := by
  have ho := h.own
  obtain ⟨h0, cells, h1, h2⟩ := h
  exact ⟨fun g hg => hk g (h0 g hg) (ho g hg).2, cells, h1, fun i y hy => d.mono (fun b hb => ⟨hk b hb.1.1 hb.2, hb.1.2⟩) (d.lt (h2 i y hy))⟩
theorem form (h : OwnP d w ok base e v xs) : (v = .slice none 0 0 ∧ xs = []) ∨ ∃ g cap, v = .slice (some ⟨g, 0, none⟩) xs.length cap ∧ base ≤ g ∧ xs.length ≤ cap ∧ cap ≤ maxLen := by
  obtain ⟨_, cells, h1, h2⟩ := h
  rcases h1.2 with ⟨rfl, hn⟩ | ⟨g, cap, cur, rfl, hb, _, hc, hm, _⟩
  · exact .inl ⟨rfl, List.eq_nil_of_length_eq_zero hn⟩
  · exact .inr ⟨g, cap, rfl, hb, hc, hm⟩
theorem shape (h : OwnP d w ok base e v xs) : ∃ A cap, v = .slice A xs.length cap ∧ xs.length ≤ cap ∧ cap ≤ maxLen := by
  rcases h.form with ⟨rfl, rfl⟩ | ⟨g, cap, rfl, _, h1, h2⟩
  · exact ⟨none, 0, rfl, Nat.le_refl _, by decide⟩
  · exact ⟨_, cap, rfl, h1, h2⟩
/-- read as any slice -/
theorem slice (h : OwnP d w ok base e v xs) : (Rp.slice d).K w ok xs [v] := by
  obtain ⟨h0, cells, h1, h2⟩ := h
  have hlen := h1.1
  rcases h1.2 with ⟨rfl, hn⟩ | ⟨g, cap, cur, rfl, hb, hg, hc, hm, hs, ht⟩
  · obtain rfl := List.eq_nil_of_length_eq_zero hn
    exact ⟨none, 0, rfl, Nat.le_refl _, by decide, fun _ => rfl, fun i x hx => by simp at hx⟩
  · refine ⟨some ⟨g, 0, none⟩, cap, rfl, hc, hm, (fun h => by cases h), fun i x hx => ?_⟩
    have hi : i < xs.length := (List.getElem?_eq_some_iff.1 hx).1
    refine ⟨g, 0, _, rfl, h0 g rfl, fun j hj => ?_, d.mono (fun _ h => h.1) (h2 i x hx)⟩
    have hij : i * d.sz + j < xs.length * d.sz := by
      have : (i + 1) * d.sz ≤ xs.length * d.sz := Nat.mul_le_mul_right _ hi
      rw [Nat.add_mul] at this; omega
    rw [World.ownsRow.cellAt (g := g) (cap := cap) (n := xs.length) (size := d.sz) (base := base) (e := e) (xs := cells) h1 (0 + (i * d.sz + j)) (by omega)]
    rw [List.getElem?_take_of_lt hj, List.getElem?_drop, Nat.zero_add]
/-- what is new, or below, lies in no block that is owned -/
theorem notOwn (h : OwnP d w ok base e v xs) {b : Nat} (hb : w.heap.size ≤ b ∨ b < base) : some b ≠ v.ownBlock := by
  intro he
  have := h.own b he.symm
  omega
end OwnP

/-- AN APPEND of what reads as ys. -/
theorem run_app {α : Type} {P : Program} {d : Rp α} {w : World} {ok : Nat → Prop} {base : Nat} (t ty e : TypeId) (i : TypeInfo) (z : Value) (bytes : Nat) (ht : P.underlying t = some (.slice e)) (hi : P.info? e = some i) (hz : i.zero = some z)
    (hsize : i.size = d.sz) (hby : i.bytes = bytes) (hzs : z.cells.size = d.sz) {v : Value} {xs : List α} (hown : OwnP d w ok base e v xs) (hfresh : ∀ k, w.heap.size ≤ k → ok k)
    (a : Addr) (c : Nat) (news : List Value) (ys : List α) (hl : news.length = ys.length * d.sz) (hnews : ∀ j u, news[j]? = some u → w.cell? (a.add j) = some u)
    (hK : ∀ i y, ys[i]? = some y → d.K w (fun b => ok b ∧ some b ≠ v.ownBlock) y ((news.drop (i * d.sz)).take d.sz))
    (h63 : xs.length + ys.length ≤ maxLen) (hbytes : (xs.length + ys.length) * bytes ≤ 140737488355328) (hbase : base ≤ w.heap.size) :
    ∃ v' w', (Builtin.append_ #[t, t] ty #[v, .slice (some a) ys.length c]).run P w = .ok v' w' ∧ OwnP d w' ok base e v' (xs ++ ys) ∧ w.grownBy w' v.ownBlock ∧
      (v'.ownBlock = v.ownBlock ∨ ∀ g, v'.ownBlock = some g → w.heap.size ≤ g) := by
  obtain ⟨h0, cells, h1, h2⟩ := hown
  have hone : ∀ u ∈ news, u.oneCell' = true := by
    intro u hu
    obtain ⟨j, hj, rfl⟩ := List.mem_iff_getElem.1 hu
    have hq : j / d.sz < ys.length := by rw [Nat.div_lt_iff_lt_mul d.pos]; rw [← hl]; exact hj
    refine d.one (hK (j / d.sz) _ (List.getElem?_eq_getElem hq)) _ ?_
    rw [List.mem_take_iff_getElem]
    refine ⟨j % d.sz, ?_, ?_⟩
    · have := Nat.mod_lt j d.pos
      rw [List.length_drop]
      have hdm := Nat.div_add_mod j d.sz
      rw [Nat.mul_comm] at hdm
      omega
    · simp only [List.getElem_drop]
      congr 1
      rw [Nat.mul_comm]; exact Nat.div_add_mod j d.sz
  have main : ∀ v' w', (Builtin.append_ #[t, t] ty #[v, .slice (some a) ys.length c]).run P w = .ok v' w' → w'.ownsRow base e d.sz v' (xs.length + ys.length) (cells ++ news) → w.grownBy w' v.ownBlock →
      (v'.ownBlock = v.ownBlock ∨ ∀ g, v'.ownBlock = some g → w.heap.size ≤ g) →
      ∃ v' w', (Builtin.append_ #[t, t] ty #[v, .slice (some a) ys.length c]).run P w = .ok v' w' ∧ OwnP d w' ok base e v' (xs ++ ys) ∧ w.grownBy w' v.ownBlock ∧
      (v'.ownBlock = v.ownBlock ∨ ∀ g, v'.ownBlock = some g → w.heap.size ≤ g) := by
    intro v' w' hr ho hg hf
    refine ⟨v', w', hr, ⟨fun g hg' => ?_, cells ++ news, by rw [List.length_append]; exact ho, fun i x hx => ?_⟩, hg, hf⟩
    · rcases hf with hf | hf
      · exact h0 g (hf ▸ hg')
      · exact hfresh g (hf g hg')
    have move : ∀ (x : α) cs, d.K w (fun b => ok b ∧ some b ≠ v.ownBlock) x cs → d.K w' (fun b => ok b ∧ some b ≠ v'.ownBlock) x cs := by
      intro x cs hx
      refine d.mono (fun b hb => ?_) (d.ext (w := w) (w' := w') (fun b hb => hg.block b hb.2 hb.1.2) (d.lt hx))
      refine ⟨hb.1.1, ?_⟩
      rcases hf with hf | hf
      · rw [hf]; exact hb.1.2
      · intro he
        have := hf b he.symm
        have := hb.2
        omega
    by_cases hi : i < xs.length
    · have hx' : xs[i]? = some x := by rwa [List.getElem?_append_left hi] at hx
      have := move _ _ (h2 i x hx')
      rwa [show ((cells ++ news).drop (i * d.sz)).take d.sz = (cells.drop (i * d.sz)).take d.sz from ?_]
      have hle : (i + 1) * d.sz ≤ xs.length * d.sz := Nat.mul_le_mul_right _ hi
      rw [Nat.add_mul, Nat.one_mul] at hle
      rw [List.drop_append_of_le_length (by rw [h1.1]; omega), List.take_append_of_le_length (by rw [List.length_drop, h1.1]; omega)]
    · have hx' : ys[i - xs.length]? = some x := by rwa [List.getElem?_append_right (by omega)] at hx
      have := move _ _ (hK _ x hx')
      rwa [show ((cells ++ news).drop (i * d.sz)).take d.sz = (news.drop ((i - xs.length) * d.sz)).take d.sz from ?_]
      have hmul : i * d.sz = xs.length * d.sz + (i - xs.length) * d.sz := by rw [← Nat.add_mul]; congr 1; omega
      rw [List.drop_append, List.drop_of_length_le (by rw [h1.1, hmul]; omega), List.nil_append, h1.1, hmul, Nat.add_sub_cancel_left]
  have hrun := run_append_own (P := P) w base t ty e i z d.sz bytes ht hi hz hsize hby hzs d.pos v xs.length cells h1 a ys.length c news hl hnews hone h63 hbytes hbase
  obtain ⟨v', w', hr, ho, hg, _⟩ := hrun
  refine main v' w' hr ho hg ?_
  rcases h1.2 with ⟨rfl, hn⟩ | ⟨g, cap, cur, rfl, hb, hgh, hc, hm, hs, htk⟩
  · have hx : cells = [] := List.eq_nil_of_length_eq_zero (by rw [h1.1, hn]; simp)
    obtain ⟨v2, w2, hr2, ho2, _⟩ := run_append_own (P := P) w w.heap.size t ty e i z d.sz bytes ht hi hz hsize hby hzs d.pos (.slice none 0 0) 0 [] (World.ownsRow_nil _ _ _ _) a ys.length c news hl hnews hone (by omega) (by rw [hn] at hbytes; exact hbytes) (Nat.le_refl _)
    rw [hr] at hr2
    simp only [Result.ok.injEq] at hr2
    obtain ⟨rfl, rfl⟩ := hr2
    exact .inr fun g hg => (ho2.lt g hg).1
  · by_cases hroom : xs.length + ys.length ≤ cap
    · have hfit : xs.length * i.size + news.length ≤ cur.size := by rw [hsize, hl, hs, ← Nat.add_mul]; exact Nat.mul_le_mul_right _ hroom
      have hr2 := run_append_room (P := P) w t ty e i ht hi g xs.length cap cur hgh a ys.length c news (by rw [hsize]; exact hl) hnews hone hroom hfit
      rw [hr] at hr2
      simp only [Result.ok.injEq] at hr2
      obtain ⟨rfl, _⟩ := hr2
      exact .inl rfl
    · have holds : ∀ j u, cells[j]? = some u → w.cell? ((⟨g, 0, none⟩ : Addr).add j) = some u := h1.cells (g := g) rfl
      have hr2 := run_append_grow (P := P) w t ty e i z ht hi hz ⟨g, 0, none⟩ xs.length cap cells (by rw [hsize]; exact h1.1) holds a ys.length c news (by rw [hsize]; exact hl) hnews (by omega) (by unfold maxLen at h63; omega) (by rw [hby]; exact growslice_fits (by omega) hbytes)
      rw [hr] at hr2
      simp only [Result.ok.injEq] at hr2
      obtain ⟨rfl, _⟩ := hr2
      right
      intro g' hg'
      simp [Value.ownBlock] at hg'
      omega

/-- the cells of a row, one behind the other -/
theorem Rp.row.news {α : Type} {d : Rp α} {w : World} {ok : Nat → Prop} {A : Option Addr} {xs : List α} (h : d.row w ok A xs) {b o : Nat} (hA : A = some ⟨b, o, none⟩) :
    ∃ news : List Value, news.length = xs.length * d.sz ∧ (∀ j u, news[j]? = some u → w.cell? ((⟨b, o, none⟩ : Addr).add j) = some u) ∧ ∀ i x, xs[i]? = some x → d.K w ok x ((news.drop (i * d.sz)).take d.sz) := by
  have hcell : ∀ j, j < xs.length * d.sz → ∃ u, w.cell? ⟨b, o + j, none⟩ = some u := by
    intro j hj
    have hq : j / d.sz < xs.length := by rw [Nat.div_lt_iff_lt_mul d.pos]; exact hj
    obtain ⟨cs, hl, _, hc⟩ := h.at hA (List.getElem?_eq_getElem hq)
    have hm := Nat.mod_lt j d.pos
    have := hc _ hm
    rw [Nat.mul_comm, Nat.div_add_mod] at this
    rw [List.getElem?_eq_getElem (by omega)] at this
    exact ⟨_, this⟩
  refine ⟨(List.range (xs.length * d.sz)).map fun j => (w.cell? ⟨b, o + j, none⟩).getD undef, by simp, fun j u hu => ?_, fun i x hx => ?_⟩
  · obtain ⟨hj, he⟩ := List.getElem?_eq_some_iff.1 hu
    simp only [List.length_map, List.length_range] at hj
    simp only [List.getElem_map, List.getElem_range] at he
    obtain ⟨y, hy⟩ := hcell j hj
    rw [hy] at he
    simp only [Option.getD_some] at he
    subst he
    have : (⟨b, o, none⟩ : Addr).add j = ⟨b, o + j, none⟩ := by unfold Addr.add; split <;> simp_all
    rw [this]; exact hy
  · obtain ⟨cs, hl, hK, hc⟩ := h.at hA hx
    have hi : i < xs.length := (List.getElem?_eq_some_iff.1 hx).1
    have hle : (i + 1) * d.sz ≤ xs.length * d.sz := Nat.mul_le_mul_right _ hi
    rw [Nat.add_mul, Nat.one_mul] at hle
    rwa [show (((List.range (xs.length * d.sz)).map fun j => (w.cell? ⟨b, o + j, none⟩).getD undef).drop (i * d.sz)).take d.sz = cs from ?_]
    apply List.ext_getElem?
    intro j
    by_cases hj : j < d.sz
    · rw [List.getElem?_take_of_lt hj, List.getElem?_drop, List.getElem?_map, List.getElem?_range (by omega)]
      simp only [Option.map_some]
      rw [hc j hj, List.getElem?_eq_getElem (by omega)]
      rfl
    · rw [List.getElem?_eq_none (by simp; omega), List.getElem?_eq_none (by omega)]

/-- 'append([]T(nil), xs...)': a new slice that reads as xs -/
theorem run_copy {α : Type} {P : Program} {d : Rp α} {w : World} (t ty e : TypeId) (i : TypeInfo) (z : Value) (bytes : Nat) (ht : P.underlying t = some (.slice e)) (hi : P.info? e = some i) (hz : i.zero = some z)
    (hsize : i.size = d.sz) (hby : i.bytes = bytes) (hzs : z.cells.size = d.sz) {x : Value} {xs : List α} {ok : Nat → Prop} (hK : (Rp.slice d).K w ok xs [x]) (hbytes : xs.length * bytes ≤ 140737488355328) :
    ∃ v' w', (Builtin.append_ #[t, t] ty #[.slice none 0 0, x]).run P w = .ok v' w' ∧ OwnP d w' any w.heap.size e v' xs ∧ Ext w w' := by
  obtain ⟨A, cap, hx, h1, h2, h3, hrow⟩ := hK
  simp only [List.cons.injEq, and_true] at hx
  subst hx
  cases A with
  | none =>
    have h0 : xs = [] := by
      have := h3 rfl
      exact List.eq_nil_of_length_eq_zero (by omega)
    subst h0
    obtain rfl : cap = 0 := h3 rfl
    exact ⟨_, _, run_append_owned_none w w.heap.size t ty e i d.sz ht hi (.slice none 0 0) 0 [] (World.ownsRow_nil _ _ _ _), OwnP.nil d w _ _ e, Ext.refl w⟩
  | some a =>
    by_cases hne : xs = []
    · subst hne
      obtain ⟨v', w', hr, ho, hg, _⟩ := run_app (d := d) t ty e i z bytes ht hi hz hsize hby hzs (OwnP.nil d w any w.heap.size e) (fun _ _ => trivial) a cap [] [] (by simp) (by simp) (by simp) (by simp [maxLen]) (by simp) (Nat.le_refl _)
      exact ⟨v', w', hr, ho, Ext.ofGrown hg⟩
    · obtain ⟨b, o, hA, _⟩ := hrow.addr hne
      simp only [Option.some.injEq] at hA
      subst hA
      obtain ⟨news, hl, hn, hk⟩ := hrow.news rfl
      obtain ⟨v', w', hr, ho, hg, _⟩ := run_app (d := d) t ty e i z bytes ht hi hz hsize hby hzs (OwnP.nil d w any w.heap.size e) (fun _ _ => trivial) ⟨b, o, none⟩ cap news xs hl hn
        (fun i y hy => d.mono (fun _ _ => ⟨trivial, by simp [Value.ownBlock]⟩) (hk i y hy)) (by simp; omega) (by simpa using hbytes) (Nat.le_refl _)
      exact ⟨v', w', hr, ho, Ext.ofGrown hg⟩

/-- a block of cells, read as a slice -/
theorem slice_of_blk {α : Type} {d : Rp α} {w : World} {ok : Nat → Prop} {b : Nat} {T : TypeId} {cells : List Value} {xs : List α} {cap : Nat} (hb : Blk w b T cells) (hok : ok b) (hl : xs.length * d.sz ≤ cells.length)
    (hK : ∀ i x, xs[i]? = some x → d.K w ok x ((cells.drop (i * d.sz)).take d.sz)) (hc : xs.length ≤ cap) (hm : cap ≤ maxLen) : (Rp.slice d).K w ok xs [.slice (some ⟨b, 0, none⟩) xs.length cap] := by
  refine ⟨some ⟨b, 0, none⟩, cap, rfl, hc, hm, (fun h => by cases h), fun i x hx => ⟨b, 0, _, rfl, hok, fun j hj => ?_, hK i x hx⟩⟩
  have hi : i < xs.length := (List.getElem?_eq_some_iff.1 hx).1
  have hle : (i + 1) * d.sz ≤ xs.length * d.sz := Nat.mul_le_mul_right _ hi
  rw [Nat.add_mul, Nat.one_mul] at hle
  rw [List.getElem?_take_of_lt hj, List.getElem?_drop, Nat.zero_add, List.getElem?_eq_getElem (by omega)]
  exact hb.cell (List.getElem?_eq_getElem _)
/-- the cells of a new block, as a source -/
theorem lit_cells (w : World) (T : TypeId) (cs : List Value) : ∀ j u, cs[j]? = some u → (w.alloc (.cells cs.toArray T)).cell? ((⟨w.heap.size, 0, none⟩ : Addr).add j) = some u := by
  intro j u hu
  have : (⟨w.heap.size, 0, none⟩ : Addr).add j = ⟨w.heap.size, j, none⟩ := by unfold Addr.add; split <;> simp_all
  rw [this]
  exact (Blk.new w T cs).cell hu
/-- one element alone -/
theorem one_elem {α : Type} {p : Nat → α → Prop} {y : α} (h : p 0 y) : ∀ i z, [y][i]? = some z → p i z := by
  intro i z hz
  cases i with
  | zero => simp at hz; subst hz; exact h
  | succ n => simp at hz
section
variable {P : Program} {ops : Array Oper} {rest : List Oper} {o : Oper} {a : Act} {Q : Exit → Act → World → Prop} {w : World}
/-- the walk at an append of what reads as ys -/
theorem wpList_app {α : Type} {d : Rp α} {ok : Nat → Prop} {base : Nat} (hgd : o.guard = none) (s x : Operand) (t : TypeId) (ho : o.op = .call { callee := .builtin .append, args := #[s, x], argTypes := #[t, t] })
    (e : TypeId) (i : TypeInfo) (z : Value) (bytes : Nat) (ht : P.underlying t = some (.slice e)) (hi : P.info? e = some i) (hz : i.zero = some z)
    (hsize : i.size = d.sz) (hby : i.bytes = bytes) (hzs : z.cells.size = d.sz) {v : Value} {xs : List α} (hs : a.eval s = v) (hown : OwnP d w ok base e v xs) (hfresh : ∀ k, w.heap.size ≤ k → ok k)
    (ad : Addr) (c : Nat) (news : List Value) (ys : List α) (hx : a.eval x = .slice (some ad) ys.length c) (hl : news.length = ys.length * d.sz) (hnews : ∀ j u, news[j]? = some u → w.cell? (ad.add j) = some u)
    (hK : ∀ i y, ys[i]? = some y → d.K w (fun b => ok b ∧ some b ≠ v.ownBlock) y ((news.drop (i * d.sz)).take d.sz))
    (h63 : xs.length + ys.length ≤ maxLen) (hbytes : (xs.length + ys.length) * bytes ≤ 140737488355328) (hbase : base ≤ w.heap.size)
    (h : ∀ v' w', OwnP d w' ok base e v' (xs ++ ys) → w.grownBy w' v.ownBlock → (v'.ownBlock = v.ownBlock ∨ ∀ g, v'.ownBlock = some g → w.heap.size ≤ g) → wpList P ops Q rest (a.put o.dst v') w') :
    wpList P ops Q (o :: rest) a w := by
  obtain ⟨v', w', hr, h1, h2, h3⟩ := run_app (P := P) t o.type e i z bytes ht hi hz hsize hby hzs hown hfresh ad c news ys hl hnews hK h63 hbytes hbase
  refine wpList_plain hgd fun K hKK => ?_
  unfold Oper.wp execOp
  simp only [ho, resolve, invoke, builtin, Sem.run_bind, Sem.run_pure, Result.andThen_ok, List.map_toArray, List.map_cons, List.map_nil, hs, hx, hr]
  exact hKK _ _ (h v' w' h1 h2 h3)
/-- an append's run, where it stands in a region that draws -/
theorem exec_app {o : Oper} (s x : Operand) (t : TypeId) (ho : o.op = .call { callee := .builtin .append, args := #[s, x], argTypes := #[t, t] }) {vs vx : Value} (hs : a.eval s = vs) (hx : a.eval x = vx)
    {v : Value} {w' : World} (hr : (Builtin.append_ #[t, t] o.type #[vs, vx]).run P w = .ok v w') : (execOp a.eval o).run P w = .ok (.value v) w' := by
  unfold execOp
  simp only [ho, resolve, invoke, builtin, Sem.run_bind, Sem.run_pure, Result.andThen_ok, List.map_toArray, List.map_cons, List.map_nil, hs, hx, hr]
end
/-- a copy's run -/
theorem exec_copy {P : Program} {o : Oper} {a : Act} {w : World} (d s : Operand) (dT sT : TypeId) (ho : o.op = .call { callee := .builtin .copy, args := #[d, s], argTypes := #[dT, sT] }) (elem : TypeId) (hu : P.underlying dT = some (.slice elem)) (hsz : (P.info? elem).map (·.size) = some 1)
    {g off dLen dCap : Nat} {ad : Addr} {sLen sCap : Nat} (hd : a.eval d = .slice (some ⟨g, off, none⟩) dLen dCap) (hs : a.eval s = .slice (some ad) sLen sCap) {cur : List Value} {t : TypeId} (hg : Blk w g t cur) (cs : List Value) (hn : cs.length = Nat.min sLen dLen)
    (hsrc : ∀ j v, cs[j]? = some v → w.cell? (ad.add j) = some v) (hfit : off + cs.length ≤ cur.length) (h1 : ∀ v ∈ cs, v.oneCell' = true) :
    ∃ w', (execOp a.eval o).run P w = .ok (.value (.int .i64 cs.length)) w' ∧ Blk w' g t (cur.take off ++ cs ++ cur.drop (off + cs.length)) ∧ ExtX (fun k => k = g) w w' := by
  have hrun := run_copy_row (P := P) w dT sT o.type elem g off dLen dCap ad sLen sCap cur.toArray t cs hu hsz hg hn hsrc (by simpa using hfit) h1
  refine ⟨w.setRow g (cur.toArray.toList.take off ++ cs ++ cur.toArray.toList.drop (off + cs.length)).toArray, ?_, ?_, ?_⟩
  · unfold execOp
    simp only [ho, resolve, invoke, builtin, Sem.run_bind, Sem.run_pure, Result.andThen_ok, List.map_toArray, List.map_cons, List.map_nil, hd, hs, hrun]
    rfl
  · exact setRow_heap w g _ _ t (0, 0) hg
  · exact ⟨rfl, rfl, rfl, by simp [World.setRow], fun k hk hm => setRow_other w g k _ hm⟩
section
variable {P : Program} {ops : Array Oper} {Q : Exit → Act → World → Prop} {R : World → World → Prop}
theorem wpS_lastE {i : Nat} {r : Sched} {a : Act} {w : World} (d : Option Tmp) (o : Oper) (ho : ops[i]? = some o) (hd : o.dst = d) (hw : Region.wanted o (yielded ops a.tmps) = true)
    (h : ∃ v w', (execOp a.eval o).run P w = .ok (.value v) w' ∧ wpS P ops Q R r (a.put d v) w') : wpS P ops Q R (.last i r) a w := by
  obtain ⟨v, w', he, h⟩ := h
  exact wpS_last d o v w' ho hd hw (.inl he) h
theorem wpS_copy {i : Nat} {r : Sched} {a : Act} {w : World} (d : Option Tmp) (o : Oper) (ho : ops[i]? = some o) (hd : o.dst = d) (hw : Region.wanted o (yielded ops a.tmps) = true)
    (x s : Operand) (dT sT : TypeId) (hop : o.op = .call { callee := .builtin .copy, args := #[x, s], argTypes := #[dT, sT] }) (elem : TypeId) (hu : P.underlying dT = some (.slice elem)) (hsz : (P.info? elem).map (·.size) = some 1)
    (g off dLen dCap : Nat) (ad : Addr) (sLen sCap : Nat) (hx : a.eval x = .slice (some ⟨g, off, none⟩) dLen dCap) (hs : a.eval s = .slice (some ad) sLen sCap) {cur : List Value} {t : TypeId} (hg : Blk w g t cur) (cs : List Value) (hn : cs.length = Nat.min sLen dLen)
    (hsrc : ∀ j v, cs[j]? = some v → w.cell? (ad.add j) = some v) (hfit : off + cs.length ≤ cur.length) (h1 : ∀ v ∈ cs, v.oneCell' = true)
    (hR : ∀ w', ExtX (fun k => k = g) w w' → R w w')
    (h : ∀ w', Blk w' g t (cur.take off ++ cs ++ cur.drop (off + cs.length)) → ExtX (fun k => k = g) w w' → wpS P ops Q R r (a.put d (.int .i64 cs.length)) w') : wpS P ops Q R (.loud i r .stop) a w := by
  obtain ⟨w', hr, hb, he⟩ := exec_copy (P := P) x s dT sT hop elem hu hsz hx hs hg cs hn hsrc hfit h1
  exact wpS_val d o _ w' ho hd hw (.inl hr) (hR _ he) (h w' hb he) trivial
/-- an operation of which only is known that it yields something -/
theorem wpS_upd {i : Nat} {r more : Sched} {a : Act} {w : World} (d : Option Tmp) (o : Oper) (ho : ops[i]? = some o) (hd : o.dst = d) (hw : Region.wanted o (yielded ops a.tmps) = true)
    (h : ∃ v w', (execOp a.eval o).run P w = .ok (.value v) w' ∧ R w w' ∧ wpS P ops Q R r (a.put d v) w') (hm : wpS P ops Q R more a w) : wpS P ops Q R (.loud i r more) a w := by
  obtain ⟨v, w', he, hR, h⟩ := h
  exact wpS_val d o v w' ho hd hw (.inl he) hR h hm
end
end Go.Proofs.Ytphhkphibdiahaa
