/-
  impl.Lru, first part: operations and answers in memory, a cache beside other blocks.
-/
import Derived.Test.YtphhkphibdiahaaLj
import Derived.Test.YtphhkphibdiahaaLk
import Derived.Test.YtphhkphibdiahaaLl
import Derived.Deep.DeepCutAuto
import Derived.Deep.CutBlock
namespace Go.Proofs.Ytphhkphibdiahaa
open Go.RowKit
set_option linter.unusedSimpArgs false
set_option linter.unusedVariables false

abbrev opCells (o : OpD) : List Value := [.int .i64 o.kind, .int .i64 o.key, .int .i64 o.val]
def Rp.op : Rp OpD := Rp.flat opCells 3 (by decide) (fun _ => rfl) (fun _ => rfl) (fun _ => True)
def Rp.iv : Rp Int := Rp.flat (fun n => [.int .i64 n]) 1 (by decide) (fun _ => rfl) (fun _ => rfl) (fun _ => True)
abbrev anCells (ok : Bool) (val : Int) (v1 v2 : Value) : List Value := [.bool ok, .int .i64 val, v1, v2]
abbrev outK (ps : PL) : List Int := ps.map (·.1)
abbrev outV (ps : PL) : List Int := ps.map (·.2)
def Rp.an : Rp AnD := (Rp.bool.pair (Rp.iv.pair ((Rp.slice Rp.iv).pair (Rp.slice Rp.iv)))).iso fun a => (a.ok, a.val, outK a.out, outV a.out)
theorem Rp.an_mk {w : World} {ok : Nat → Prop} {a : AnD} {v1 v2 : Value} (h1 : (Rp.slice Rp.iv).K w ok (outK a.out) [v1]) (h2 : (Rp.slice Rp.iv).K w ok (outV a.out) [v2]) : Rp.an.K w ok a (anCells a.ok a.val v1 v2) :=
  ⟨[.bool a.ok], [.int .i64 a.val, v1, v2], rfl, rfl, [.int .i64 a.val], [v1, v2], rfl, ⟨rfl, trivial⟩, [v1], [v2], rfl, h1, h2⟩
theorem Rp.an_get {w : World} {ok : Nat → Prop} {a : AnD} {cs : List Value} (h : Rp.an.K w ok a cs) : ∃ v1 v2, cs = anCells a.ok a.val v1 v2 ∧ (Rp.slice Rp.iv).K w ok (outK a.out) [v1] ∧ (Rp.slice Rp.iv).K w ok (outV a.out) [v2] := by
  obtain ⟨c1, _, rfl, h1, c2, _, rfl, ⟨rfl, _⟩, c3, c4, rfl, h3, h4⟩ := h
  obtain rfl : c1 = [_] := h1
  obtain ⟨A3, n3, rfl, _⟩ := id h3
  obtain ⟨A4, n4, rfl, _⟩ := id h4
  exact ⟨_, _, rfl, h3, h4⟩
theorem infoAn : (Try.prog.info? 36).map (fun i => (i.zero, i.size, i.bytes)) = some (some (.agg #[.bool false, .int .i64 0, .slice none 0 0, .slice none 0 0]), 4, 64) := by kernel_rfl
theorem infoI : (Try.prog.info? 3).map (fun i => (i.zero, i.size, i.bytes)) = some (some (.int .i64 0), 1, 8) := by kernel_rfl

/-! ### A cache beside other blocks -/
theorem GN.turn {w : World} {ok ok' : Nat → Prop} {gb : Nat} {v : Value} {ps : List (Int × Int)} (h : GN w ok gb v ps) (hk : ∀ k, k < w.heap.size → ok k → ok' k) : GN w ok' gb v ps :=
  ⟨hk _ h.2.1.lt h.1, h.2.1, h.2.2.turn fun k h1 h2 => ⟨hk k h2 h1.1, h1.2⟩⟩
theorem LC.turn {w : World} {ok ok' : Nat → Prop} {g l m gb : Nat} {size : Int} {its : List It} {mp : List (Int × Value)} (h : LC w ok g l m gb size its mp) (hk : ∀ k, k < w.heap.size → ok k → ok' k) : LC w ok' g l m gb size its mp :=
  { h with
    og := hk _ h.G.lt h.og
    ol := hk _ (h.L.lt (.inl rfl)) h.ol
    om := hk _ h.M.lt h.om
    oi := fun x hx => ⟨hk _ (h.L.lt (.inr ⟨x, hx, rfl⟩)) (h.oi x hx).1, hk _ (h.E x hx).lt (h.oi x hx).2⟩ }
theorem LC.okMine {w : World} {ok : Nat → Prop} {g l m gb : Nat} {size : Int} {its : List It} {mp : List (Int × Value)} (h : LC w ok g l m gb size its mp) : ∀ b, Mine g l m its b → ok b ∧ b < w.heap.size := by
  rintro b (rfl | rfl | hr | ⟨x, hx, rfl⟩)
  · exact ⟨h.og, h.G.lt⟩
  · exact ⟨h.om, h.M.lt⟩
  · exact ⟨h.okR hr, h.L.lt hr⟩
  · exact ⟨(h.oi x hx).2, (h.E x hx).lt⟩
theorem GN.own_lt {w : World} {ok : Nat → Prop} {gb : Nat} {v : Value} {ps : List (Int × Int)} (h : GN w ok gb v ps) : ∀ b, some b = v.ownBlock → ok b ∧ b < w.heap.size := fun b hb => ⟨(h.2.2.1 b hb.symm).1, (h.2.2.own b hb.symm).2⟩
namespace LU
variable {w w' : World} {ok ok' : Nat → Prop} {c g gb : Nat} {size : Int} {its : List It} {ps : List (Int × Int)}
theorem turn (h : LU w ok c g gb size its ps) (hk : ∀ k, k < w.heap.size → ok k → ok' k) : LU w ok' c g gb size its ps := by
  obtain ⟨h1, h2, v, h3, h4⟩ := h
  have hk' : ∀ k, k < w.heap.size → (ok k ∧ k ≠ c) → (ok' k ∧ k ≠ c) := fun k hl h => ⟨hk k hl h.1, h.2⟩
  refine ⟨hk _ h2.lt h1, h2, v, h3.turn hk', ?_⟩
  rcases h4 with ⟨l, m, mp, h⟩ | ⟨h, h5, h6⟩
  · exact .inl ⟨l, m, mp, h.turn hk'⟩
  · exact .inr ⟨h, hk' _ h6.lt h5, h6⟩
theorem extX {N : Nat → Prop} (h : LU w ok c g gb size its ps) (x : ExtX N w w') (hN : ∀ k, ok k → k < w.heap.size → ¬ N k) : LU w' ok c g gb size its ps := by
  obtain ⟨h1, h2, v, h3, h4⟩ := h
  refine ⟨h1, h2.extX x (hN c h1 h2.lt), v, h3.keep x (hN gb h3.1.1 h3.2.1.lt) (fun b hb => hN b (h3.own_lt b hb).1.1 (h3.own_lt b hb).2), ?_⟩
  rcases h4 with ⟨l, m, mp, h⟩ | ⟨h, h5, h6⟩
  · exact .inl ⟨l, m, mp, h.keep x fun b hb => hN b (h.okMine b hb).1.1 (h.okMine b hb).2⟩
  · exact .inr ⟨h, h5, h6.extX x (hN g h5.1 h6.lt)⟩
theorem ext (h : LU w ok c g gb size its ps) (x : Ext w w') : LU w' ok c g gb size its ps := h.extX (x.toX fun _ => False) (fun _ _ _ h => h)
/-- what has gone out so far -/
theorem gone (h : LU w ok c g gb size its ps) : ∃ v, Blk w gb 43 [v] ∧ OwnP Rp.pr w (fun b => (ok b ∧ b ≠ c) ∧ b ≠ gb) 0 48 v ps ∧ ok gb := by
  obtain ⟨h1, h2, v, h3, h4⟩ := h
  exact ⟨v, h3.2.1, h3.2.2, h3.1.1⟩
/-- forget what has gone out -/
theorem reset (h : LU w ok c g gb size its ps) : LU (w.setCell ⟨gb, 0, none⟩ (.slice none 0 0)) ok c g gb size its [] := by
  obtain ⟨h1, h2, v, h3, h4⟩ := h
  have x := setC_E w gb 0 (.slice none 0 0)
  have hne : ∀ {b : Nat} {T : TypeId} {cs : List Value}, Blk w b T cs → T ≠ 43 → b ≠ gb := fun hb hT e => hT (by rw [e] at hb; exact hb.inj h3.2.1)
  refine ⟨h1, h2.extX x (hne h2 (by decide)), .slice none 0 0, ⟨h3.1, h3.2.1.setCell 0 _, OwnP.nil _ _ _ _ _⟩, ?_⟩
  rcases h4 with ⟨l, m, mp, h⟩ | ⟨h, h5, h6⟩
  · exact .inl ⟨l, m, mp, h.keep x fun b hb hn => h.notGone h3 b hb (.inl hn)⟩
  · exact .inr ⟨h, h5, h6.extX x (hne h6 (by decide))⟩
/-- what has gone out, in another order -/
theorem sorted (h : LU w ok c g gb size its ps) {v : Value} (hv : Blk w gb 43 [v]) {qs : List (Int × Int)} (ho : OwnP Rp.pr w' (fun b => (ok b ∧ b ≠ c) ∧ b ≠ gb) 0 48 v qs) (x : ExtX (fun b => some b = v.ownBlock) w w') : LU w' ok c g gb size its qs := by
  obtain ⟨h1, h2, v', h3, h4⟩ := h
  obtain rfl : v' = v := by
    have := h3.2.1
    unfold Blk at this hv
    rw [hv] at this
    simpa using this.symm
  have hne : ∀ {b : Nat} {T : TypeId} {cs : List Value}, Blk w b T cs → T ≠ 48 → some b ≠ v'.ownBlock := fun hb hT e => by
    obtain ⟨cs', h'⟩ := h3.2.2.blk e.symm
    exact hT (hb.inj h')
  refine ⟨h1, h2.extX x (hne h2 (by decide)), v', ⟨h3.1, h3.2.1.extX x (hne h3.2.1 (by decide)), ho⟩, ?_⟩
  rcases h4 with ⟨l, m, mp, h⟩ | ⟨h, h5, h6⟩
  · exact .inl ⟨l, m, mp, h.keep x fun b hb hn => h.notGone h3 b hb (.inr hn)⟩
  · exact .inr ⟨h, h5, h6.extX x (hne h6 (by decide))⟩
theorem nk (h : LU w ok c g gb size its ps) : (its.map (·.k)).Nodup := by
  obtain ⟨h1, h2, v, h3, ⟨l, m, mp, h⟩ | ⟨h, h5, h6⟩⟩ := h
  · exact h.nk
  · simp [h]
end LU
theorem LU.ownNe {w : World} {ok : Nat → Prop} {c g gb : Nat} {size : Int} {its : List It} {ps : List (Int × Int)} (h : LU w ok c g gb size its ps) {v : Value} (hv : Blk w gb 43 [v]) {b : Nat} {T : TypeId} {cs : List Value} (hb : Blk w b T cs) (hT : T ≠ 48) : some b ≠ v.ownBlock := by
  obtain ⟨h1, h2, v', h3, h4⟩ := h
  obtain rfl : v' = v := by
    have := h3.2.1
    unfold Blk at this hv
    rw [hv] at this
    simpa using this.symm
  intro e
  obtain ⟨cs', h'⟩ := h3.2.2.blk e.symm
  exact hT (hb.inj h')
theorem LU.ownOk {w : World} {ok : Nat → Prop} {a c g gb : Nat} {size : Int} {its : List It} {ps : List (Int × Int)} (h : LU w (fun q => ok q ∧ q ≠ a) c g gb size its ps) {v : Value} (hv : Blk w gb 43 [v]) : ∀ q, some q = v.ownBlock → ok q := by
  obtain ⟨h1, h2, v', h3, h4⟩ := h
  obtain rfl : v' = v := by
    have := h3.2.1
    unfold Blk at this hv
    rw [hv] at this
    simpa using this.symm
  exact fun q hq => (h3.own_lt q hq).1.1.1
theorem GN.apart_own {w : World} {ok : Nat → Prop} {v : Value} {ps : List (Int × Int)} (h : OwnP Rp.pr w ok 0 48 v ps) : ∃ A n cap, v = .slice A n cap := own_shape h
theorem sortP_perm {its dI : List It} (hn : (its.map (·.k)).Nodup) (hp : dI.Perm its) : sortP (prs its) = sortP (prs dI) := by
  have h1 : (sortP (prs dI)).Perm (prs its) := (List.mergeSort_perm _ _).trans (hp.map _)
  have h2 : (sortP (prs dI)).Pairwise fun a b => ¬ b.1 < a.1 := by
    have := List.pairwise_mergeSort (le := fun a b : Int × Int => decide (a.1 ≤ b.1)) (fun a b c h1 h2 => by simp at *; omega) (fun a b => by simp; omega) (prs dI)
    exact this.imp fun h => by simp at h; omega
  exact (sortP_eq (by rw [show ksP (prs its) = its.map (·.k) by simp [ksP, prs]]; exact hn) h1 h2).symm
/-! ### What the model does, in terms of items -/
theorem ks_prs (its : List It) : ksP (prs its) = its.map (·.k) := by simp [ksP, prs]
theorem prs_mid (X Y : List It) (x : It) : prs (X ++ x :: Y) = prs X ++ (x.k, x.v) :: prs Y := by simp [prs]
theorem ev_prs (size : Int) (its : List It) : evP size (prs its) = (prs (evI size its).1, (evI size its).2) := by
  unfold evP evI
  simp only [prs, List.length_map]
  split
  · simp only [List.map_dropLast, List.getLast?_map]
  · rfl
section
variable {size : Int} {its X Y : List It} {x : It} {o : OpD}
theorem do1h (hk : o.kind = 1) (hx : x.k = o.key) (hn : ((X ++ x :: Y).map (·.k)).Nodup) : doP size (prs (X ++ x :: Y)) o = (prs (⟨x.e, x.t, x.k, o.val⟩ :: (X ++ Y)), ⟨false, 0, []⟩) := by
  unfold doP addP
  rw [if_pos hk, if_pos (by rw [ks_prs, ← hx]; simp)]
  rw [← ks_prs, prs_mid] at hn
  rw [prs_mid, ← hx, rm_mid hn]
  simp [prs]
theorem do1m (hk : o.kind = 1) (hx : o.key ∉ its.map (·.k)) (e t : Nat) : doP size (prs its) o = (prs (evI size (⟨e, t, o.key, o.val⟩ :: its)).1, ⟨false, 0, (evI size (⟨e, t, o.key, o.val⟩ :: its)).2⟩) := by
  unfold doP addP
  rw [if_pos hk, if_neg (by rw [ks_prs]; exact hx)]
  rw [show (o.key, o.val) :: prs its = prs (⟨e, t, o.key, o.val⟩ :: its) from rfl, ev_prs]
theorem do2h (hk : o.kind = 2) (hx : x.k = o.key) (hn : ((X ++ x :: Y).map (·.k)).Nodup) : doP size (prs (X ++ x :: Y)) o = (prs (x :: (X ++ Y)), ⟨true, x.v, []⟩) := by
  unfold doP getP
  rw [if_neg (by omega), if_pos hk, if_pos (by rw [ks_prs, ← hx]; simp)]
  rw [← ks_prs, prs_mid] at hn
  rw [prs_mid, ← hx, rm_mid hn, val_mid hn]
  simp [prs]
theorem do2m (hk : o.kind = 2) (hx : o.key ∉ its.map (·.k)) : doP size (prs its) o = (prs its, ⟨false, 0, []⟩) := by
  unfold doP getP
  rw [if_neg (by omega), if_pos hk, if_neg (by rw [ks_prs]; exact hx)]
theorem do3h (hk : o.kind = 3) (hx : x.k = o.key) (hn : ((X ++ x :: Y).map (·.k)).Nodup) : doP size (prs (X ++ x :: Y)) o = (prs (X ++ Y), ⟨false, 0, [(x.k, x.v)]⟩) := by
  unfold doP remP
  rw [if_neg (by omega), if_neg (by omega), if_pos hk, if_pos (by rw [ks_prs, ← hx]; simp)]
  rw [← ks_prs, prs_mid] at hn
  rw [prs_mid, ← hx, rm_mid hn, val_mid hn]
  simp [prs]
theorem do3m (hk : o.kind = 3) (hx : o.key ∉ its.map (·.k)) : doP size (prs its) o = (prs its, ⟨false, 0, []⟩) := by
  unfold doP remP
  rw [if_neg (by omega), if_neg (by omega), if_pos hk, if_neg (by rw [ks_prs]; exact hx)]
theorem do4 (hk : o.kind = 4) : doP size (prs its) o = (prs its.dropLast, ⟨false, 0, (its.getLast?.map fun x => (x.k, x.v)).toList⟩) := by
  unfold doP
  rw [if_neg (by omega), if_neg (by omega), if_neg (by omega), if_pos hk]
  simp only [prs, List.map_dropLast, List.getLast?_map]
theorem do5 (hk : o.kind = 5) : doP size (prs its) o = (prs its, ⟨false, its.length, []⟩) := by
  unfold doP
  rw [if_neg (by omega), if_neg (by omega), if_neg (by omega), if_neg (by omega), if_pos hk]
  simp [prs]
theorem do6 (hk : o.kind = 6) : doP size (prs its) o = (prs [], ⟨false, 0, sortP (prs its)⟩) := by
  unfold doP
  rw [if_neg (by omega), if_neg (by omega), if_neg (by omega), if_neg (by omega), if_neg (by omega)]
  rfl
theorem item_of (h : o.key ∈ its.map (·.k)) : ∃ X x Y, its = X ++ x :: Y ∧ x.k = o.key := by
  obtain ⟨x, hx, hk⟩ := List.mem_map.1 h
  obtain ⟨X, Y, rfl⟩ := List.append_of_mem hx
  exact ⟨X, x, Y, rfl, hk⟩
end
end Go.Proofs.Ytphhkphibdiahaa
