/-
  spec.Cache: where a key stands; the entries sorted by key.
-/
import Derived.Test.YtphhkphibdiahaaLp
import Derived.Handy
import Derived.Laws.EntriesVeiled
namespace Go.Proofs.Ytphhkphibdiahaa
open Go.RowKit Go.Shelf Go.Sort
set_option linter.unusedSimpArgs false
set_option linter.unusedVariables false

abbrev enV (p : Int × Int) : Value := .agg #[.int .i64 p.1, .int .i64 p.2]
theorem findC_any (p : Int × Int) (kb : Nat) (k : Int) (w : World) (hk : Blk w kb 3 [.int .i64 k]) :
    Calls Try.prog 46 #[enV p, pv kb] w fun e w' => e = .returned (.bool (p.1 == k)) ∧ Ext w w' := by
  have hk1 := (hk.ext ((Ext.refl w).alloc (.cells #[.int .i64 p.1, .int .i64 p.2] 59))).cell (o := 0) rfl
  clear hk
  go_enter Try.func46, Try.ntmps46
  go_wp2
  go_ret
  exact ⟨rfl, (Ext.refl w).alloc _⟩
/-- where a key stands -/
def IxR (L : PL) (k i : Int) : Prop := (i = -1 ∧ k ∉ ksP L) ∨ ∃ X u Y, L = X ++ (k, u) :: Y ∧ k ∉ ksP X ∧ i = X.length
set_option maxRecDepth 20000 in
set_option maxHeartbeats 1000000 in
theorem index_any (ok : Nat → Prop) (v : Value) (L : PL) (kb : Nat) (k : Int) (w : World) (h : OwnP Rp.pr w ok 0 59 v L) (hn : L.length ≤ 2000) (hk : Blk w kb 3 [.int .i64 k]) :
    Calls Try.prog 45 #[v, .func (.func 46) #[] #[pv kb]] w fun e w' => ∃ i, e = .returned (.int .i64 i) ∧ IxR L k i ∧ Ext w w' := by
  obtain ⟨A, cap, hv, p1, p2, p3, hrow⟩ := h.slice
  simp only [List.cons.injEq, and_true] at hv
  subst hv
  have HR := Lib.hid hrow
  have HK := Lib.hid hk
  clear hrow h hk
  go_enter Try.func45, Try.ntmps45
  go_wp2_with fail
  go_loopw [5, 8] (fun u5 i wr => ∃ j : Nat, i = .int .i64 j ∧ j ≤ L.length ∧ Hid (k ∉ ksP (L.take j)) ∧ Ext w wr) (fun _ i _ => L.length - (intOf i).toNat)
  case atStart => exact ⟨0, rfl, Nat.zero_le _, Lib.hid (by simp), Ext.refl _⟩
  case round =>
    rename_i u5 u8
    obtain ⟨j, rfl, hj, hno, hE⟩ := hrel
    by_cases hlt : j < L.length
    · obtain ⟨p, hp⟩ : ∃ p, L[j]? = some p := ⟨_, List.getElem?_eq_getElem hlt⟩
      obtain ⟨b, o, rfl, _⟩ := HR.out.addr (List.ne_nil_of_length_pos (by omega))
      obtain ⟨_, hc⟩ := flat_at (HR.out.ext' hE) rfl hp
      have c0 := hc 0 _ rfl
      have c1 := hc 1 _ rfl
      simp only [Nat.add_zero, ← Nat.add_assoc] at c0 c1
      have HP := Lib.hid hp
      clear hp hc
      go_wp2_with fail
      refine (findC_any p kb k wr (HK.out.ext hE)).mono ?_
      rintro e w1 ⟨rfl, e1⟩
      have E1 := Lib.hid (hE.trans e1)
      clear e1
      by_cases hpk : p.1 = k
      · have t1 : (p.1 == k) = true := by simpa using hpk
        rw [t1]
        have HPK := Lib.hid hpk
        clear hpk t1
        go_wp2_with fail
        go_ret
        refine ⟨_, rfl, .inr ⟨L.take j, p.2, L.drop (j + 1), ?_, hno.out, by rw [List.length_take, Nat.min_eq_left hj]⟩, E1.out⟩
        rw [← HPK.out]
        have h1 := (List.getElem?_eq_some_iff.1 HP.out).2
        rw [show (p.1, p.2) = L[j] from h1.symm, List.getElem_cons_drop, List.take_append_drop]
      · have t1 : (p.1 == k) = false := by simpa using hpk
        rw [t1]
        have HPK := Lib.hid hpk
        clear hpk t1
        go_wp2_with fail
        go_roundw
        case rel =>
          refine ⟨j + 1, by go_num, by omega, Lib.hid ?_, E1.out⟩
          rw [take_snoc' HP.out]
          simp only [ksP, List.map_append, List.map_cons, List.map_nil, List.mem_append, List.mem_singleton, not_or]
          exact ⟨hno.out, fun e => HPK.out e.symm⟩
        case measure => simp [intOf]; omega
    · have hkn : Hid (j = L.length) := Lib.hid (by omega)
      go_wp2_with fail
      go_ret
      refine ⟨_, rfl, .inl ⟨rfl, ?_⟩, hE⟩
      have := hno.out
      rwa [hkn.out, List.take_length] at this
/-- flat data hang on their own block alone -/
theorem own_keep {α : Type} {f : α → List Value} {n : Nat} {hn : 0 < n} {hl : ∀ a, (f a).length = n} {h1 : ∀ a, (f a).all (·.oneCell') = true} {p : α → Prop} {M : Nat → Prop} {w w' : World} {ok : Nat → Prop} {base : Nat} {e : TypeId} {v : Value} {xs : List α} (h : OwnP (Rp.flat f n hn hl h1 p) w ok base e v xs) (x : ExtX M w w') (hM : ∀ b, some b = v.ownBlock → ¬ M b) : OwnP (Rp.flat f n hn hl h1 p) w' ok base e v xs := by
  obtain ⟨h0, cells, h4, h5⟩ := h
  refine ⟨h0, cells, ⟨h4.1, ?_⟩, fun i y hy => h5 i y hy⟩
  rcases h4.2 with hn | ⟨g, cap, cur, rfl, hb, hg, rest⟩
  · exact .inl hn
  · exact .inr ⟨g, cap, cur, rfl, hb, (x.2.2.2.2 g (Array.getElem?_eq_some_iff.1 hg).1 (hM g rfl)).trans hg, rest⟩
/-- the reference's cache: its block, what it holds -/
def SC (w : World) (S c : Nat) (size : Int) (v : Value) (L : PL) : Prop := S ≤ c ∧ Blk w c 30 [.int .i64 size, v] ∧ OwnP Rp.pr w (fun b => S ≤ b) 0 59 v L
namespace SC
variable {w w' : World} {S c : Nat} {size : Int} {v : Value} {L : PL}
theorem keep {N : Nat → Prop} (h : SC w S c size v L) (x : ExtX N w w') (hc : ¬ N c) (hv : ∀ q, some q = v.ownBlock → ¬ N q) : SC w' S c size v L := ⟨h.1, h.2.1.extX x hc, own_keep h.2.2 x hv⟩
theorem ext (h : SC w S c size v L) (x : Ext w w') : SC w' S c size v L := h.keep (x.toX fun _ => False) (fun h => h) (fun _ _ h => h)
/-- blocks of another kind -/
theorem apart (h : SC w S c size v L) {b : Nat} {T : TypeId} {cs : List Value} (hb : Blk w b T cs) (h1 : T ≠ 30) (h2 : T ≠ 59) : b ≠ c ∧ some b ≠ v.ownBlock := by
  refine ⟨fun e => h1 (hb.inj (e ▸ h.2.1)), fun e => ?_⟩
  obtain ⟨cs', h'⟩ := h.2.2.blk e.symm
  exact h2 (hb.inj h')
end SC
set_option maxRecDepth 20000 in
theorem find_any (S c : Nat) (size : Int) (v : Value) (L : PL) (k : Int) (w : World) (h : SC w S c size v L) (hn : L.length ≤ 2000) :
    Calls Try.prog 24 #[pv c, .int .i64 k] w fun e w' => ∃ i, e = .returned (.int .i64 i) ∧ IxR L k i ∧ Ext w w' := by
  have E0 : Ext w (w.alloc (.cells #[.int .i64 k] 3)) := (Ext.refl w).alloc _
  have HI := Lib.hid (index_any _ v L w.heap.size k (w.alloc (.cells #[.int .i64 k] 3)) (h.2.2.ext E0) hn (Blk.new w _ _))
  have c1 := (h.2.1.ext E0).cell (o := 1) rfl
  obtain ⟨A, n, cap, rfl⟩ := own_shape h.2.2
  clear h
  go_enter Try.func24, Try.ntmps24
  go_wp2_with fail
  refine HI.out.mono ?_
  rintro e w1 ⟨i, rfl, hi, e1⟩
  have HX := Lib.hid hi
  clear hi
  go_wp2_with fail
  go_ret
  exact ⟨i, rfl, HX.out, E0.trans e1⟩

/-! ### Sorted -/
abbrev BP := {p : Int × Int // -1099511627776 ≤ p.1 ∧ p.1 ≤ 1099511627776}
instance : Inhabited BP := ⟨⟨(0, 0), by decide⟩⟩
abbrev bpCells (x : BP) : List Value := prCells x.1
def Rp.bp : Rp BP := Rp.flat bpCells 2 (by decide) (fun _ => rfl) (fun _ => rfl) (fun _ => True)
def cmpEn (x y : BP) : Int := x.1.1 - y.1.1
set_option maxHeartbeats 1000000 in
theorem cmpEn_any (x y : BP) (W : World) : Calls Try.prog 29 #[.agg #[.int .i64 x.1.1, .int .i64 x.1.2], .agg #[.int .i64 y.1.1, .int .i64 y.1.2]] W fun e w' => e = .returned (.int .i64 (cmpEn x y)) ∧ ∃ q os', w' = grow (W.drewN q) os' := by
  obtain ⟨⟨a, a'⟩, h1, h2⟩ := x
  obtain ⟨⟨b, b'⟩, h3, h4⟩ := y
  simp only at h1 h2 h3 h4
  unfold cmpEn
  simp only
  go_enter Try.func29, Try.ntmps29
  go_wp2
  go_ret
  exact ⟨rfl, 0, _, by rw [alloc_eq_grow, alloc_eq_grow, grow_grow]; rfl⟩
theorem ltEn (x y : BP) : ltOf cmpEn x y = decide (x.1.1 < y.1.1) := by
  unfold ltOf cmpEn
  by_cases h : x.1.1 < y.1.1 <;> simp <;> omega
theorem swoEn : SWO (ltOf cmpEn) where
  irrefl x := by rw [ltEn]; simp
  trans x y z h1 h2 := by rw [ltEn] at *; simp at *; omega
  ntrans x y z h1 h2 := by rw [ltEn] at *; simp at *; omega
theorem lift_bp (L : PL) (h : ∀ p ∈ L, -1099511627776 ≤ p.1 ∧ p.1 ≤ 1099511627776) : ∃ Lb : List BP, Lb.map (·.1) = L := by
  induction L with
  | nil => exact ⟨[], rfl⟩
  | cons p L ih =>
    obtain ⟨Lb, hL⟩ := ih fun q hq => h q (by simp [hq])
    exact ⟨⟨p, h p (by simp)⟩ :: Lb, by simp [hL]⟩
theorem own_bp {w : World} {ok : Nat → Prop} {base : Nat} {e : TypeId} {v : Value} {Lb : List BP} : OwnP Rp.bp w ok base e v Lb ↔ OwnP Rp.pr w ok base e v (Lb.map (·.1)) := by
  constructor
  · rintro ⟨h0, cells, h1, h2⟩
    refine ⟨h0, cells, by rw [List.length_map]; exact h1, fun i p hp => ?_⟩
    rw [List.getElem?_map] at hp
    cases hb : Lb[i]? with
    | none => rw [hb] at hp; cases hp
    | some x =>
      rw [hb] at hp
      simp only [Option.map_some, Option.some.injEq] at hp
      have := h2 i x hb
      exact ⟨by rw [← hp]; exact this.1, trivial⟩
  · rintro ⟨h0, cells, h1, h2⟩
    rw [List.length_map] at h1
    refine ⟨h0, cells, h1, fun i x hx => ?_⟩
    exact ⟨(h2 i x.1 (by rw [List.getElem?_map, hx]; rfl)).1, trivial⟩
set_option maxHeartbeats 1000000 in
theorem sortEn_any (ok : Nat → Prop) (v : Value) (ps : PL) (w : World) (h : OwnP Rp.pr w ok 0 59 v ps) (hn : ps.length ≤ 2000) (hnd : (ksP ps).Nodup) (hb : ∀ p ∈ ps, -1099511627776 ≤ p.1 ∧ p.1 ≤ 1099511627776) :
    Calls Try.prog 28 #[v, .func (.func 29) #[] #[]] w fun e w' => e = .returned (.tuple #[]) ∧ OwnP Rp.pr w' ok 0 59 v (sortP ps) ∧ ExtX (fun b => some b = v.ownBlock) w w' := by
  obtain ⟨Lb, rfl⟩ := lift_bp ps hb
  have h' := own_bp.2 h
  rcases h'.form with ⟨rfl, rfl⟩ | ⟨g, cap, rfl, _, _, _⟩
  · refine (AnyF.slices_SortFunc_none Try.laysSEn none 0 _ w).mono ?_
    rintro e w' ⟨rfl, rfl⟩
    exact ⟨rfl, by rw [show sortP (([] : List BP).map (·.1)) = [] by simp [sortP]]; exact h, ExtX.refl _ _⟩
  · have eg : ∀ args w, (callFunc 29 args).run Try.prog w = .ok (.enter 29 args) w := enters_of Try.func29 (by kernel_rfl) rfl
    rw [List.length_map] at hn
    have hcon := AnyQ.slices_SortFunc Try.laysSEn 2 Try.isAgg59 Try.sizeOf59 bpCells (fun _ => rfl) (fun x v hv => by simp [bpCells, prCells] at hv; rcases hv with rfl | rfl <;> rfl) cmpEn swoEn 29 #[] g 0 cap Lb.toArray w eg (fun _ _ _ _ x y => cmpEn_any x y _) (own_holdsK h') (by obtain ⟨cs, hb⟩ := h'.blk (g := g) rfl; exact hb.lt) (by simp; omega)
    refine Calls.mono hcon ?_
    rintro e w' ⟨rfl, d', n, os, hp, hs, rfl⟩
    have hpl : d'.toList.Perm Lb := by
      have h1 := hp.2.2
      have h2 : d'.size = Lb.toArray.size := hp.1
      rw [show Lb.toArray.extract 0 Lb.toArray.size = Lb.toArray by simp, show d'.extract 0 Lb.toArray.size = d' by rw [← h2]; simp] at h1
      exact h1
    have hsz : d'.size = Lb.length := by simpa using hp.1
    obtain ⟨h1, h2⟩ := own_sorted (m := n) (os := os) (dk := d') h' hsz (fun _ _ => trivial)
    have hpw : d'.toList.Pairwise fun a b => ltOf cmpEn b a = false := by
      rw [List.pairwise_iff_getElem]
      intro i j hi hj hij
      have hj9 : j < Lb.toArray.size := by
        have h9 : j < d'.size := by simpa using hj
        simp only [List.size_toArray]
        omega
      have h1 := hs i j (Nat.zero_le _) hij hj9
      rw [getElem!_pos d' i (by simpa using hi), getElem!_pos d' j (by simpa using hj)] at h1
      simpa using h1
    have heq : d'.toList.map (·.1) = sortP (Lb.map (·.1)) := sortP_eq hnd (hpl.map _) (by
      rw [List.pairwise_map]
      exact hpw.imp fun hab => by rw [ltEn] at hab; simpa using hab)
    have h3 := own_bp.1 h1
    rw [heq] at h3
    exact ⟨rfl, h3, h2.mono fun b _ hb => by rw [hb]; rfl⟩
end Go.Proofs.Ytphhkphibdiahaa
