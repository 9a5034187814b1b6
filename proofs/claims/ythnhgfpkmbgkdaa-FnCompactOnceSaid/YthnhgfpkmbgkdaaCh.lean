/-
  What a checker asks (zzHasher): its methods.
-/
import Derived.Test.YthnhgfpkmbgkdaaCk
import Derived.Test.YthnhgfpkmbgkdaaHeap
namespace Go.Proofs.Ythnhgfpkmbgkdaa
open Go.RowKit
set_option linter.unusedSimpArgs false
set_option linter.unusedVariables false

section
variable {P : Program} {ops : Array Oper} {rest : List Oper} {o : Oper} {a : Act} {Q : Exit → Act → World → Prop} {w : World}
theorem wpList_val (hgd : o.guard = none) {v : Value} {w' : World} (he : (execOp a.eval o).run P w = .ok (.value v) w') (h : wpList P ops Q rest (a.put o.dst v) w') : wpList P ops Q (o :: rest) a w := by
  refine wpList_plain hgd fun K hK => ?_
  unfold Oper.wp
  rw [he]
  exact hK _ _ h
end
/-- a slice of flat elements of the call's own: where its block stays, it stays; and other blocks are ok -/
theorem OwnP.flat' {α : Type} {f : α → List Value} {n : Nat} {hn : 0 < n} {hl : ∀ a, (f a).length = n} {h1 : ∀ a, (f a).all (·.oneCell') = true} {p : α → Prop} {w w' : World} {ok ok' : Nat → Prop} {base : Nat} {e : TypeId} {v : Value} {xs : List α}
    (h : OwnP (Rp.flat f n hn hl h1 p) w ok base e v xs) {M : Nat → Prop} (x : ExtX M w w') (hM : ∀ k, v.ownBlock = some k → ¬ M k) (hk : ∀ k, v.ownBlock = some k → ok' k) : OwnP (Rp.flat f n hn hl h1 p) w' ok' base e v xs := by
  obtain ⟨h0, cells, h2, h3⟩ := h
  refine ⟨hk, cells, ⟨h2.1, ?_⟩, h3⟩
  rcases h2.2 with hn' | ⟨g, cap, cur, rfl, hb, hg, rest⟩
  · exact .inl hn'
  · have hlt := (Array.getElem?_eq_some_iff.1 hg).1
    exact .inr ⟨g, cap, cur, rfl, hb, (x.2.2.2.2 g hlt (hM g rfl)).trans hg, rest⟩
theorem OwnP.turn' {α : Type} {d : Rp α} {w : World} {ok ok' : Nat → Prop} {base base' : Nat} {e : TypeId} {v : Value} {xs : List α} (h : OwnP d w ok base e v xs) (hk : ∀ k, ok k → k < w.heap.size → ok' k) (hb : base' ≤ base) : OwnP d w ok' base' e v xs := by
  obtain ⟨h0, cells, h1, h2⟩ := h.turn hk
  exact ⟨h0, cells, ⟨h1.1, h1.2.imp id (fun ⟨g, cap, cur, p, q, r⟩ => ⟨g, cap, cur, p, Nat.le_trans hb q, r⟩)⟩, h2⟩
def Rp.u64 : Rp Int := Rp.flat (fun n => [.int .u64 n]) 1 (by decide) (fun _ => rfl) (fun _ => rfl) (fun _ => True)
def Rp.i64 : Rp Int := Rp.flat (fun n => [.int .i64 n]) 1 (by decide) (fun _ => rfl) (fun _ => rfl) (fun _ => True)
/-- what is asked, and what was told -/
structure HSt where
  f : HsD
  s : HsD
  rev2 : Int
  asked : Int
  own : Int
  fn : Value
  hashes : Value
  alarms : Value
  revs : Value
abbrev hstCells (x : HSt) : List Value := [.int .u32 x.f.hash, .int .i64 x.f.comp, .int .i64 x.f.rev, .int .u32 x.s.hash, .int .i64 x.s.comp, .int .i64 x.s.rev, .int .i64 x.rev2, .int .i64 x.asked, .int .u64 x.own, x.fn, x.hashes, x.alarms, x.revs]
/-- the hasher at block b: the alarms that were raised, the revisions that were asked for -/
structure HAt (w : World) (b B : Nat) (x : HSt) (al rl : List Int) : Prop where
  blk : Blk w b 73 (hstCells x)
  al : OwnP Rp.u64 w (fun k => k ≠ b ∧ some k ≠ x.revs.ownBlock) B 22 x.alarms al
  rl : OwnP Rp.i64 w (fun k => k ≠ b ∧ some k ≠ x.alarms.ownBlock) B 2 x.revs rl
  lb : B ≤ b
/-- its own blocks -/
abbrev HPriv (b : Nat) (x : HSt) (k : Nat) : Prop := k = b ∨ some k = x.alarms.ownBlock ∨ some k = x.revs.ownBlock
namespace HAt
variable {w w' : World} {b B : Nat} {x : HSt} {al rl : List Int}
theorem lt (h : HAt w b B x al rl) : b < w.heap.size := h.blk.lt
theorem priv (h : HAt w b B x al rl) {k : Nat} (hk : HPriv b x k) : B ≤ k ∧ k < w.heap.size := by
  rcases hk with rfl | hk | hk
  · exact ⟨h.lb, h.lt⟩
  · exact h.al.own k hk.symm
  · exact h.rl.own k hk.symm
theorem ext (h : HAt w b B x al rl) (e : Ext w w') : HAt w' b B x al rl := ⟨h.blk.ext e, h.al.ext e, h.rl.ext e, h.lb⟩
/-- behind a change of other blocks -/
theorem extX {M : Nat → Prop} (h : HAt w b B x al rl) (e : ExtX M w w') (hM : ∀ k, HPriv b x k → ¬ M k) : HAt w' b B x al rl :=
  ⟨h.blk.extX e (hM b (.inl rfl)), h.al.flat' e (fun k hk => hM k (.inr (.inl hk.symm))) h.al.1, h.rl.flat' e (fun k hk => hM k (.inr (.inr hk.symm))) h.rl.1, h.lb⟩
end HAt
theorem infoU64 : (Try.prog.info? 22).map (fun i => (i.zero, i.size, i.bytes)) = some (some (.int .u64 0), 1, 8) := by kernel_rfl
theorem infoI64 : (Try.prog.info? 2).map (fun i => (i.zero, i.size, i.bytes)) = some (some (.int .i64 0), 1, 8) := by kernel_rfl
set_option maxRecDepth 20000 in
set_option maxHeartbeats 2000000 in
/-- an alarm is raised -/
theorem trigger_any (b B : Nat) (x : HSt) (al rl : List Int) (id : Int) (w : World) (h : HAt w b B x al rl) (hl : al.length ≤ 1000) :
    Calls Try.prog 95 #[.pointer (some ⟨b, 0, none⟩), .int .u64 id] w fun e w' => ∃ va, e = .returned (.tuple #[]) ∧ HAt w' b B { x with alarms := va } (al ++ [id]) rl ∧ ExtX (fun k => k = b ∨ some k = x.alarms.ownBlock) w w' ∧ (va.ownBlock = x.alarms.ownBlock ∨ ∀ g, va.ownBlock = some g → w.heap.size ≤ g) := by
  obtain ⟨i0, hi, hz0, hz1, hz2⟩ := info_parts3 infoU64
  have hpriv := Lib.hid (fun k (hk : HPriv b x k) => h.priv hk)
  obtain ⟨K, own, orl, lb⟩ := h
  have hbl := K.lt
  have E0 : Ext w (w.alloc (.cells #[.int .u64 id] 22)) := (Ext.refl w).alloc _
  have H1 := Lib.hid (own.ext E0)
  have HA := Lib.hid own
  have HR := Lib.hid orl
  have c11 := K.cell (o := 11) rfl
  have HK := Lib.hid K
  obtain ⟨A, n, cap, hA⟩ := own_shape own
  clear own orl K
  go_enter Try.func95, Try.ntmps95
  replace hA := Lib.hid hA
  go_wp2_with (at_builtin; refine wpList_app (d := Rp.u64) (base := B) rfl (.tmp 8) (.tmp 10) 41 rfl 22 i0 _ 8 Try.underlying41 hi hz0 hz1 hz2 rfl (v := x.alarms) rfl H1.out (fun q hq => ⟨by simp at hq; omega, fun he => by (have h2 := (HR.out.own q he.symm).2; simp at hq; omega)⟩) ⟨w.heap.size, 0, none⟩ 1 [.int .u64 id] [id] rfl rfl (lit_at _ _ _ _ (by simp)) (one_elem (p := fun i y => (Rp.u64).K _ (fun q => (q ≠ b ∧ some q ≠ x.revs.ownBlock) ∧ some q ≠ Value.ownBlock x.alarms) y (([.int .u64 id].drop (i * (Rp.u64).sz)).take (Rp.u64).sz)) ⟨rfl,trivial⟩) (by simp [maxLen]; omega) (by simp; omega) (by simp; omega) ?_; intro v2 w2 own2 g2 f2; have O2 := Lib.hid own2; have G2 := Lib.hid g2; have F2 := Lib.hid f2; clear own2 g2 f2; obtain ⟨A2, n2, cap2, rfl⟩ := own_shape O2.out; (have X2 : ExtX (fun j => some j = x.alarms.ownBlock) w w2 := (E0.toX _).grown G2.out (fun k h => h.symm); have K2 := HK.out.extX X2 (fun h => (HA.out.1 b h.symm).1 rfl); have f11 := K2.frozen 11; have c11b := K2.cell (o := 11) rfl; have b2 := K2.lt; have HK2 := Lib.hid K2; clear K2))
  go_end0
  have X3 : ExtX (fun j => j = b) w2 (w2.setCell ⟨b, 11, none⟩ (.slice A2 n2 cap2)) := ExtX.setCell (M := fun j => j = b) (ExtX.refl _ w2) (p := ⟨b, 11, none⟩) rfl _
  refine ⟨.slice A2 n2 cap2, rfl, ⟨HK2.out.setCell 11 _, ?_, ?_, lb⟩, (X2.mono (fun _ _ h => .inr h)).trans' X3 (fun _ _ h => .inl h), F2.out.imp (fun h => h) (fun h g hg => by have := h g hg; simp at this; omega)⟩
  · exact O2.out.flat' X3 (fun k hk => (O2.out.1 k hk).1) O2.out.1
  · refine (HR.out.flat' X2 (fun k hk hm => (HR.out.1 k hk).2 hm) HR.out.1).flat' X3 (fun k hk => (HR.out.1 k hk).1) (fun k hk => ⟨(HR.out.1 k hk).1, fun he => ?_⟩)
    rcases F2.out with hf | hf
    · exact (HR.out.1 k hk).2 (by rw [he, hf])
    · have h1 := hf k he.symm; have h2 := (HR.out.own k hk).2; simp at h1; omega

/-- what a closure answers that a checker asks for peers: new peers, as they are told -/
def AskAns (ps : List CkD) (W : World) (e : Ending) (W' : World) : Prop := ∃ v', e = .returned v' ∧ OwnP Rp.pp W' (fun k => W.heap.size ≤ k) W.heap.size 94 v' ps ∧ Ext W W'
set_option maxRecDepth 20000 in
theorem clo35 (c : Nat) (ps : List CkD) (v r : Value) (w : World) (K : Blk w c 59 [v]) (h : (Rp.slice Rp.pe).K w any ps [v]) (hl : ps.length ≤ 1000) :
    Calls Try.prog 35 #[r, .pointer (some ⟨c, 0, none⟩)] w (AskAns ps w) := by
  have c0 := K.cell (o := 0) rfl
  have HH := Lib.hid h
  obtain ⟨A, cap, hv, _⟩ := id h
  simp only [List.cons.injEq, and_true] at hv
  subst hv
  clear h
  go_enter Try.func35, Try.ntmps35
  go_wp2_with fail
  refine (zzPeers_any ps _ w HH.out hl).mono ?_
  rintro e w1 ⟨v', rfl, ho, e1⟩
  have HO := Lib.hid ho
  clear ho
  obtain ⟨A2, n2, cap2, rfl⟩ := own_shape HO.out
  go_wp2
  go_ret
  exact ⟨_, rfl, HO.out, e1⟩
set_option maxRecDepth 20000 in
theorem clo37 (c : Nat) (ps : List CkD) (v r : Value) (w : World) (K : Blk w c 59 [v]) (h : (Rp.slice Rp.pe).K w any ps [v]) (hl : ps.length ≤ 1000) :
    Calls Try.prog 37 #[r, .pointer (some ⟨c, 0, none⟩)] w (AskAns ps w) := by
  have c0 := K.cell (o := 0) rfl
  have HH := Lib.hid h
  obtain ⟨A, cap, hv, _⟩ := id h
  simp only [List.cons.injEq, and_true] at hv
  subst hv
  clear h
  go_enter Try.func37, Try.ntmps37
  go_wp2_with fail
  refine (zzPeers_any ps _ w HH.out hl).mono ?_
  rintro e w1 ⟨v', rfl, ho, e1⟩
  have HO := Lib.hid ho
  clear ho
  obtain ⟨A2, n2, cap2, rfl⟩ := own_shape HO.out
  go_wp2
  go_ret
  exact ⟨_, rfl, HO.out, e1⟩

set_option maxRecDepth 20000 in
set_option maxHeartbeats 2000000 in
/-- the peers are asked -/
theorem ask35 (b B : Nat) (x : HSt) (al rl : List Int) (rev : Int) (c : Nat) (ps : List CkD) (w : World) (h : HAt w b B x al rl) (hl : rl.length ≤ 1000) (hfn : x.fn = .func (.func 35) #[] #[.pointer (some ⟨c, 0, none⟩)])
    (hf : ∀ W, ExtX (HPriv b x) w W → Calls Try.prog 35 #[.int .i64 rev, .pointer (some ⟨c, 0, none⟩)] W (AskAns ps W)) :
    Calls Try.prog 94 #[.pointer (some ⟨b, 0, none⟩), .int .i64 rev] w fun e w' => ∃ vr v', e = .returned v' ∧ HAt w' b B { x with revs := vr } al (rl ++ [rev]) ∧ OwnP Rp.pp w' (fun k => w.heap.size ≤ k ∧ ¬ HPriv b { x with revs := vr } k) w.heap.size 94 v' ps ∧
      ExtX (HPriv b x) w w' ∧ ∀ k, HPriv b { x with revs := vr } k → HPriv b x k ∨ w.heap.size ≤ k := by
  obtain ⟨i0, hi, hz0, hz1, hz2⟩ := info_parts3 infoI64
  have hpriv := Lib.hid (fun k (hk : HPriv b x k) => h.priv hk)
  obtain ⟨K, oal, own, lb⟩ := h
  have HF := Lib.hid hf
  have hbl := K.lt
  have E0 : Ext w (w.alloc (.cells #[.int .i64 rev] 2)) := (Ext.refl w).alloc _
  have H1 := Lib.hid (own.ext E0)
  have HA := Lib.hid own
  have HR := Lib.hid oal
  have c12 := K.cell (o := 12) rfl
  have c9 : w.cell? ⟨b, 9, none⟩ = some (.func (.func 35) #[] #[.pointer (some ⟨c, 0, none⟩)]) := by rw [← hfn]; exact K.cell (o := 9) rfl
  have HFN := Lib.hid hfn
  have HK := Lib.hid K
  clear own oal K hf hfn
  go_enter Try.func94, Try.ntmps94
  go_wp2_with (at_builtin; refine wpList_app (d := Rp.i64) (base := B) rfl (.tmp 9) (.tmp 11) 27 rfl 2 i0 _ 8 Try.underlying27 hi hz0 hz1 hz2 rfl (v := x.revs) rfl H1.out (fun q hq => ⟨by simp at hq; omega, fun he => by (have h2 := (HR.out.own q he.symm).2; simp at hq; omega)⟩) ⟨w.heap.size, 0, none⟩ 1 [.int .i64 rev] [rev] rfl rfl (lit_at _ _ _ _ (by simp)) (one_elem (p := fun i y => (Rp.i64).K _ (fun q => (q ≠ b ∧ some q ≠ x.alarms.ownBlock) ∧ some q ≠ Value.ownBlock x.revs) y (([.int .i64 rev].drop (i * (Rp.i64).sz)).take (Rp.i64).sz)) ⟨rfl,trivial⟩) (by simp [maxLen]; omega) (by simp; omega) (by simp; omega) ?_; intro v2 w2 own2 g2 f2; have O2 := Lib.hid own2; have G2 := Lib.hid g2; have F2 := Lib.hid f2; clear own2 g2 f2; obtain ⟨A2, n2, cap2, rfl⟩ := own_shape O2.out; (have X2 : ExtX (fun j => some j = x.revs.ownBlock) w w2 := (E0.toX _).grown G2.out (fun k h => h.symm); have K2 := HK.out.extX X2 (fun h => (HA.out.1 b h.symm).1 rfl); have f12 := K2.frozen 12; have c12b := K2.cell (o := 12) rfl; have c9b : w2.cell? ⟨b, 9, none⟩ = some (.func (.func 35) #[] #[.pointer (some ⟨c, 0, none⟩)]) := (K2.cell (o := 9) rfl).trans (congrArg some HFN.out); have b2 := K2.lt; have HK2 := Lib.hid K2; clear K2))
  obtain ⟨W, hW⟩ : ∃ W, W = w2.setCell ⟨b, 12, none⟩ (.slice A2 n2 cap2) := ⟨_, rfl⟩
  have X3 : ExtX (fun j => j = b) w2 W := by rw [hW]; exact ExtX.setCell (M := fun j => j = b) (ExtX.refl _ w2) (p := ⟨b, 12, none⟩) rfl _
  have KW : Blk W b 73 (hstCells { x with revs := .slice A2 n2 cap2 }) := by rw [hW]; exact HK2.out.setCell 12 _
  change Calls _ _ _ (w2.setCell ⟨b, 12, none⟩ (.slice A2 n2 cap2)) _
  rw [← hW]
  clear hW
  have XW : ExtX (HPriv b x) w W := (X2.mono (fun _ _ h => .inr (.inr h))).trans' X3 (fun _ _ h => .inl h)
  have hnew : ∀ k, (Value.slice A2 n2 cap2).ownBlock = some k → HPriv b x k ∨ w.heap.size ≤ k := fun k hk => by
    rcases F2.out with hf | hf
    · exact .inl (.inr (.inr (by rw [← hf, hk])))
    · have := hf k hk; exact .inr (by simp at this; omega)
  have HW : HAt W b B { x with revs := .slice A2 n2 cap2 } al (rl ++ [rev]) := by
    refine ⟨KW, ?_, O2.out.flat' X3 (fun k hk => (O2.out.1 k hk).1) O2.out.1, lb⟩
    refine (HR.out.flat' X2 (fun k hk hm => (HR.out.1 k hk).2 hm) HR.out.1).flat' X3 (fun k hk => (HR.out.1 k hk).1) (fun k hk => ⟨(HR.out.1 k hk).1, fun he => ?_⟩)
    rcases F2.out with hf | hf
    · exact (HR.out.1 k hk).2 (by rw [he, hf])
    · have h1 := hf k he.symm; have h2 := (HR.out.own k hk).2; simp at h1; omega
  have HHW := Lib.hid HW
  have HN := Lib.hid hnew
  clear HW hnew
  refine (HF.out W XW).mono ?_
  rintro e w3 ⟨v', rfl, ho, e3⟩
  have HO := Lib.hid ho
  clear ho
  obtain ⟨A4, n4, cap4, rfl⟩ := own_shape HO.out
  go_wp2
  go_ret
  have hWs := XW.size
  refine ⟨_, _, rfl, HHW.out.ext e3, ?_, XW.trans (e3.toX _), fun k hk => ?_⟩
  · refine HO.out.turn' (fun k hk _ => ?_) (by omega)
    have hk : W.heap.size ≤ k := hk
    exact ⟨by omega, fun hp => by have := (HHW.out.priv hp).2; omega⟩
  · rcases hk with rfl | hk | hk
    · exact .inl (.inl rfl)
    · exact .inl (.inr (.inl hk))
    · exact HN.out k hk.symm
set_option maxRecDepth 20000 in
set_option maxHeartbeats 2000000 in
/-- the peers are asked -/
theorem ask37 (b B : Nat) (x : HSt) (al rl : List Int) (rev : Int) (c : Nat) (ps : List CkD) (w : World) (h : HAt w b B x al rl) (hl : rl.length ≤ 1000) (hfn : x.fn = .func (.func 37) #[] #[.pointer (some ⟨c, 0, none⟩)])
    (hf : ∀ W, ExtX (HPriv b x) w W → Calls Try.prog 37 #[.int .i64 rev, .pointer (some ⟨c, 0, none⟩)] W (AskAns ps W)) :
    Calls Try.prog 94 #[.pointer (some ⟨b, 0, none⟩), .int .i64 rev] w fun e w' => ∃ vr v', e = .returned v' ∧ HAt w' b B { x with revs := vr } al (rl ++ [rev]) ∧ OwnP Rp.pp w' (fun k => w.heap.size ≤ k ∧ ¬ HPriv b { x with revs := vr } k) w.heap.size 94 v' ps ∧
      ExtX (HPriv b x) w w' ∧ ∀ k, HPriv b { x with revs := vr } k → HPriv b x k ∨ w.heap.size ≤ k := by
  obtain ⟨i0, hi, hz0, hz1, hz2⟩ := info_parts3 infoI64
  have hpriv := Lib.hid (fun k (hk : HPriv b x k) => h.priv hk)
  obtain ⟨K, oal, own, lb⟩ := h
  have HF := Lib.hid hf
  have hbl := K.lt
  have E0 : Ext w (w.alloc (.cells #[.int .i64 rev] 2)) := (Ext.refl w).alloc _
  have H1 := Lib.hid (own.ext E0)
  have HA := Lib.hid own
  have HR := Lib.hid oal
  have c12 := K.cell (o := 12) rfl
  have c9 : w.cell? ⟨b, 9, none⟩ = some (.func (.func 37) #[] #[.pointer (some ⟨c, 0, none⟩)]) := by rw [← hfn]; exact K.cell (o := 9) rfl
  have HFN := Lib.hid hfn
  have HK := Lib.hid K
  clear own oal K hf hfn
  go_enter Try.func94, Try.ntmps94
  go_wp2_with (at_builtin; refine wpList_app (d := Rp.i64) (base := B) rfl (.tmp 9) (.tmp 11) 27 rfl 2 i0 _ 8 Try.underlying27 hi hz0 hz1 hz2 rfl (v := x.revs) rfl H1.out (fun q hq => ⟨by simp at hq; omega, fun he => by (have h2 := (HR.out.own q he.symm).2; simp at hq; omega)⟩) ⟨w.heap.size, 0, none⟩ 1 [.int .i64 rev] [rev] rfl rfl (lit_at _ _ _ _ (by simp)) (one_elem (p := fun i y => (Rp.i64).K _ (fun q => (q ≠ b ∧ some q ≠ x.alarms.ownBlock) ∧ some q ≠ Value.ownBlock x.revs) y (([.int .i64 rev].drop (i * (Rp.i64).sz)).take (Rp.i64).sz)) ⟨rfl,trivial⟩) (by simp [maxLen]; omega) (by simp; omega) (by simp; omega) ?_; intro v2 w2 own2 g2 f2; have O2 := Lib.hid own2; have G2 := Lib.hid g2; have F2 := Lib.hid f2; clear own2 g2 f2; obtain ⟨A2, n2, cap2, rfl⟩ := own_shape O2.out; (have X2 : ExtX (fun j => some j = x.revs.ownBlock) w w2 := (E0.toX _).grown G2.out (fun k h => h.symm); have K2 := HK.out.extX X2 (fun h => (HA.out.1 b h.symm).1 rfl); have f12 := K2.frozen 12; have c12b := K2.cell (o := 12) rfl; have c9b : w2.cell? ⟨b, 9, none⟩ = some (.func (.func 37) #[] #[.pointer (some ⟨c, 0, none⟩)]) := (K2.cell (o := 9) rfl).trans (congrArg some HFN.out); have b2 := K2.lt; have HK2 := Lib.hid K2; clear K2))
  obtain ⟨W, hW⟩ : ∃ W, W = w2.setCell ⟨b, 12, none⟩ (.slice A2 n2 cap2) := ⟨_, rfl⟩
  have X3 : ExtX (fun j => j = b) w2 W := by rw [hW]; exact ExtX.setCell (M := fun j => j = b) (ExtX.refl _ w2) (p := ⟨b, 12, none⟩) rfl _
  have KW : Blk W b 73 (hstCells { x with revs := .slice A2 n2 cap2 }) := by rw [hW]; exact HK2.out.setCell 12 _
  change Calls _ _ _ (w2.setCell ⟨b, 12, none⟩ (.slice A2 n2 cap2)) _
  rw [← hW]
  clear hW
  have XW : ExtX (HPriv b x) w W := (X2.mono (fun _ _ h => .inr (.inr h))).trans' X3 (fun _ _ h => .inl h)
  have hnew : ∀ k, (Value.slice A2 n2 cap2).ownBlock = some k → HPriv b x k ∨ w.heap.size ≤ k := fun k hk => by
    rcases F2.out with hf | hf
    · exact .inl (.inr (.inr (by rw [← hf, hk])))
    · have := hf k hk; exact .inr (by simp at this; omega)
  have HW : HAt W b B { x with revs := .slice A2 n2 cap2 } al (rl ++ [rev]) := by
    refine ⟨KW, ?_, O2.out.flat' X3 (fun k hk => (O2.out.1 k hk).1) O2.out.1, lb⟩
    refine (HR.out.flat' X2 (fun k hk hm => (HR.out.1 k hk).2 hm) HR.out.1).flat' X3 (fun k hk => (HR.out.1 k hk).1) (fun k hk => ⟨(HR.out.1 k hk).1, fun he => ?_⟩)
    rcases F2.out with hf | hf
    · exact (HR.out.1 k hk).2 (by rw [he, hf])
    · have h1 := hf k he.symm; have h2 := (HR.out.own k hk).2; simp at h1; omega
  have HHW := Lib.hid HW
  have HN := Lib.hid hnew
  clear HW hnew
  refine (HF.out W XW).mono ?_
  rintro e w3 ⟨v', rfl, ho, e3⟩
  have HO := Lib.hid ho
  clear ho
  obtain ⟨A4, n4, cap4, rfl⟩ := own_shape HO.out
  go_wp2
  go_ret
  have hWs := XW.size
  refine ⟨_, _, rfl, HHW.out.ext e3, ?_, XW.trans (e3.toX _), fun k hk => ?_⟩
  · refine HO.out.turn' (fun k hk _ => ?_) (by omega)
    have hk : W.heap.size ≤ k := hk
    exact ⟨by omega, fun hp => by have := (HHW.out.priv hp).2; omega⟩
  · rcases hk with rfl | hk | hk
    · exact .inl (.inl rfl)
    · exact .inl (.inr (.inl hk))
    · exact HN.out k hk.symm
set_option maxRecDepth 20000 in
set_option maxHeartbeats 2000000 in
/-- the peers are asked -/
theorem ask29 (b B : Nat) (x : HSt) (al rl : List Int) (rev : Int) (c : Nat) (ps : List CkD) (w : World) (h : HAt w b B x al rl) (hl : rl.length ≤ 1000) (hfn : x.fn = .func (.func 29) #[] #[.pointer (some ⟨c, 0, none⟩)])
    (hf : ∀ W, ExtX (HPriv b x) w W → Calls Try.prog 29 #[.int .i64 rev, .pointer (some ⟨c, 0, none⟩)] W (AskAns ps W)) :
    Calls Try.prog 94 #[.pointer (some ⟨b, 0, none⟩), .int .i64 rev] w fun e w' => ∃ vr v', e = .returned v' ∧ HAt w' b B { x with revs := vr } al (rl ++ [rev]) ∧ OwnP Rp.pp w' (fun k => w.heap.size ≤ k ∧ ¬ HPriv b { x with revs := vr } k) w.heap.size 94 v' ps ∧
      ExtX (HPriv b x) w w' ∧ ∀ k, HPriv b { x with revs := vr } k → HPriv b x k ∨ w.heap.size ≤ k := by
  obtain ⟨i0, hi, hz0, hz1, hz2⟩ := info_parts3 infoI64
  have hpriv := Lib.hid (fun k (hk : HPriv b x k) => h.priv hk)
  obtain ⟨K, oal, own, lb⟩ := h
  have HF := Lib.hid hf
  have hbl := K.lt
  have E0 : Ext w (w.alloc (.cells #[.int .i64 rev] 2)) := (Ext.refl w).alloc _
  have H1 := Lib.hid (own.ext E0)
  have HA := Lib.hid own
  have HR := Lib.hid oal
  have c12 := K.cell (o := 12) rfl
  have c9 : w.cell? ⟨b, 9, none⟩ = some (.func (.func 29) #[] #[.pointer (some ⟨c, 0, none⟩)]) := by rw [← hfn]; exact K.cell (o := 9) rfl
  have HFN := Lib.hid hfn
  have HK := Lib.hid K
  clear own oal K hf hfn
  go_enter Try.func94, Try.ntmps94
  go_wp2_with (at_builtin; refine wpList_app (d := Rp.i64) (base := B) rfl (.tmp 9) (.tmp 11) 27 rfl 2 i0 _ 8 Try.underlying27 hi hz0 hz1 hz2 rfl (v := x.revs) rfl H1.out (fun q hq => ⟨by simp at hq; omega, fun he => by (have h2 := (HR.out.own q he.symm).2; simp at hq; omega)⟩) ⟨w.heap.size, 0, none⟩ 1 [.int .i64 rev] [rev] rfl rfl (lit_at _ _ _ _ (by simp)) (one_elem (p := fun i y => (Rp.i64).K _ (fun q => (q ≠ b ∧ some q ≠ x.alarms.ownBlock) ∧ some q ≠ Value.ownBlock x.revs) y (([.int .i64 rev].drop (i * (Rp.i64).sz)).take (Rp.i64).sz)) ⟨rfl,trivial⟩) (by simp [maxLen]; omega) (by simp; omega) (by simp; omega) ?_; intro v2 w2 own2 g2 f2; have O2 := Lib.hid own2; have G2 := Lib.hid g2; have F2 := Lib.hid f2; clear own2 g2 f2; obtain ⟨A2, n2, cap2, rfl⟩ := own_shape O2.out; (have X2 : ExtX (fun j => some j = x.revs.ownBlock) w w2 := (E0.toX _).grown G2.out (fun k h => h.symm); have K2 := HK.out.extX X2 (fun h => (HA.out.1 b h.symm).1 rfl); have f12 := K2.frozen 12; have c12b := K2.cell (o := 12) rfl; have c9b : w2.cell? ⟨b, 9, none⟩ = some (.func (.func 29) #[] #[.pointer (some ⟨c, 0, none⟩)]) := (K2.cell (o := 9) rfl).trans (congrArg some HFN.out); have b2 := K2.lt; have HK2 := Lib.hid K2; clear K2))
  obtain ⟨W, hW⟩ : ∃ W, W = w2.setCell ⟨b, 12, none⟩ (.slice A2 n2 cap2) := ⟨_, rfl⟩
  have X3 : ExtX (fun j => j = b) w2 W := by rw [hW]; exact ExtX.setCell (M := fun j => j = b) (ExtX.refl _ w2) (p := ⟨b, 12, none⟩) rfl _
  have KW : Blk W b 73 (hstCells { x with revs := .slice A2 n2 cap2 }) := by rw [hW]; exact HK2.out.setCell 12 _
  change Calls _ _ _ (w2.setCell ⟨b, 12, none⟩ (.slice A2 n2 cap2)) _
  rw [← hW]
  clear hW
  have XW : ExtX (HPriv b x) w W := (X2.mono (fun _ _ h => .inr (.inr h))).trans' X3 (fun _ _ h => .inl h)
  have hnew : ∀ k, (Value.slice A2 n2 cap2).ownBlock = some k → HPriv b x k ∨ w.heap.size ≤ k := fun k hk => by
    rcases F2.out with hf | hf
    · exact .inl (.inr (.inr (by rw [← hf, hk])))
    · have := hf k hk; exact .inr (by simp at this; omega)
  have HW : HAt W b B { x with revs := .slice A2 n2 cap2 } al (rl ++ [rev]) := by
    refine ⟨KW, ?_, O2.out.flat' X3 (fun k hk => (O2.out.1 k hk).1) O2.out.1, lb⟩
    refine (HR.out.flat' X2 (fun k hk hm => (HR.out.1 k hk).2 hm) HR.out.1).flat' X3 (fun k hk => (HR.out.1 k hk).1) (fun k hk => ⟨(HR.out.1 k hk).1, fun he => ?_⟩)
    rcases F2.out with hf | hf
    · exact (HR.out.1 k hk).2 (by rw [he, hf])
    · have h1 := hf k he.symm; have h2 := (HR.out.own k hk).2; simp at h1; omega
  have HHW := Lib.hid HW
  have HN := Lib.hid hnew
  clear HW hnew
  refine (HF.out W XW).mono ?_
  rintro e w3 ⟨v', rfl, ho, e3⟩
  have HO := Lib.hid ho
  clear ho
  obtain ⟨A4, n4, cap4, rfl⟩ := own_shape HO.out
  go_wp2
  go_ret
  have hWs := XW.size
  refine ⟨_, _, rfl, HHW.out.ext e3, ?_, XW.trans (e3.toX _), fun k hk => ?_⟩
  · refine HO.out.turn' (fun k hk _ => ?_) (by omega)
    have hk : W.heap.size ≤ k := hk
    exact ⟨by omega, fun hp => by have := (HHW.out.priv hp).2; omega⟩
  · rcases hk with rfl | hk | hk
    · exact .inl (.inl rfl)
    · exact .inl (.inr (.inl hk))
    · exact HN.out k hk.symm

set_option maxRecDepth 20000 in
theorem memberID_any (b B : Nat) (x : HSt) (al rl : List Int) (w : World) (h : HAt w b B x al rl) :
    Calls Try.prog 93 #[.pointer (some ⟨b, 0, none⟩)] w fun e w' => e = .returned (.int .u64 x.own) ∧ w = w' := by
  have c8 := h.blk.cell (o := 8) rfl
  have H := Lib.hid h
  clear h
  go_enter Try.func93, Try.ntmps93
  go_wp2
  go_ret
  exact ⟨rfl, rfl⟩
set_option maxRecDepth 20000 in
theorem notify_any (b : Nat) (u : Value) (w : World) :
    Calls Try.prog 92 #[.pointer (some ⟨b, 0, none⟩), u] w fun e w' => e = .returned .nilIface ∧ w = w' := by
  go_enter Try.func92, Try.ntmps92
  go_wp2
  go_ret
  exact ⟨rfl, rfl⟩
noncomputable def ops_90_3 : Array Oper := opsAt Try.f90 3
noncomputable def ops_90_4 : Array Oper := opsAt Try.f90 4
def hashNow (x : HSt) : HsD := if 0 < x.asked then x.s else x.f
set_option maxRecDepth 20000 in
set_option maxHeartbeats 2000000 in
/-- the hash is asked for: the first time the first one, then the second one -/
theorem hashBy_any (b B : Nat) (x : HSt) (al rl : List Int) (r : Int) (w : World) (h : HAt w b B x al rl) (ha : 0 ≤ x.asked) (hb : x.asked ≤ 10) :
    Calls Try.prog 90 #[.pointer (some ⟨b, 0, none⟩), .int .i64 r] w fun e w' => e = .returned (.tuple #[hsV (hashNow x), .int .i64 x.rev2, .nilIface]) ∧ HAt w' b B { x with asked := x.asked + 1 } al rl ∧ ExtX (fun k => k = b) w w' := by
  have hbl := h.lt
  have c7 := h.blk.cell (o := 7) rfl
  have f7 := h.blk.frozen 7
  have HH := Lib.hid h
  clear h
  have key : ∀ we W : World, ExtX (fun k => k = b) w W → ExtX (fun k => k = w.heap.size) W we → Blk W b 73 (hstCells { x with asked := x.asked + 1 }) → HAt we b B { x with asked := x.asked + 1 } al rl ∧ ExtX (fun k => k = b) w we := by
    intro we W X1 xe KW
    have X2 : ExtX (fun k => k = b ∨ k = w.heap.size) w we := (X1.mono fun k _ h => .inl h).trans (xe.mono fun k _ h => .inr h)
    refine ⟨⟨KW.extX xe (by show b ≠ w.heap.size; omega), HH.out.al.flat' X2 (fun k hk hm => ?_) HH.out.al.1, HH.out.rl.flat' X2 (fun k hk hm => ?_) HH.out.rl.1, HH.out.lb⟩, X2.mono (fun k hk hm => ?_)⟩
    · rcases hm with rfl | rfl
      · exact (HH.out.al.1 _ hk).1 rfl
      · have := (HH.out.al.own _ hk).2; omega
    · rcases hm with rfl | rfl
      · exact (HH.out.rl.1 _ hk).1 rfl
      · have := (HH.out.rl.own _ hk).2; omega
    · rcases hm with hm | hm
      · exact hm
      · omega
  have HKEY := Lib.hid key
  clear key
  cases hd : decide (1 < x.asked + 1) with
  | true =>
    have hif : Hid (hashNow x = x.s) := Lib.hid (if_pos (by have := of_decide_eq_true hd; omega))
    replace hd := Lib.hid hd
    go_enter Try.func90, Try.ntmps90
    have hq := hd.out
    go_wp2_with fail
    clear hq
    have XS : ExtX (fun k => k = b) w (w.setCell ⟨b, 7, none⟩ (.int .i64 (x.asked + 1))) := ExtX.setCell (M := fun j => j = b) (ExtX.refl _ _) (p := ⟨b, 7, none⟩) rfl _
    obtain ⟨W, hW⟩ : ∃ W, W = (w.setCell ⟨b, 7, none⟩ (.int .i64 (x.asked + 1))).alloc (.cells #[.int .u32 0, .int .i64 0, .int .i64 0] 55) := ⟨_, rfl⟩
    have X1 : ExtX (fun k => k = b) w W := by rw [hW]; exact XS.alloc _
    have KW : Blk W b 73 (hstCells { x with asked := x.asked + 1 }) := by rw [hW]; exact (HH.out.blk.setCell 7 _).ext ((Ext.refl _).alloc _)
    have KR : Blk W w.heap.size 55 [.int .u32 0, .int .i64 0, .int .i64 0] := by rw [hW]; exact blk_at _ _ _ _ (by simp [World.setCell])
    change Code.wp _ _ _ _ ((w.setCell ⟨b, 7, none⟩ (.int .i64 (x.asked + 1))).alloc (.cells #[.int .u32 0, .int .i64 0, .int .i64 0] 55))
    rw [← hW]
    clear hW c7 f7
    have HKW := Lib.hid KW
    have d0 := KW.cell (o := 3) rfl
    have d1 := KW.cell (o := 4) rfl
    have d2 := KW.cell (o := 5) rfl
    have d3 := KW.cell (o := 6) rfl
    have hne : b ≠ w.heap.size := by omega
    refine wp_region_sched (ops := ops_90_3) (ExtX (fun k => k = w.heap.size)) [] (.quiet 0 (.quiet 1 (.quiet 2 (.quiet 3 (.quiet 4 (.quiet 5 (.quiet 6 (.quiet 7 (.loud 8 (.quiet 9 (.quiet 10 (.done))) (.stop)))))))))) (by kernel_rfl) (ExtX.refl (fun k => k = w.heap.size)) (fun _ _ _ => ExtX.trans) (by kernel_rfl) (fun _ _ d _ _ h => by cases d <;> exact h) ?_
    refine wpS_quiet (some 19) { dst := some 19, op := Op.move (Operand.tmp 0), type := _, pos := _, after := _, guard := none } _ rfl rfl (by rfl) (fun wE hE => by (go_simp; try with_reducible rfl)) ?_; simp only [Act.put, List.setIfInBounds_toArray, List.set_cons_zero, List.set_cons_succ]
    refine wpS_quiet (some 20) { dst := some 20, op := Op.nilCheck (Operand.tmp 19), type := _, pos := _, after := _, guard := none } _ rfl rfl (by rfl) (fun wE hE => by (go_simp; try with_reducible rfl)) ?_; simp only [Act.put, List.setIfInBounds_toArray, List.set_cons_zero, List.set_cons_succ]
    refine wpS_quiet (some 21) { dst := some 21, op := Op.fieldAddr 73 (Operand.tmp 20) 1, type := _, pos := _, after := _, guard := none } _ rfl rfl (by rfl) (fun wE hE => by (go_simp; try with_reducible rfl)) ?_; simp only [Act.put, List.setIfInBounds_toArray, List.set_cons_zero, List.set_cons_succ]
    refine wpS_quiet (some 22) { dst := some 22, op := Op.load 55 (Operand.tmp 21), type := _, pos := _, after := _, guard := none } _ rfl rfl (by rfl) (fun wE hE => by (have zk0 := hE.cellS hne d0; have zk1 := hE.cellS hne d1; have zk2 := hE.cellS hne d2; have zk3 := hE.cellS hne d3; go_simp; try with_reducible rfl)) ?_; simp only [Act.put, List.setIfInBounds_toArray, List.set_cons_zero, List.set_cons_succ]
    refine wpS_quiet (some 23) { dst := some 23, op := Op.move (Operand.tmp 0), type := _, pos := _, after := _, guard := none } _ rfl rfl (by rfl) (fun wE hE => by (go_simp; try with_reducible rfl)) ?_; simp only [Act.put, List.setIfInBounds_toArray, List.set_cons_zero, List.set_cons_succ]
    refine wpS_quiet (some 24) { dst := some 24, op := Op.nilCheck (Operand.tmp 23), type := _, pos := _, after := _, guard := none } _ rfl rfl (by rfl) (fun wE hE => by (go_simp; try with_reducible rfl)) ?_; simp only [Act.put, List.setIfInBounds_toArray, List.set_cons_zero, List.set_cons_succ]
    refine wpS_quiet (some 25) { dst := some 25, op := Op.fieldAddr 73 (Operand.tmp 24) 2, type := _, pos := _, after := _, guard := none } _ rfl rfl (by rfl) (fun wE hE => by (go_simp; try with_reducible rfl)) ?_; simp only [Act.put, List.setIfInBounds_toArray, List.set_cons_zero, List.set_cons_succ]
    refine wpS_quiet (some 26) { dst := some 26, op := Op.load 2 (Operand.tmp 25), type := _, pos := _, after := _, guard := none } _ rfl rfl (by rfl) (fun wE hE => by (have zk0 := hE.cellS hne d0; have zk1 := hE.cellS hne d1; have zk2 := hE.cellS hne d2; have zk3 := hE.cellS hne d3; go_simp; try with_reducible rfl)) ?_; simp only [Act.put, List.setIfInBounds_toArray, List.set_cons_zero, List.set_cons_succ]
    refine wpS_storeL none { dst := none, op := Op.store 55 (Operand.tmp 4) (Operand.tmp 22), type := _, pos := _, after := _, guard := none } rfl rfl (by rfl) (.tmp 4) (.tmp 22) 55 rfl rfl rfl rfl KR rfl (Nat.le_refl 3) rfl (fun w' x => x) ?_ trivial
    intro we Ke xe
    simp only [Act.put, List.setIfInBounds_toArray, List.set_cons_zero, List.set_cons_succ]
    refine wpS_quiet (some 5) { dst := some 5, op := Op.assign (Operand.tmp 26), type := _, pos := _, after := _, guard := none } _ rfl rfl (by rfl) (fun wE hE => by (go_simp; try with_reducible rfl)) ?_; simp only [Act.put, List.setIfInBounds_toArray, List.set_cons_zero, List.set_cons_succ]
    refine wpS_quiet (some 6) { dst := some 6, op := Op.assign (Operand.const Value.nilIface), type := _, pos := _, after := _, guard := none } _ rfl rfl (by rfl) (fun wE hE => by (go_simp; try with_reducible rfl)) ?_; simp only [Act.put, List.setIfInBounds_toArray, List.set_cons_zero, List.set_cons_succ]
    change Exit.then _ _ _ _ _
    have r0 := Ke.cell (o := 0) rfl
    have r1 := Ke.cell (o := 1) rfl
    have r2 := Ke.cell (o := 2) rfl
    have HE := Lib.hid xe
    have HX1 := Lib.hid X1
    clear xe X1 d0 d1 d2 d3 KW KR Ke
    go_wp2
    refine bodyPost_ret (v := .tuple #[hsV x.s, .int .i64 x.rev2, .nilIface]) (by simp [results, Try.results90, go_sem, r0, r1, r2]) rfl ⟨?_, ?_, ?_⟩
    · rw [hif.out]
    · exact (HKEY.out _ _ HX1.out HE.out HKW.out).1
    · exact (HKEY.out _ _ HX1.out HE.out HKW.out).2
  | false =>
    have hif : Hid (hashNow x = x.f) := Lib.hid (if_neg (by have := of_decide_eq_false hd; omega))
    replace hd := Lib.hid hd
    go_enter Try.func90, Try.ntmps90
    have hq := hd.out
    go_wp2_with fail
    clear hq
    have XS : ExtX (fun k => k = b) w (w.setCell ⟨b, 7, none⟩ (.int .i64 (x.asked + 1))) := ExtX.setCell (M := fun j => j = b) (ExtX.refl _ _) (p := ⟨b, 7, none⟩) rfl _
    obtain ⟨W, hW⟩ : ∃ W, W = (w.setCell ⟨b, 7, none⟩ (.int .i64 (x.asked + 1))).alloc (.cells #[.int .u32 0, .int .i64 0, .int .i64 0] 55) := ⟨_, rfl⟩
    have X1 : ExtX (fun k => k = b) w W := by rw [hW]; exact XS.alloc _
    have KW : Blk W b 73 (hstCells { x with asked := x.asked + 1 }) := by rw [hW]; exact (HH.out.blk.setCell 7 _).ext ((Ext.refl _).alloc _)
    have KR : Blk W w.heap.size 55 [.int .u32 0, .int .i64 0, .int .i64 0] := by rw [hW]; exact blk_at _ _ _ _ (by simp [World.setCell])
    change Code.wp _ _ _ _ ((w.setCell ⟨b, 7, none⟩ (.int .i64 (x.asked + 1))).alloc (.cells #[.int .u32 0, .int .i64 0, .int .i64 0] 55))
    rw [← hW]
    clear hW c7 f7
    have HKW := Lib.hid KW
    have d0 := KW.cell (o := 0) rfl
    have d1 := KW.cell (o := 1) rfl
    have d2 := KW.cell (o := 2) rfl
    have d3 := KW.cell (o := 6) rfl
    have hne : b ≠ w.heap.size := by omega
    refine wp_region_sched (ops := ops_90_4) (ExtX (fun k => k = w.heap.size)) [] (.quiet 0 (.quiet 1 (.quiet 2 (.quiet 3 (.quiet 4 (.quiet 5 (.quiet 6 (.quiet 7 (.loud 8 (.quiet 9 (.quiet 10 (.done))) (.stop)))))))))) (by kernel_rfl) (ExtX.refl (fun k => k = w.heap.size)) (fun _ _ _ => ExtX.trans) (by kernel_rfl) (fun _ _ d _ _ h => by cases d <;> exact h) ?_
    refine wpS_quiet (some 27) { dst := some 27, op := Op.move (Operand.tmp 0), type := _, pos := _, after := _, guard := none } _ rfl rfl (by rfl) (fun wE hE => by (go_simp; try with_reducible rfl)) ?_; simp only [Act.put, List.setIfInBounds_toArray, List.set_cons_zero, List.set_cons_succ]
    refine wpS_quiet (some 28) { dst := some 28, op := Op.nilCheck (Operand.tmp 27), type := _, pos := _, after := _, guard := none } _ rfl rfl (by rfl) (fun wE hE => by (go_simp; try with_reducible rfl)) ?_; simp only [Act.put, List.setIfInBounds_toArray, List.set_cons_zero, List.set_cons_succ]
    refine wpS_quiet (some 29) { dst := some 29, op := Op.fieldAddr 73 (Operand.tmp 28) 0, type := _, pos := _, after := _, guard := none } _ rfl rfl (by rfl) (fun wE hE => by (go_simp; try with_reducible rfl)) ?_; simp only [Act.put, List.setIfInBounds_toArray, List.set_cons_zero, List.set_cons_succ]
    refine wpS_quiet (some 30) { dst := some 30, op := Op.load 55 (Operand.tmp 29), type := _, pos := _, after := _, guard := none } _ rfl rfl (by rfl) (fun wE hE => by (have zk0 := hE.cellS hne d0; have zk1 := hE.cellS hne d1; have zk2 := hE.cellS hne d2; have zk3 := hE.cellS hne d3; go_simp; try with_reducible rfl)) ?_; simp only [Act.put, List.setIfInBounds_toArray, List.set_cons_zero, List.set_cons_succ]
    refine wpS_quiet (some 31) { dst := some 31, op := Op.move (Operand.tmp 0), type := _, pos := _, after := _, guard := none } _ rfl rfl (by rfl) (fun wE hE => by (go_simp; try with_reducible rfl)) ?_; simp only [Act.put, List.setIfInBounds_toArray, List.set_cons_zero, List.set_cons_succ]
    refine wpS_quiet (some 32) { dst := some 32, op := Op.nilCheck (Operand.tmp 31), type := _, pos := _, after := _, guard := none } _ rfl rfl (by rfl) (fun wE hE => by (go_simp; try with_reducible rfl)) ?_; simp only [Act.put, List.setIfInBounds_toArray, List.set_cons_zero, List.set_cons_succ]
    refine wpS_quiet (some 33) { dst := some 33, op := Op.fieldAddr 73 (Operand.tmp 32) 2, type := _, pos := _, after := _, guard := none } _ rfl rfl (by rfl) (fun wE hE => by (go_simp; try with_reducible rfl)) ?_; simp only [Act.put, List.setIfInBounds_toArray, List.set_cons_zero, List.set_cons_succ]
    refine wpS_quiet (some 34) { dst := some 34, op := Op.load 2 (Operand.tmp 33), type := _, pos := _, after := _, guard := none } _ rfl rfl (by rfl) (fun wE hE => by (have zk0 := hE.cellS hne d0; have zk1 := hE.cellS hne d1; have zk2 := hE.cellS hne d2; have zk3 := hE.cellS hne d3; go_simp; try with_reducible rfl)) ?_; simp only [Act.put, List.setIfInBounds_toArray, List.set_cons_zero, List.set_cons_succ]
    refine wpS_storeL none { dst := none, op := Op.store 55 (Operand.tmp 4) (Operand.tmp 30), type := _, pos := _, after := _, guard := none } rfl rfl (by rfl) (.tmp 4) (.tmp 30) 55 rfl rfl rfl rfl KR rfl (Nat.le_refl 3) rfl (fun w' x => x) ?_ trivial
    intro we Ke xe
    simp only [Act.put, List.setIfInBounds_toArray, List.set_cons_zero, List.set_cons_succ]
    refine wpS_quiet (some 5) { dst := some 5, op := Op.assign (Operand.tmp 34), type := _, pos := _, after := _, guard := none } _ rfl rfl (by rfl) (fun wE hE => by (go_simp; try with_reducible rfl)) ?_; simp only [Act.put, List.setIfInBounds_toArray, List.set_cons_zero, List.set_cons_succ]
    refine wpS_quiet (some 6) { dst := some 6, op := Op.assign (Operand.const Value.nilIface), type := _, pos := _, after := _, guard := none } _ rfl rfl (by rfl) (fun wE hE => by (go_simp; try with_reducible rfl)) ?_; simp only [Act.put, List.setIfInBounds_toArray, List.set_cons_zero, List.set_cons_succ]
    change Exit.then _ _ _ _ _
    have r0 := Ke.cell (o := 0) rfl
    have r1 := Ke.cell (o := 1) rfl
    have r2 := Ke.cell (o := 2) rfl
    have HE := Lib.hid xe
    have HX1 := Lib.hid X1
    clear xe X1 d0 d1 d2 d3 KW KR Ke
    go_wp2
    refine bodyPost_ret (v := .tuple #[hsV x.f, .int .i64 x.rev2, .nilIface]) (by simp [results, Try.results90, go_sem, r0, r1, r2]) rfl ⟨?_, ?_, ?_⟩
    · rw [hif.out]
    · exact (HKEY.out _ _ HX1.out HE.out HKW.out).1
    · exact (HKEY.out _ _ HX1.out HE.out HKW.out).2
end Go.Proofs.Ythnhgfpkmbgkdaa
