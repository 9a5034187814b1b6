/-
  The fragments of a response (v3rpc.sendFragments, ZzFragments).
-/
import Derived.Test.YtmimpfenlhfkiaaSent
import Derived.Deep.DeepCutAuto
import Derived.Deep.CutBlock
namespace Go.Proofs.Ytmimpfenlhfkiaa
open Go.RowKit
set_option linter.unusedSimpArgs false
set_option linter.unusedVariables false

set_option maxHeartbeats 1000000 in
theorem wireSize_any (x : RespD) (A : Option Addr) (cap : Nat) (w : World) (hr : x.reason.size ≤ 1000000) (hn : x.events.length ≤ 1000) (ho : ∀ y : EvD, y ∈ x.events → y.ok) (h : (Rp.slice Rp.ev).K w any x.events [.slice A x.events.length cap]) :
    Calls Try.prog 8 #[sentV x A cap] w fun e w' => e = .returned (.int .i64 x.size) ∧ Ext w w' := by
  have HS := Lib.hid ((Rp.slice Rp.ev).ext' ((Ext.refl w).alloc (.cells #[.int .i64 x.id, .int .i64 x.rev, .int .i64 x.compact, .bool x.created, .bool x.canceled, .bool x.fragment, .string x.reason, .slice A x.events.length cap] 24)) h)
  have HO := Lib.hid ho
  clear h ho
  go_enter Try.func8, Try.ntmps8
  go_wp2_with fail
  refine (sentIn_any x A cap _ (by unfold maxLen; omega) hn HS.out).mono ?_
  rintro e w1 ⟨b, rfl, h1, E1⟩
  have H1 := Lib.hid h1
  clear h1
  go_wp2_with fail
  refine (respSize b x w1 ?_ HO.out hr hn).mono ?_
  · obtain ⟨_, bh, A1, c1, K, k2, K3, k4, k5⟩ := H1.out
    exact ⟨trivial, bh, A1, c1, K, trivial, K3, k4, (Rp.slice Rp.evp).toAny k5⟩
  rintro e w2 ⟨rfl, E2⟩
  go_wp2
  go_ret
  exact ⟨rfl, (((Ext.refl w).alloc _).trans E1).trans E2⟩

theorem RespAt.heap {w w' : World} {ok : Nat → Prop} {x : RespD} {b : Nat} (e : ∀ b, ok b → w'.heap[b]? = w.heap[b]?) (h : RespAt w ok x b) : RespAt w' ok x b := by
  obtain ⟨h0, bh, A, cap, K, h1, K2, h2, h3⟩ := h
  exact ⟨h0, bh, A, cap, (e b h0).trans K, h1, (e bh h1).trans K2, h2, (Rp.slice Rp.evp).ext e h3⟩
theorem RespAt.mono {w : World} {ok ok' : Nat → Prop} {x : RespD} {b : Nat} (e : ∀ b, ok b → ok' b) (h : RespAt w ok x b) : RespAt w ok' x b := by
  obtain ⟨h0, bh, A, cap, K, h1, K2, h2, h3⟩ := h
  exact ⟨e b h0, bh, A, cap, K, e bh h1, K2, h2, (Rp.slice Rp.evp).mono e h3⟩
theorem RespAt.lt {w : World} {ok : Nat → Prop} {x : RespD} {b : Nat} (h : RespAt w ok x b) : RespAt w (fun b => ok b ∧ b < w.heap.size) x b := by
  obtain ⟨h0, bh, A, cap, K, h1, K2, h2, h3⟩ := h
  exact ⟨⟨h0, K.lt⟩, bh, A, cap, K, ⟨h1, K2.lt⟩, K2, h2, (Rp.slice Rp.evp).lt h3⟩
theorem RespAt.ext {w w' : World} {ok : Nat → Prop} {x : RespD} {b : Nat} (h : RespAt w ok x b) (e : Ext w w') : RespAt w' ok x b :=
  RespAt.mono (fun _ h => h.1) (RespAt.heap (fun b hb => e.2.2.2.2 b hb.2) h.lt)
theorem RespAt.extX {M ok ok' : Nat → Prop} {w w' : World} {x : RespD} {b : Nat} (h : RespAt w ok x b) (e : ExtX M w w') (hok : ∀ j, ok j → j < w.heap.size → ¬ M j ∧ ok' j) : RespAt w' ok' x b :=
  RespAt.mono (fun j h => (hok j h.1 h.2).2) (RespAt.heap (fun b hb => e.2.2.2.2 b hb.2 (hok b hb.1 hb.2).1) h.lt)
/-- a pointer to a response -/
def Rp.respp : Rp RespD where
  K w ok x cs := ∃ b, cs = [.pointer (some ⟨b, 0, none⟩)] ∧ RespAt w ok x b
  sz := 1
  pos := by decide
  len := by rintro w ok x cs ⟨b, rfl, _⟩; rfl
  ext := by rintro w w' ok x cs e ⟨b, rfl, h⟩; exact ⟨b, rfl, h.heap e⟩
  mono := by rintro w ok ok' x cs e ⟨b, rfl, h⟩; exact ⟨b, rfl, h.mono e⟩
  lt := by rintro w ok x cs ⟨b, rfl, h⟩; exact ⟨b, rfl, h.lt⟩
  one := by rintro w ok x cs ⟨b, rfl, h⟩ u hu; rw [List.mem_singleton.1 hu]; rfl
theorem infoRespp : (Try.prog.info? 40).map (fun i => (i.zero, i.size, i.bytes)) = some (some (.pointer none), 1, 8) := by kernel_rfl

/-- what has been sent: the captured variable at block bo holds it -/
structure SentTo (w : World) (bo base : Nat) (v : Value) (rs : List RespD) : Prop where
  blk : Blk w bo 42 [v]
  own : OwnP Rp.respp w (fun k => k ≠ bo) base 40 v rs
  le : base ≤ w.heap.size
  lt : bo < base
theorem SentTo.ext {w w' : World} {bo base : Nat} {v : Value} {rs : List RespD} (h : SentTo w bo base v rs) (e : Ext w w') : SentTo w' bo base v rs :=
  ⟨h.blk.ext e, h.own.ext e, Nat.le_trans h.le e.size, h.lt⟩
theorem SentTo.extX {M : Nat → Prop} {w w' : World} {bo base : Nat} {v : Value} {rs : List RespD} (h : SentTo w bo base v rs) (e : ExtX M w w') (hM : ∀ k, M k → w.heap.size ≤ k) : SentTo w' bo base v rs :=
  ⟨h.blk.extX e (fun hm => by have := hM _ hm; have := h.blk.lt; omega), h.own.extX e (fun k _ hk hm => by have := hM _ hm; omega), Nat.le_trans h.le e.size, h.lt⟩
theorem OwnP.shape' {α : Type} {d : Rp α} {w : World} {ok : Nat → Prop} {base : Nat} {e : TypeId} {v : Value} {xs : List α} (h : OwnP d w ok base e v xs) : ∃ A n cap, v = .slice A n cap := by
  obtain ⟨A, cap, h, _⟩ := h.shape
  exact ⟨A, _, cap, h⟩
/-- another response is sent -/
theorem send_any (bo base b : Nat) (v : Value) (rs : List RespD) (y : RespD) (hl : rs.length ≤ 1000) (w : World) (h : SentTo w bo base v rs) (hy : RespAt w (fun k => k ≠ bo ∧ some k ≠ v.ownBlock) y b) :
    Calls Try.prog 22 #[.pointer (some ⟨b, 0, none⟩), .pointer (some ⟨bo, 0, none⟩)] w fun e w' => ∃ v', e = .returned .nilIface ∧ SentTo w' bo base v' (rs ++ [y]) ∧ ExtX (fun j => j = bo ∨ some j = v.ownBlock) w w' ∧ (v'.ownBlock = v.ownBlock ∨ ∀ g, v'.ownBlock = some g → w.heap.size ≤ g) := by
  obtain ⟨i0, hi, hz0, hz1, hz2⟩ := info_parts infoRespp
  obtain ⟨K, own, le, lt⟩ := h
  have hy1 := Lib.hid (own.own)
  have own1 : OwnP Rp.respp (w.alloc (.cells #[.pointer (some ⟨b, 0, none⟩)] 40)) (fun k => k ≠ bo) base 40 v rs := own.ext ((Ext.refl w).alloc _)
  have HY := Lib.hid (RespAt.ext hy ((Ext.refl w).alloc (.cells #[.pointer (some ⟨b, 0, none⟩)] 40)))
  have H1 := Lib.hid own1
  have hbo := K.lt
  have c0 := K.cell (o := 0) rfl
  have f0 := K.frozen 0
  clear own own1 hy
  go_enter Try.func22, Try.ntmps22
  go_wp2_with (at_builtin; refine wpList_app (d := Rp.respp) (base := base) rfl (.tmp 4) (.tmp 6) 42 rfl 40 i0 _ 8 Try.underlying42 hi hz0 hz1 hz2 rfl (v := v) rfl H1.out (fun j hj => by simp at hj; omega) ⟨w.heap.size, 0, none⟩ 1 [_] [y] rfl rfl (lit_cells w _ _) (one_elem (p := fun i y => Rp.respp.K (w.alloc (.cells #[.pointer (some ⟨b, 0, none⟩)] 40)) (fun j => j ≠ bo ∧ some j ≠ v.ownBlock) y (([.pointer (some ⟨b, 0, none⟩)].drop (i * Rp.respp.sz)).take Rp.respp.sz)) ⟨b, rfl, HY.out⟩) (by simp [maxLen]; omega) (by simp; omega) (by simp; omega) ?_; intro v2 w2 own3 g2 f2; obtain ⟨A2, n2, k2, rfl⟩ := own3.shape'; have X2 : ExtX (fun j => some j = v.ownBlock) w w2 := (((Ext.refl w).alloc _).toX _).grown g2 (fun k h => h.symm); have K2 := K.extX X2 (fun h => by have := (hy1.out bo h.symm).1; omega); have c1 := K2.cell (o := 0) rfl; have f1 := K2.frozen 0; have O3 := Lib.hid own3; have F2 := Lib.hid f2; clear own3 f2 g2)
  go_ret
  have XS : ExtX (fun j => j = bo) w2 (w2.setCell ⟨bo, 0, none⟩ (.slice A2 n2 k2)) := ExtX.setCell (M := fun j => j = bo) (ExtX.refl _ w2) (p := ⟨bo, 0, none⟩) rfl _
  refine ⟨.slice A2 n2 k2, rfl, ⟨K2.setCell 0 _, O3.out.extX XS (fun j hj _ => hj), by have := X2.size; have := XS.size; omega, lt⟩, (X2.mono (fun _ _ h => .inr h)).trans' XS (fun _ _ h => .inl h), F2.out.imp id (fun h g hg => by have := h g hg; simp at this; omega)⟩

/-- a fragment -/
def part (x : RespD) (more : Bool) (f : List EvD) : RespD := { x with fragment := more, events := f }
theorem infoEvp' : (Try.prog.info? 60).map (fun i => (i.zero, i.size, i.bytes)) = some (some (.pointer none), 1, 8) := by kernel_rfl
/-- what is sent of a response -/
def FragsOf (x : RespD) (m : Nat) (rs : List RespD) : Prop :=
  ((x.size < m ∨ x.events.length < 2) ∧ rs = [x]) ∨
  (m ≤ x.size ∧ 2 ≤ x.events.length ∧ ∃ (fs : List (List EvD)) (l : List EvD), fs.flatten ++ l = x.events ∧ (∀ f ∈ fs ++ [l], f ≠ [] ∧ (1 < f.length → (part x true f).size < m)) ∧ rs = fs.map (part x true) ++ [part x false l])

theorem RespD.size_lt (x : RespD) (hr : x.reason.size ≤ 1000000) (hn : x.events.length ≤ 1000) (ho : ∀ y : EvD, y ∈ x.events → y.ok) : x.size < 18446744073709551616 := by
  have := evsSize_le x.events ho
  have z0 := ilen_le x.rev; have z1 := ilen_le x.id; have z2 := ilen_le (b2i x.created); have z3 := ilen_le (b2i x.canceled); have z4 := ilen_le x.compact
  have z5 := ilen_le (b2i x.fragment); have z6 := blen_le x.reason.size (by omega); have z7 := blen_le (ilen x.rev) (by omega)
  have z8 : (if x.reason.size = 0 then 0 else blen x.reason.size) ≤ 1000012 := by split <;> omega
  unfold RespD.size RespD.bare
  omega
set_option maxHeartbeats 1000000 in
set_option maxRecDepth 20000 in
theorem frag_small (bo base b : Nat) (x : RespD) (m : Nat) (w : World) (hr : x.reason.size ≤ 1000000) (hn : x.events.length ≤ 1000) (ho : ∀ y : EvD, y ∈ x.events → y.ok) (hsm : x.size < m ∨ x.events.length < 2) (hmm : m < 18446744073709551616)
    (h : RespAt w (fun k => k ≠ bo) x b) (ht : SentTo w bo base (.slice none 0 0) []) :
    Calls Try.prog 21 #[.pointer (some ⟨b, 0, none⟩), .int .u64 m, .func (.func 22) #[] #[.pointer (some ⟨bo, 0, none⟩)]] w fun e w' => e = .returned .nilIface ∧ ∃ v' rs, FragsOf x m rs ∧ SentTo w' bo base v' rs ∧ ExtX (fun j => j = bo) w w' := by
  obtain ⟨_, bh, A, cap, K, hbh, KH, hm, hs⟩ := id h
  have c0 := K.cell (o := 0) rfl
  have c1 := K.cell (o := 1) rfl
  have c2 := K.cell (o := 2) rfl
  have c3 := K.cell (o := 3) rfl
  have c4 := K.cell (o := 4) rfl
  have c5 := K.cell (o := 5) rfl
  have c7 := K.cell (o := 7) rfl
  have H := Lib.hid h
  have HS := Lib.hid hs
  have HT := Lib.hid ht
  have HO := Lib.hid ho
  have hz := RespD.size_lt x hr hn ho
  clear h hs ht ho
  go_enter Try.func21, Try.ntmps21
  go_wp2_with fail
  refine (respSize b x w (H.out.mono fun _ _ => trivial) HO.out hr hn).mono ?_
  rintro e w1 ⟨rfl, E1⟩
  have T1 := Lib.hid (HT.out.ext E1)
  have Hx : Hid (RespAt w1 (fun k => k ≠ bo ∧ some k ≠ (Value.slice none 0 0).ownBlock) x b) := Lib.hid ((H.out.ext E1).mono fun k hk => ⟨hk, by simp [Value.ownBlock]⟩)
  have c7 := E1.cellS c7
  by_cases hlt : x.size < m
  · go_wp2_with fail
    refine (send_any bo base b (.slice none 0 0) [] x (by simp) w1 T1.out Hx.out).mono ?_
    rintro e w2 ⟨v', rfl, h2, X2, _⟩
    go_wp2
    go_ret
    refine ⟨rfl, v', [x], .inl ⟨.inl hlt, rfl⟩, h2, (E1.toX _).trans' X2 (fun k _ h => h.elim id (fun h => by simp [Value.ownBlock] at h))⟩
  · have h2 : x.events.length < 2 := by omega
    go_wp2_with fail
    refine (send_any bo base b (.slice none 0 0) [] x (by simp) w1 T1.out Hx.out).mono ?_
    rintro e w2 ⟨v', rfl, h2, X2, _⟩
    go_wp2
    go_ret
    refine ⟨rfl, v', [x], .inl ⟨.inr ‹_›, rfl⟩, h2, (E1.toX _).trans' X2 (fun k _ h => h.elim id (fun h => by simp [Value.ownBlock] at h))⟩

theorem slice_take {α : Type} {d : Rp α} {w : World} {ok : Nat → Prop} {xs : List α} {A : Option Addr} {n c : Nat} (h : (Rp.slice d).K w ok xs [.slice A n c]) (j : Nat) (hj : j ≤ n) : (Rp.slice d).K w ok (xs.take j) [.slice A j c] := by
  obtain ⟨A', c', hv, h1, h2, h3, h4⟩ := h
  simp only [List.cons.injEq, Value.slice.injEq, and_true] at hv
  obtain ⟨rfl, rfl, rfl⟩ := hv
  have hl : (xs.take j).length = j := by rw [List.length_take]; omega
  refine ⟨A, c, by rw [hl], by omega, h2, h3, fun i x hx => ?_⟩
  have hi : i < j := by have := (List.getElem?_eq_some_iff.1 hx).1; omega
  rw [List.getElem?_take_of_lt hi] at hx
  exact h4 i x hx
theorem own_empty {α : Type} {d : Rp α} {w : World} {ok : Nat → Prop} {base g : Nat} {e : TypeId} (h : Blk w g e []) (hok : ok g) (hb : base ≤ g) : OwnP d w ok base e (.slice (some ⟨g, 0, none⟩) 0 0) [] := by
  refine ⟨fun q hq => ?_, [], ⟨by simp, .inr ⟨g, 0, #[], rfl, hb, h, Nat.le_refl _, by decide, by simp, by simp⟩⟩, fun i x hx => by simp at hx⟩
  simp [Value.ownBlock] at hq
  exact hq ▸ hok

noncomputable def ops_21_4 : Array Oper := opsAt Try.f21 4
noncomputable def ops_21_10 : Array Oper := opsAt Try.f21 10
theorem own_some {α : Type} {d : Rp α} {w : World} {ok : Nat → Prop} {base : Nat} {e : TypeId} {v : Value} {xs : List α} {n : Nat} (h : OwnP d w ok base e v xs) (hn : xs.length = n + 1) : ∃ g k, v = .slice (some ⟨g, 0, none⟩) (n + 1) k ∧ n + 1 ≤ k := by
  rcases h.form with ⟨_, rfl⟩ | ⟨g, cap, rfl, _, h2, _⟩
  · simp at hn
  · exact ⟨g, cap, by rw [hn], by omega⟩
theorem flat_len {fs : List (List EvD)} {p : List EvD → Prop} (h : ∀ f ∈ fs, f ≠ [] ∧ p f) : fs.length ≤ fs.flatten.length := by
  induction fs with
  | nil => simp
  | cons f fs ih =>
    have := ih (fun g hg => h g (by simp [hg]))
    have := List.length_pos_iff.2 (h f (by simp)).1
    simp only [List.length_cons, List.flatten_cons, List.length_append]
    omega
/-- good fragments -/
def PartsOk (x : RespD) (m : Nat) (fs : List (List EvD)) : Prop := ∀ f ∈ fs, f ≠ [] ∧ (1 < f.length → (part x true f).size < m)
set_option maxHeartbeats 2000000 in
set_option maxRecDepth 20000 in
theorem frag_big (bo b : Nat) (x : RespD) (m : Nat) (w : World) (hr : x.reason.size ≤ 1000000) (hn : x.events.length ≤ 1000) (ho : ∀ y : EvD, y ∈ x.events → y.ok) (hsm : m ≤ x.size) (hs2 : 2 ≤ x.events.length)
    (h : RespAt w (fun k => k ≠ bo) x b) (ht : SentTo w bo w.heap.size (.slice none 0 0) []) :
    Calls Try.prog 21 #[.pointer (some ⟨b, 0, none⟩), .int .u64 m, .func (.func 22) #[] #[.pointer (some ⟨bo, 0, none⟩)]] w fun e w' => e = .returned .nilIface ∧ ∃ v' rs, FragsOf x m rs ∧ SentTo w' bo w.heap.size v' rs ∧ ExtX (fun j => j = bo) w w' := by
  obtain ⟨_, bh, A, cap, K, hbh, KH, hm, hs⟩ := id h
  have c0 := K.cell (o := 0) rfl
  have c1 := K.cell (o := 1) rfl
  have c2 := K.cell (o := 2) rfl
  have c3 := K.cell (o := 3) rfl
  have c4 := K.cell (o := 4) rfl
  have c5 := K.cell (o := 5) rfl
  have c7 := K.cell (o := 7) rfl
  have H := Lib.hid h
  have HS := Lib.hid hs
  have HT := Lib.hid ht
  have HO := Lib.hid ho
  have hz := RespD.size_lt x hr hn ho
  clear h hs ht ho
  go_enter Try.func21, Try.ntmps21
  go_wp2_with fail
  refine (respSize b x w (H.out.mono fun _ _ => trivial) HO.out hr hn).mono ?_
  rintro e w1 ⟨rfl, E1⟩
  have T1 := Lib.hid (HT.out.ext E1)
  have cc7 := E1.cellS c7
  obtain ⟨A', cap', hv, p1, p2, p3, hrow⟩ := HS.out
  simp only [List.cons.injEq, Value.slice.injEq, and_true] at hv
  obtain ⟨rfl, _, rfl⟩ := hv
  obtain ⟨ba, o, rfl, hba⟩ := hrow.addr (List.ne_nil_of_length_pos (by omega))
  have HR := Lib.hid hrow
  have hbw0 := K.lt
  have hd1 : decide (x.size < m) = false := by simp; omega
  have hd2 : decide (x.events.length < 2) = false := by simp; omega
  have hd3 : decide ((x.events.length : Int) < 2) = false := by simp; omega
  clear hrow p3
  unfold maxLen at p2
  go_wp2_with fail
  obtain ⟨i0, hi, hz0, hz1, hz2⟩ := info_parts infoEvp
  go_loopw [7] (fun i wr => ∃ (k : Nat) (v : Value) (fs : List (List EvD)), i = .int .i64 k ∧ k < x.events.length ∧ Hid (fs.flatten = x.events.take k) ∧ Hid (PartsOk x m fs) ∧ Hid (SentTo wr bo w.heap.size v (fs.map (part x true))) ∧ ExtX (fun j => j = bo) w wr) (fun i _ => x.events.length - (intOf i).toNat)
  case atStart => exact ⟨0, .slice none 0 0, [], rfl, by omega, Lib.hid rfl, Lib.hid (fun f hf => by simp at hf), T1, E1.toX _⟩
  case round =>
    obtain ⟨k, v, fs, rfl, hk, hfl, hpo, hst, hX⟩ := hrel
    obtain ⟨wo, rfl⟩ : ∃ wo : World, wo = wr := ⟨_, rfl⟩
    have hne : ¬ b = bo := H.out.1
    have hnh : ¬ bh = bo := hbh
    have d0 := hX.cellS (p := ⟨b, 0, none⟩) hne c0
    have d1 := hX.cellS (p := ⟨b, 1, none⟩) hne c1
    have d2 := hX.cellS (p := ⟨b, 2, none⟩) hne c2
    have d3 := hX.cellS (p := ⟨b, 3, none⟩) hne c3
    have d4 := hX.cellS (p := ⟨b, 4, none⟩) hne c4
    have d5 := hX.cellS (p := ⟨b, 5, none⟩) hne c5
    have d7 := hX.cellS (p := ⟨b, 7, none⟩) hne c7
    have hmk : ∀ w : World, (Instr.makeSlice 57 (.int .i64 0) (.int .i64 0)).run Try.prog w = .ok (.slice (some ⟨w.heap.size, 0, none⟩) 0 0) (w.alloc (.cells #[] 60)) := fun _ => by kernel_rfl
    go_wp2_with fail
    refine wp_region_sched (ops := ops_21_4) Ext [] (.quiet 0 (.quiet 1 (.quiet 2 (.quiet 3 (.quiet 4 (.quiet 5 (.quiet 6 (.quiet 7 (.quiet 8 (.quiet 9 (.quiet 10 (.quiet 11 (.quiet 12 (.quiet 13 (.quiet 14 (.quiet 15 (.quiet 16 (.quiet 17 (.quiet 18 (.quiet 19 (.quiet 20 (.quiet 21 (.quiet 22 (.quiet 23 (.loud 24 (.quiet 25 (.loud 26 (.quiet 27 (.done)) (.stop))) (.stop)))))))))))))))))))))))))) (by kernel_rfl) ext_refl ext_trans (by kernel_rfl) (fun _ _ d _ _ h => by cases d <;> exact h) ?_
    refine wpS_quiet (some 29) { dst := some 29, op := Op.move (Operand.tmp 0), type := _, pos := _, after := _, guard := none } _ rfl rfl (by rfl) (fun wE hE => by (go_simp; try with_reducible rfl)) ?_; simp only [Act.put, List.setIfInBounds_toArray, List.set_cons_zero, List.set_cons_succ]
    refine wpS_quiet (some 30) { dst := some 30, op := Op.nilCheck (Operand.tmp 29), type := _, pos := _, after := _, guard := none } _ rfl rfl (by rfl) (fun wE hE => by (go_simp; try with_reducible rfl)) ?_; simp only [Act.put, List.setIfInBounds_toArray, List.set_cons_zero, List.set_cons_succ]
    refine wpS_quiet (some 31) { dst := some 31, op := Op.fieldAddr 59 (Operand.tmp 30) 0, type := _, pos := _, after := _, guard := none } _ rfl rfl (by rfl) (fun wE hE => by (go_simp; try with_reducible rfl)) ?_; simp only [Act.put, List.setIfInBounds_toArray, List.set_cons_zero, List.set_cons_succ]
    refine wpS_quiet (some 32) { dst := some 32, op := Op.load 53 (Operand.tmp 31), type := _, pos := _, after := _, guard := none } _ rfl rfl (by rfl) (fun wE hE => by (have zk0 := hE.cellS d0; have zk1 := hE.cellS d1; have zk2 := hE.cellS d2; have zk3 := hE.cellS d3; have zk4 := hE.cellS d4; have zk5 := hE.cellS d5; go_simp; try with_reducible rfl)) ?_; simp only [Act.put, List.setIfInBounds_toArray, List.set_cons_zero, List.set_cons_succ]
    refine wpS_quiet (some 33) { dst := some 33, op := Op.move (Operand.tmp 0), type := _, pos := _, after := _, guard := none } _ rfl rfl (by rfl) (fun wE hE => by (go_simp; try with_reducible rfl)) ?_; simp only [Act.put, List.setIfInBounds_toArray, List.set_cons_zero, List.set_cons_succ]
    refine wpS_quiet (some 34) { dst := some 34, op := Op.nilCheck (Operand.tmp 33), type := _, pos := _, after := _, guard := none } _ rfl rfl (by rfl) (fun wE hE => by (go_simp; try with_reducible rfl)) ?_; simp only [Act.put, List.setIfInBounds_toArray, List.set_cons_zero, List.set_cons_succ]
    refine wpS_quiet (some 35) { dst := some 35, op := Op.fieldAddr 59 (Operand.tmp 34) 1, type := _, pos := _, after := _, guard := none } _ rfl rfl (by rfl) (fun wE hE => by (go_simp; try with_reducible rfl)) ?_; simp only [Act.put, List.setIfInBounds_toArray, List.set_cons_zero, List.set_cons_succ]
    refine wpS_quiet (some 36) { dst := some 36, op := Op.load 2 (Operand.tmp 35), type := _, pos := _, after := _, guard := none } _ rfl rfl (by rfl) (fun wE hE => by (have zk0 := hE.cellS d0; have zk1 := hE.cellS d1; have zk2 := hE.cellS d2; have zk3 := hE.cellS d3; have zk4 := hE.cellS d4; have zk5 := hE.cellS d5; go_simp; try with_reducible rfl)) ?_; simp only [Act.put, List.setIfInBounds_toArray, List.set_cons_zero, List.set_cons_succ]
    refine wpS_quiet (some 37) { dst := some 37, op := Op.move (Operand.tmp 0), type := _, pos := _, after := _, guard := none } _ rfl rfl (by rfl) (fun wE hE => by (go_simp; try with_reducible rfl)) ?_; simp only [Act.put, List.setIfInBounds_toArray, List.set_cons_zero, List.set_cons_succ]
    refine wpS_quiet (some 38) { dst := some 38, op := Op.nilCheck (Operand.tmp 37), type := _, pos := _, after := _, guard := none } _ rfl rfl (by rfl) (fun wE hE => by (go_simp; try with_reducible rfl)) ?_; simp only [Act.put, List.setIfInBounds_toArray, List.set_cons_zero, List.set_cons_succ]
    refine wpS_quiet (some 39) { dst := some 39, op := Op.fieldAddr 59 (Operand.tmp 38) 2, type := _, pos := _, after := _, guard := none } _ rfl rfl (by rfl) (fun wE hE => by (go_simp; try with_reducible rfl)) ?_; simp only [Act.put, List.setIfInBounds_toArray, List.set_cons_zero, List.set_cons_succ]
    refine wpS_quiet (some 40) { dst := some 40, op := Op.load 4 (Operand.tmp 39), type := _, pos := _, after := _, guard := none } _ rfl rfl (by rfl) (fun wE hE => by (have zk0 := hE.cellS d0; have zk1 := hE.cellS d1; have zk2 := hE.cellS d2; have zk3 := hE.cellS d3; have zk4 := hE.cellS d4; have zk5 := hE.cellS d5; go_simp; try with_reducible rfl)) ?_; simp only [Act.put, List.setIfInBounds_toArray, List.set_cons_zero, List.set_cons_succ]
    refine wpS_quiet (some 41) { dst := some 41, op := Op.move (Operand.tmp 0), type := _, pos := _, after := _, guard := none } _ rfl rfl (by rfl) (fun wE hE => by (go_simp; try with_reducible rfl)) ?_; simp only [Act.put, List.setIfInBounds_toArray, List.set_cons_zero, List.set_cons_succ]
    refine wpS_quiet (some 42) { dst := some 42, op := Op.nilCheck (Operand.tmp 41), type := _, pos := _, after := _, guard := none } _ rfl rfl (by rfl) (fun wE hE => by (go_simp; try with_reducible rfl)) ?_; simp only [Act.put, List.setIfInBounds_toArray, List.set_cons_zero, List.set_cons_succ]
    refine wpS_quiet (some 43) { dst := some 43, op := Op.fieldAddr 59 (Operand.tmp 42) 3, type := _, pos := _, after := _, guard := none } _ rfl rfl (by rfl) (fun wE hE => by (go_simp; try with_reducible rfl)) ?_; simp only [Act.put, List.setIfInBounds_toArray, List.set_cons_zero, List.set_cons_succ]
    refine wpS_quiet (some 44) { dst := some 44, op := Op.load 4 (Operand.tmp 43), type := _, pos := _, after := _, guard := none } _ rfl rfl (by rfl) (fun wE hE => by (have zk0 := hE.cellS d0; have zk1 := hE.cellS d1; have zk2 := hE.cellS d2; have zk3 := hE.cellS d3; have zk4 := hE.cellS d4; have zk5 := hE.cellS d5; go_simp; try with_reducible rfl)) ?_; simp only [Act.put, List.setIfInBounds_toArray, List.set_cons_zero, List.set_cons_succ]
    refine wpS_quiet (some 45) { dst := some 45, op := Op.move (Operand.tmp 0), type := _, pos := _, after := _, guard := none } _ rfl rfl (by rfl) (fun wE hE => by (go_simp; try with_reducible rfl)) ?_; simp only [Act.put, List.setIfInBounds_toArray, List.set_cons_zero, List.set_cons_succ]
    refine wpS_quiet (some 46) { dst := some 46, op := Op.nilCheck (Operand.tmp 45), type := _, pos := _, after := _, guard := none } _ rfl rfl (by rfl) (fun wE hE => by (go_simp; try with_reducible rfl)) ?_; simp only [Act.put, List.setIfInBounds_toArray, List.set_cons_zero, List.set_cons_succ]
    refine wpS_quiet (some 47) { dst := some 47, op := Op.fieldAddr 59 (Operand.tmp 46) 4, type := _, pos := _, after := _, guard := none } _ rfl rfl (by rfl) (fun wE hE => by (go_simp; try with_reducible rfl)) ?_; simp only [Act.put, List.setIfInBounds_toArray, List.set_cons_zero, List.set_cons_succ]
    refine wpS_quiet (some 48) { dst := some 48, op := Op.load 2 (Operand.tmp 47), type := _, pos := _, after := _, guard := none } _ rfl rfl (by rfl) (fun wE hE => by (have zk0 := hE.cellS d0; have zk1 := hE.cellS d1; have zk2 := hE.cellS d2; have zk3 := hE.cellS d3; have zk4 := hE.cellS d4; have zk5 := hE.cellS d5; go_simp; try with_reducible rfl)) ?_; simp only [Act.put, List.setIfInBounds_toArray, List.set_cons_zero, List.set_cons_succ]
    refine wpS_quiet (some 49) { dst := some 49, op := Op.move (Operand.tmp 0), type := _, pos := _, after := _, guard := none } _ rfl rfl (by rfl) (fun wE hE => by (go_simp; try with_reducible rfl)) ?_; simp only [Act.put, List.setIfInBounds_toArray, List.set_cons_zero, List.set_cons_succ]
    refine wpS_quiet (some 50) { dst := some 50, op := Op.nilCheck (Operand.tmp 49), type := _, pos := _, after := _, guard := none } _ rfl rfl (by rfl) (fun wE hE => by (go_simp; try with_reducible rfl)) ?_; simp only [Act.put, List.setIfInBounds_toArray, List.set_cons_zero, List.set_cons_succ]
    refine wpS_quiet (some 51) { dst := some 51, op := Op.fieldAddr 59 (Operand.tmp 50) 5, type := _, pos := _, after := _, guard := none } _ rfl rfl (by rfl) (fun wE hE => by (go_simp; try with_reducible rfl)) ?_; simp only [Act.put, List.setIfInBounds_toArray, List.set_cons_zero, List.set_cons_succ]
    refine wpS_quiet (some 52) { dst := some 52, op := Op.load 9 (Operand.tmp 51), type := _, pos := _, after := _, guard := none } _ rfl rfl (by rfl) (fun wE hE => by (have zk0 := hE.cellS d0; have zk1 := hE.cellS d1; have zk2 := hE.cellS d2; have zk3 := hE.cellS d3; have zk4 := hE.cellS d4; have zk5 := hE.cellS d5; go_simp; try with_reducible rfl)) ?_; simp only [Act.put, List.setIfInBounds_toArray, List.set_cons_zero, List.set_cons_succ]
    refine wpS_upd (some 53) { dst := some 53, op := Op.makeSlice 57 (Operand.const (Value.int IntKind.i64 0)) (Operand.const (Value.int IntKind.i64 0)), type := _, pos := _, after := _, guard := none } rfl rfl (by rfl) ?_ trivial
    refine ⟨.slice (some ⟨wo.heap.size, 0, none⟩) 0 0, wo.drew.alloc (.cells #[] 60), by go_simp; try rfl, (Ext.refl _).alloc _, ?_⟩
    simp only [Act.put, List.setIfInBounds_toArray, List.set_cons_zero, List.set_cons_succ]
    refine wpS_quiet (some 54) { dst := some 54, op := Op.build 59 #[(0, Operand.tmp 32), (1, Operand.tmp 36), (2, Operand.tmp 40), (3, Operand.tmp 44), (4, Operand.tmp 48), (5, Operand.tmp 52), (6, Operand.const (Value.bool true)), (7, Operand.tmp 53)], type := _, pos := _, after := _, guard := none } _ rfl rfl (by rfl) (fun wE hE => by (go_simp; try with_reducible rfl)) ?_; simp only [Act.put, List.setIfInBounds_toArray, List.set_cons_zero, List.set_cons_succ]
    refine wpS_alloc (some 55) { dst := some 55, op := Op.box 59 (Operand.tmp 54), type := _, pos := _, after := _, guard := none } _ _ rfl rfl (by rfl) (by go_simp; try rfl) (fun _ h => h) ?_ trivial
    intro bc w2 hbc e2 Kc
    have HG : Hid (bc = wo.heap.size + 1) := Lib.hid (by rw [hbc]; simp)
    clear hbc
    simp only [Act.put, List.setIfInBounds_toArray, List.set_cons_zero, List.set_cons_succ]
    refine wpS_quiet (some 8) { dst := some 8, op := Op.assign (Operand.tmp 55), type := _, pos := _, after := _, guard := none } _ rfl rfl (by rfl) (fun wE hE => by (go_simp; try with_reducible rfl)) ?_; simp only [Act.put, List.setIfInBounds_toArray, List.set_cons_zero, List.set_cons_succ]
    change Exit.then _ _ _ _ _
    have E2 : Ext wo w2 := ((Ext.refl wo).alloc _).trans e2
    have hbc : wo.heap.size < bc := by have := HG.out; omega
    have dn : Blk w2 wo.heap.size 60 [] := (Blk.new wo.drew 60 []).ext e2
    have d7 := E2.cellS d7
    have HDN := Lib.hid dn
    have HKc := Lib.hid Kc
    clear d0 d1 d2 d3 d4 d5 dn Kc
    have hkc : k < cap := by omega
    go_upto_block 2 with (fail)
    go_cut [7] (fun i wx => ∃ (j : Nat) (Ac : Option Addr) (nc : Nat), i = .int .i64 (k + j : Nat) ∧ 1 ≤ j ∧ k + j ≤ x.events.length ∧ Hid (1 < j → (part x true ((x.events.drop k).take j)).size < m) ∧
      Hid (Blk wx bc 59 [.pointer (some ⟨bh, 0, none⟩), .int .i64 x.id, .bool x.created, .bool x.canceled, .int .i64 x.compact, .string x.reason, .bool true, .slice Ac j nc]) ∧
      Hid ((Rp.slice Rp.evp).K wx (fun q => q < w.heap.size ∧ q ≠ bo ∨ wo.heap.size ≤ q ∧ q ≠ bc) ((x.events.drop k).take j) [.slice Ac j nc]) ∧ ExtX (fun j => j = bc ∨ j = wo.heap.size) w2 wx)
    case first =>
      go_wp2_with fail
      go_loopw [7, 63] (fun i r wr => ∃ (j : Nat) (v : Value), i = .int .i64 (k + j : Nat) ∧ r = .int .i64 j ∧ k + j ≤ x.events.length ∧ Hid (1 < j → (part x true ((x.events.drop k).take j)).size < m) ∧
        Hid (Blk wr bc 59 [.pointer (some ⟨bh, 0, none⟩), .int .i64 x.id, .bool x.created, .bool x.canceled, .int .i64 x.compact, .string x.reason, .bool true, v]) ∧
        Hid (OwnP Rp.evp wr (fun q => q < w.heap.size ∧ q ≠ bo ∨ wo.heap.size ≤ q ∧ q ≠ bc) wo.heap.size 60 v ((x.events.drop k).take j)) ∧
        Hid (v.ownBlock = some wo.heap.size ∨ ∀ g, v.ownBlock = some g → w2.heap.size ≤ g) ∧ ExtX (fun j => j = bc ∨ j = wo.heap.size) w2 wr) (fun _ r _ => x.events.length - k - (intOf r).toNat)
      case atStart => exact ⟨0, _, rfl, rfl, by omega, Lib.hid (by omega), HKc, Lib.hid (own_empty HDN.out (.inr ⟨Nat.le_refl _, by omega⟩) (Nat.le_refl _)), Lib.hid (.inl rfl), ExtX.refl _ _⟩
      case round =>
        obtain ⟨j, v, rfl, rfl, hj, hsz, hB, hO, hF, hXl⟩ := hrel
        by_cases hlt : j < x.events.length - k
        · obtain ⟨y, hy⟩ : ∃ y, x.events[k + j]? = some y := ⟨_, List.getElem?_eq_getElem (by omega)⟩
          obtain ⟨cs, _, ⟨be, rfl, hev⟩, hc⟩ := HR.out.at rfl hy
          have hbl : ba < w.heap.size := cell_lt (hc 0 (by decide))
          have s1 := hX.size
          have s2 := E2.size
          have cE0 : w.cell? ⟨ba, o + k + j, none⟩ = some (.pointer (some ⟨be, 0, none⟩)) := by rw [Nat.add_assoc]; simpa [Rp.evp] using hc 0 (by decide)
          have cE1 := E2.cellS (hX.cellS (p := ⟨ba, o + k + j, none⟩) hba cE0)
          have cE := hXl.cellS (p := ⟨ba, o + k + j, none⟩) (by simp only []; omega) cE1
          have hev2 : EvAt wr (fun q => q < w.heap.size ∧ q ≠ bo) y be :=
            EvAt.mono (fun q hq => ⟨hq.2, hq.1⟩) (EvAt.heap (fun q hq => by
              rw [hXl.2.2.2.2 q (by omega) (by omega), E2.2.2.2.2 q (by omega), hX.2.2.2.2 q hq.2 hq.1]) hev.lt)
          have c7l := hB.out.cell (o := 7) rfl
          have f7l := hB.out.frozen 7
          have HEV := Lib.hid hev2
          have HY := Lib.hid hy
          clear cE0 cE1 hc hev hev2 hy
          have hnb : ¬ some bc = v.ownBlock := fun he => by have := hO.out.1 bc he.symm; omega
          have hlen : (((x.events.drop k).take j) ++ [y]).length = j + 1 := by simp; omega
          have htk : (x.events.drop k).take j ++ [y] = (x.events.drop k).take (j + 1) := (take_snoc (by rw [List.getElem?_drop]; exact HY.out)).symm
          have HL := Lib.hid hlen
          have HTK := Lib.hid htk
          have HNB := Lib.hid hnb
          clear hlen htk hnb
          have hll : ((x.events.drop k).take j).length ≤ 1000 := by simp; omega
          have hbw := hB.out.lt
          by_cases hj0 : j = 0
          · have hj1 : ¬ 1 ≤ j := by omega
            replace hj0 := Lib.hid hj0
            go_wp2_with (at_builtin; refine wpList_app (d := Rp.evp) (base := wo.heap.size) rfl (.tmp 71) (.tmp 73) 57 rfl 60 i0 _ 8 Try.underlying57 hi hz0 hz1 hz2 rfl (v := v) rfl (hO.out.ext ((Ext.refl wr).alloc _)) (fun q hq => .inr ⟨by simp at hq; omega, by simp at hq; omega⟩) ⟨wr.heap.size, 0, none⟩ 1 [_] [y] rfl rfl (lit_cells wr _ _) (one_elem (p := fun i y => Rp.evp.K (wr.alloc (.cells #[.pointer (some ⟨be, 0, none⟩)] 60)) (fun q => (q < w.heap.size ∧ q ≠ bo ∨ wo.heap.size ≤ q ∧ q ≠ bc) ∧ some q ≠ v.ownBlock) y (([.pointer (some ⟨be, 0, none⟩)].drop (i * Rp.evp.sz)).take Rp.evp.sz)) ⟨be, rfl, EvAt.mono (fun q hq => ⟨.inl hq, fun he => by have := (hO.out.own q he.symm).1; omega⟩) (EvAt.ext HEV.out ((Ext.refl wr).alloc _))⟩) (by simp [maxLen]; omega) (by simp; omega) (by simp; omega) ?_; intro v2 w3 own3 g3 f3; obtain ⟨g2, k2, hv2, hk2⟩ := own_some own3 HL.out; subst hv2; have X3 : ExtX (fun q => some q = v.ownBlock) wr w3 := (((Ext.refl wr).alloc _).toX _).grown g3 (fun q h => h.symm); have B3 := hB.out.extX X3 HNB.out; have c7m := B3.cell (o := 7) rfl; have f7m := B3.frozen 7; have O3 := Lib.hid own3; have F3 := Lib.hid f3; have HB3 := Lib.hid B3; clear own3 f3 g3 B3)
            have HB4 := Lib.hid (HB3.out.setCell 7 (.slice (some ⟨g2, 0, none⟩) (j + 1) k2))
            have XS : ExtX (fun q => q = bc) w3 (w3.setCell ⟨bc, 7, none⟩ (.slice (some ⟨g2, 0, none⟩) (j + 1) k2)) := ExtX.setCell (M := fun q => q = bc) (ExtX.refl _ w3) (p := ⟨bc, 7, none⟩) rfl _
            have HO4 := Lib.hid (O3.out.extX XS (fun q hq _ => by show ¬ q = bc; omega))
            rw [HTK.out] at HO4
            have X4 : ExtX (fun q => q = bc ∨ q = wo.heap.size) w2 (w3.setCell ⟨bc, 7, none⟩ (.slice (some ⟨g2, 0, none⟩) (j + 1) k2)) := hXl.trans' ((X3.mono (M' := fun q => some q = v.ownBlock ∨ q = bc) (fun q _ h => .inl h)).trans' XS (fun q _ h => .inr h)) (fun q hq h => by
              rcases h with h | h
              · rcases hF.out with hf | hf
                · rw [hf] at h; exact .inr (Option.some.inj h)
                · have := hf q h.symm; omega
              · exact .inl h)
            have HL4 : Hid (((x.events.drop k).take (j + 1)).length = j + 1) := Lib.hid (by simp; omega)
            have hbhl := KH.lt
            have KH4 := Lib.hid (((KH.extX hX hnh).ext E2).extX X4 (by omega))
            have HF4 : Hid ((Value.slice (some ⟨g2, 0, none⟩) (j + 1) k2).ownBlock = some wo.heap.size ∨ ∀ g, (Value.slice (some ⟨g2, 0, none⟩) (j + 1) k2).ownBlock = some g → w2.heap.size ≤ g) := Lib.hid (by
              have hs := hXl.size
              rcases F3.out with f | f
              · rcases hF.out with hf | hf
                · exact .inl (f.trans hf)
                · exact .inr fun g hg => hf g (f ▸ hg)
              · exact .inr fun g hg => by have := f g hg; simp at this; omega)
            clear c7m f7m
            go_roundw
            case rel => exact ⟨j + 1, _, by go_num, by go_num, by omega, Lib.hid (fun _ => by have := hj0.out; omega), HB4, HO4, HF4, X4⟩
            case measure => simp [intOf]; omega
          · have hj1 : 1 ≤ j := by omega
            go_wp2_with (at_builtin; refine wpList_app (d := Rp.evp) (base := wo.heap.size) rfl (.tmp 71) (.tmp 73) 57 rfl 60 i0 _ 8 Try.underlying57 hi hz0 hz1 hz2 rfl (v := v) rfl (hO.out.ext ((Ext.refl wr).alloc _)) (fun q hq => .inr ⟨by simp at hq; omega, by simp at hq; omega⟩) ⟨wr.heap.size, 0, none⟩ 1 [_] [y] rfl rfl (lit_cells wr _ _) (one_elem (p := fun i y => Rp.evp.K (wr.alloc (.cells #[.pointer (some ⟨be, 0, none⟩)] 60)) (fun q => (q < w.heap.size ∧ q ≠ bo ∨ wo.heap.size ≤ q ∧ q ≠ bc) ∧ some q ≠ v.ownBlock) y (([.pointer (some ⟨be, 0, none⟩)].drop (i * Rp.evp.sz)).take Rp.evp.sz)) ⟨be, rfl, EvAt.mono (fun q hq => ⟨.inl hq, fun he => by have := (hO.out.own q he.symm).1; omega⟩) (EvAt.ext HEV.out ((Ext.refl wr).alloc _))⟩) (by simp [maxLen]; omega) (by simp; omega) (by simp; omega) ?_; intro v2 w3 own3 g3 f3; obtain ⟨g2, k2, hv2, hk2⟩ := own_some own3 HL.out; subst hv2; have X3 : ExtX (fun q => some q = v.ownBlock) wr w3 := (((Ext.refl wr).alloc _).toX _).grown g3 (fun q h => h.symm); have B3 := hB.out.extX X3 HNB.out; have c7m := B3.cell (o := 7) rfl; have f7m := B3.frozen 7; have O3 := Lib.hid own3; have F3 := Lib.hid f3; have HB3 := Lib.hid B3; clear own3 f3 g3 B3)
            have HB4 := Lib.hid (HB3.out.setCell 7 (.slice (some ⟨g2, 0, none⟩) (j + 1) k2))
            have XS : ExtX (fun q => q = bc) w3 (w3.setCell ⟨bc, 7, none⟩ (.slice (some ⟨g2, 0, none⟩) (j + 1) k2)) := ExtX.setCell (M := fun q => q = bc) (ExtX.refl _ w3) (p := ⟨bc, 7, none⟩) rfl _
            have HO4 := Lib.hid (O3.out.extX XS (fun q hq _ => by show ¬ q = bc; omega))
            rw [HTK.out] at HO4
            have X4 : ExtX (fun q => q = bc ∨ q = wo.heap.size) w2 (w3.setCell ⟨bc, 7, none⟩ (.slice (some ⟨g2, 0, none⟩) (j + 1) k2)) := hXl.trans' ((X3.mono (M' := fun q => some q = v.ownBlock ∨ q = bc) (fun q _ h => .inl h)).trans' XS (fun q _ h => .inr h)) (fun q hq h => by
              rcases h with h | h
              · rcases hF.out with hf | hf
                · rw [hf] at h; exact .inr (Option.some.inj h)
                · have := hf q h.symm; omega
              · exact .inl h)
            have HL4 : Hid (((x.events.drop k).take (j + 1)).length = j + 1) := Lib.hid (by simp; omega)
            have hbhl := KH.lt
            have KH4 := Lib.hid (((KH.extX hX hnh).ext E2).extX X4 (by omega))
            have HF4 : Hid ((Value.slice (some ⟨g2, 0, none⟩) (j + 1) k2).ownBlock = some wo.heap.size ∨ ∀ g, (Value.slice (some ⟨g2, 0, none⟩) (j + 1) k2).ownBlock = some g → w2.heap.size ≤ g) := Lib.hid (by
              have hs := hXl.size
              rcases F3.out with f | f
              · rcases hF.out with hf | hf
                · exact .inl (f.trans hf)
                · exact .inr fun g hg => hf g (f ▸ hg)
              · exact .inr fun g hg => by have := f g hg; simp at this; omega)
            clear c7m f7m
            refine (respSize bc (part x true ((x.events.drop k).take (j + 1))) _ ?_ (fun y hy => HO.out y (List.mem_of_mem_drop (List.mem_of_mem_take hy))) hr (by show ((x.events.drop k).take (j + 1)).length ≤ 1000; rw [HL4.out]; omega)).mono ?_
            · exact ⟨trivial, bh, _, k2, by rw [show (part x true ((x.events.drop k).take (j + 1))).events.length = j + 1 from HL4.out]; exact HB4.out, trivial, KH4.out, hm, by rw [show (part x true ((x.events.drop k).take (j + 1))).events.length = j + 1 from HL4.out]; exact (Rp.slice Rp.evp).toAny (by have := HO4.out.slice; exact this)⟩
            rintro e w5 ⟨rfl, E5⟩
            have hz5 := RespD.size_lt (part x true ((x.events.drop k).take (j + 1))) hr (by show ((x.events.drop k).take (j + 1)).length ≤ 1000; rw [HL4.out]; omega) (fun y hy => HO.out y (List.mem_of_mem_drop (List.mem_of_mem_take hy)))
            by_cases hge : m ≤ (part x true ((x.events.drop k).take (j + 1))).size
            · have B5 := HB4.out.ext E5
              have c7n := B5.cell (o := 7) rfl
              have f7n := B5.frozen 7
              go_wp2_with fail
              have hwj : IntKind.i64.wrap (j : Int) = (j : Int) := IntWalk.i64_in _ (by omega)
              have hjk : (j : Int) ≤ (k2 : Int) := by omega
              have hjk' : j ≤ k2 := by omega
              refine wp_region_sched (ops := ops_21_10) Ext [14] (.quiet 0 (.quiet 1 (.quiet 2 (.quiet 3 (.quiet 4 (.quiet 5 (.quiet 6 (.quiet 7 (.quiet 8 (.quiet 9 (.quiet 10 (.quiet 11 (.loud 12 (.loud 13 (.last 14 (.done)) (.stop)) (.stop)))))))))))))) (by kernel_rfl) ext_refl ext_trans (by kernel_rfl) (fun _ _ d _ _ h => by cases d <;> exact h) ?_
              refine wpS_quiet (some 91) { dst := some 91, op := Op.move (Operand.tmp 8), type := _, pos := _, after := _, guard := none } _ rfl rfl (by rfl) (fun wE hE => by (go_simp; try with_reducible rfl)) ?_; simp only [Act.put, List.setIfInBounds_toArray, List.set_cons_zero, List.set_cons_succ]
              refine wpS_quiet (some 92) { dst := some 92, op := Op.move (Operand.tmp 8), type := _, pos := _, after := _, guard := none } _ rfl rfl (by rfl) (fun wE hE => by (go_simp; try with_reducible rfl)) ?_; simp only [Act.put, List.setIfInBounds_toArray, List.set_cons_zero, List.set_cons_succ]
              refine wpS_quiet (some 93) { dst := some 93, op := Op.nilCheck (Operand.tmp 92), type := _, pos := _, after := _, guard := none } _ rfl rfl (by rfl) (fun wE hE => by (go_simp; try with_reducible rfl)) ?_; simp only [Act.put, List.setIfInBounds_toArray, List.set_cons_zero, List.set_cons_succ]
              refine wpS_quiet (some 94) { dst := some 94, op := Op.fieldAddr 59 (Operand.tmp 93) 7, type := _, pos := _, after := _, guard := none } _ rfl rfl (by rfl) (fun wE hE => by (go_simp; try with_reducible rfl)) ?_; simp only [Act.put, List.setIfInBounds_toArray, List.set_cons_zero, List.set_cons_succ]
              refine wpS_quiet (some 95) { dst := some 95, op := Op.load 57 (Operand.tmp 94), type := _, pos := _, after := _, guard := none } _ rfl rfl (by rfl) (fun wE hE => by (have zk0 := hE.cellS c7n; go_simp; try with_reducible rfl)) ?_; simp only [Act.put, List.setIfInBounds_toArray, List.set_cons_zero, List.set_cons_succ]
              refine wpS_quiet (some 96) { dst := some 96, op := Op.move (Operand.tmp 8), type := _, pos := _, after := _, guard := none } _ rfl rfl (by rfl) (fun wE hE => by (go_simp; try with_reducible rfl)) ?_; simp only [Act.put, List.setIfInBounds_toArray, List.set_cons_zero, List.set_cons_succ]
              refine wpS_quiet (some 97) { dst := some 97, op := Op.nilCheck (Operand.tmp 96), type := _, pos := _, after := _, guard := none } _ rfl rfl (by rfl) (fun wE hE => by (go_simp; try with_reducible rfl)) ?_; simp only [Act.put, List.setIfInBounds_toArray, List.set_cons_zero, List.set_cons_succ]
              refine wpS_quiet (some 98) { dst := some 98, op := Op.fieldAddr 59 (Operand.tmp 97) 7, type := _, pos := _, after := _, guard := none } _ rfl rfl (by rfl) (fun wE hE => by (go_simp; try with_reducible rfl)) ?_; simp only [Act.put, List.setIfInBounds_toArray, List.set_cons_zero, List.set_cons_succ]
              refine wpS_quiet (some 99) { dst := some 99, op := Op.load 57 (Operand.tmp 98), type := _, pos := _, after := _, guard := none } _ rfl rfl (by rfl) (fun wE hE => by (have zk0 := hE.cellS c7n; go_simp; try with_reducible rfl)) ?_; simp only [Act.put, List.setIfInBounds_toArray, List.set_cons_zero, List.set_cons_succ]
              refine wpS_quiet (some 100) { dst := some 100, op := Op.call { callee := Callee.builtin Builtin.len, args := #[Operand.tmp 99], argTypes := #[57] }, type := _, pos := _, after := _, guard := none } _ rfl rfl (by rfl) (fun wE hE => by (go_simp; try with_reducible rfl)) ?_; simp only [Act.put, List.setIfInBounds_toArray, List.set_cons_zero, List.set_cons_succ]
              refine wpS_quiet (some 101) { dst := some 101, op := Op.binOp BinOp.sub 3 (Operand.tmp 100) (Operand.const (Value.int IntKind.i64 1)) 3, type := _, pos := _, after := _, guard := none } _ rfl rfl (by rfl) (fun wE hE => by (go_simp; try with_reducible rfl)) ?_; simp only [Act.put, List.setIfInBounds_toArray, List.set_cons_zero, List.set_cons_succ]
              refine wpS_quiet (some 102) { dst := some 102, op := Op.slice 57 (Operand.tmp 95) none (some (Operand.tmp 101)) none, type := _, pos := _, after := _, guard := none } _ rfl rfl (by rfl) (fun wE hE => by (go_simp; try with_reducible rfl)) ?_; simp only [Act.put, List.setIfInBounds_toArray, List.set_cons_zero, List.set_cons_succ]
              refine wpS_upd (some 103) { dst := some 103, op := Op.nilCheck (Operand.tmp 91), type := _, pos := _, after := _, guard := none } rfl rfl (by rfl) ?_ trivial
              refine ⟨.pointer (some ⟨bc, 0, none⟩), w5.drew, by go_simp; try rfl, Ext.refl _, ?_⟩
              simp only [Act.put, List.setIfInBounds_toArray, List.set_cons_zero, List.set_cons_succ]
              refine wpS_upd (some 104) { dst := some 104, op := Op.fieldAddr 59 (Operand.tmp 103) 7, type := _, pos := _, after := _, guard := none } rfl rfl (by rfl) ?_ trivial
              refine ⟨.pointer (some ⟨bc, 7, none⟩), w5.drew, by go_simp; try rfl, Ext.refl _, ?_⟩
              simp only [Act.put, List.setIfInBounds_toArray, List.set_cons_zero, List.set_cons_succ]
              refine wpS_last none { dst := none, op := Op.store 57 (Operand.tmp 104) (Operand.tmp 102), type := _, pos := _, after := _, guard := none } undef (World.setCell w5.drew ⟨bc, 7, none⟩ (.slice (some ⟨g2, 0, none⟩) j k2)) rfl rfl (by rfl) (.inr ⟨rfl, by (go_simp; try rfl)⟩) ?_
              simp only [Act.put]
              change Exit.then _ _ _ _ _
              clear c7n f7n hwj hjk hjk'
              have HB5 := Lib.hid (B5.setCell 7 (.slice (some ⟨g2, 0, none⟩) j k2))
              clear B5
              go_wp2_with fail
              go_meet
              have XS2 : ExtX (fun q => q = bc) w5 (w5.setCell ⟨bc, 7, none⟩ (.slice (some ⟨g2, 0, none⟩) j k2)) := ExtX.setCell (M := fun q => q = bc) (ExtX.refl _ w5) (p := ⟨bc, 7, none⟩) rfl _
              have OS := ((HO4.out.ext E5).extX XS2 (fun q hq _ => by show ¬ q = bc; omega)).slice
              have OS2 := slice_take OS j (by omega)
              rw [List.take_take, Nat.min_eq_left (by omega)] at OS2
              exact ⟨j, _, k2, by go_num, by omega, by omega, hsz, HB5, Lib.hid OS2, (X4.trans (E5.toX _)).trans' XS2 (fun q _ h => .inl h)⟩
            · go_wp2_with fail
              go_roundw
              case rel => exact ⟨j + 1, _, by go_num, by go_num, by omega, Lib.hid (fun _ => by omega), Lib.hid (HB4.out.ext E5), Lib.hid (HO4.out.ext E5), HF4, X4.trans (E5.toX _)⟩
              case measure => simp [intOf]; omega
        · have hjn : Hid (k + j = x.events.length) := Lib.hid (by omega)
          go_wp2_with fail
          go_meet
          obtain ⟨A2, n2, k2, rfl⟩ := hO.out.shape'
          have OS := hO.out.slice
          obtain ⟨A', c', hv, _⟩ := id OS
          simp only [List.cons.injEq, Value.slice.injEq, and_true] at hv
          obtain ⟨rfl, rfl, rfl⟩ := hv
          have hl2 : ((x.events.drop k).take j).length = j := by simp; omega
          rw [hl2] at OS hB
          exact ⟨j, _, _, rfl, by have := hjn.out; omega, by have := hjn.out; omega, hsz, hB, Lib.hid OS, hXl⟩
    case rest =>
      obtain ⟨j, Ac, nc, rfl, hj1, hj2, hsz, hB, hS, hXc⟩ := hcut
      have hbl := hbw0
      have s1 := hX.size
      have d7c := hXc.cellS (p := ⟨b, 7, none⟩) (by simp only []; omega) d7
      have hbhl := KH.lt
      have KHc := Lib.hid (((KH.extX hX hnh).ext E2).extX hXc (by omega))
      have hlj : Hid (((x.events.drop k).take j).length = j) := Lib.hid (by simp; omega)
      by_cases hlast : k + j = x.events.length
      · have HLAST := Lib.hid hlast
        have hl1 : ((k + j : Nat) : Int) = (x.events.length : Int) := by omega
        have c6 := hB.out.cell (o := 6) rfl
        have f6 := hB.out.frozen 6
        have hl2 : (((k + j : Nat) : Int) == (x.events.length : Int)) = true := beq_iff_eq.2 hl1
        have hl3 : ((k + j) == x.events.length) = true := beq_iff_eq.2 hlast
        clear hl1 hlast
        go_wp2_with fail
        have X6 : ExtX (fun q => q = bc ∨ q = wo.heap.size) wo (wc.setCell ⟨bc, 6, none⟩ (.bool false)) := ((E2.toX _).trans hXc).setCell (p := ⟨bc, 6, none⟩) (.inl rfl) _
        have B6 : Blk (wc.setCell ⟨bc, 6, none⟩ (.bool false)) bc 59 [.pointer (some ⟨bh, 0, none⟩), .int .i64 x.id, .bool x.created, .bool x.canceled, .int .i64 x.compact, .string x.reason, .bool false, .slice Ac j nc] := hB.out.setCell 6 (.bool false)
        have XC : ExtX (fun q => q = bc) wc (wc.setCell ⟨bc, 6, none⟩ (.bool false)) := ExtX.setCell (M := fun q => q = bc) (ExtX.refl _ wc) (p := ⟨bc, 6, none⟩) rfl _
        clear c6 f6
        have ST6 := hst.out.extX X6 (fun q hq => by omega)
        have hown := hst.out.own.own
        have hol := hst.out.blk.lt
        have c6 := B6.cell (o := 6) rfl
        have R6 : RespAt (wc.setCell ⟨bc, 6, none⟩ (.bool false)) (fun q => q ≠ bo ∧ some q ≠ v.ownBlock) (part x false ((x.events.drop k).take j)) bc := by
          refine ⟨⟨by have := ST6.lt; omega, fun he => by have := hown bc he.symm; omega⟩, bh, Ac, nc, ?_, ⟨hnh, fun he => by have := hown bh he.symm; omega⟩, KHc.out.extX XC (by omega), hm, ?_⟩
          · rw [show (part x false ((x.events.drop k).take j)).events.length = j from hlj.out]; exact B6
          · rw [show (part x false ((x.events.drop k).take j)).events.length = j from hlj.out]
            refine (Rp.slice Rp.evp).mono (fun q hq => ?_) (Rp.extX (Rp.slice Rp.evp) XC hS.out (fun q hq => by show ¬ q = bc; omega))
            rcases hq with hq | hq
            · exact ⟨hq.2, fun he => by have := hown q he.symm; omega⟩
            · exact ⟨by omega, fun he => by have := hown q he.symm; omega⟩
        have hfl2 : (fs.map (part x true)).length ≤ 1000 := by
          have h1 := flat_len hpo.out
          have h2 := congrArg List.length hfl.out
          rw [List.length_take] at h2
          rw [List.length_map]
          omega
        refine (send_any bo w.heap.size bc v (fs.map (part x true)) _ hfl2 _ ST6 R6).mono ?_
        rintro e w7 ⟨v', rfl, h7, X7, _⟩
        have c6 := X7.cellS (p := ⟨bc, 6, none⟩) (by simp only []; intro h; exact h.elim (fun h => by omega) (fun h => by have := hown bc h.symm; omega)) c6
        have XE : ExtX (fun j => j = bo) w w7 := (hX.trans' X6 (M := fun j => j = bo) (fun q hq h => by omega)).trans' X7 (fun q hq h => by
          rcases h with h | h
          · exact h
          · have := hown q h.symm; omega)
        replace hown := Lib.hid hown
        go_wp2
        go_ret
        refine ⟨rfl, v', _, .inr ⟨hsm, hs2, fs, (x.events.drop k).take j, ?_, ?_, rfl⟩, h7, ?_⟩
        · rw [hfl.out, show (x.events.drop k).take j = x.events.drop k from List.take_of_length_le (by rw [List.length_drop]; have := HLAST.out; omega), List.take_append_drop]
        · intro f hf
          rcases List.mem_append.1 hf with hf | hf
          · exact hpo.out f hf
          · rw [List.mem_singleton] at hf
            subst hf
            exact ⟨List.ne_nil_of_length_pos (by rw [hlj.out]; omega), fun h => hsz.out (by rw [hlj.out] at h; exact h)⟩
        · exact XE
      · have HLAST := Lib.hid hlast
        have hl1 : ¬ ((k + j : Nat) : Int) = (x.events.length : Int) := by omega
        have hl2 : (((k + j : Nat) : Int) == (x.events.length : Int)) = false := beq_eq_false_iff_ne.2 hl1
        have hl3 : ((k + j) == x.events.length) = false := beq_eq_false_iff_ne.2 hlast
        clear hl1 hlast
        go_wp2_with fail
        have X6 : ExtX (fun q => q = bc ∨ q = wo.heap.size) wo wc := (E2.toX _).trans hXc
        have B6 := hB.out
        have XC : ExtX (fun q => q = bc) wc wc := ExtX.refl _ wc
        have ST6 := hst.out.extX X6 (fun q hq => by omega)
        have hown := hst.out.own.own
        have hol := hst.out.blk.lt
        have c6 := B6.cell (o := 6) rfl
        have R6 : RespAt wc (fun q => q ≠ bo ∧ some q ≠ v.ownBlock) (part x true ((x.events.drop k).take j)) bc := by
          refine ⟨⟨by have := ST6.lt; omega, fun he => by have := hown bc he.symm; omega⟩, bh, Ac, nc, ?_, ⟨hnh, fun he => by have := hown bh he.symm; omega⟩, KHc.out.extX XC (by omega), hm, ?_⟩
          · rw [show (part x true ((x.events.drop k).take j)).events.length = j from hlj.out]; exact B6
          · rw [show (part x true ((x.events.drop k).take j)).events.length = j from hlj.out]
            refine (Rp.slice Rp.evp).mono (fun q hq => ?_) (Rp.extX (Rp.slice Rp.evp) XC hS.out (fun q hq => by show ¬ q = bc; omega))
            rcases hq with hq | hq
            · exact ⟨hq.2, fun he => by have := hown q he.symm; omega⟩
            · exact ⟨by omega, fun he => by have := hown q he.symm; omega⟩
        have hfl2 : (fs.map (part x true)).length ≤ 1000 := by
          have h1 := flat_len hpo.out
          have h2 := congrArg List.length hfl.out
          rw [List.length_take] at h2
          rw [List.length_map]
          omega
        refine (send_any bo w.heap.size bc v (fs.map (part x true)) _ hfl2 _ ST6 R6).mono ?_
        rintro e w7 ⟨v', rfl, h7, X7, _⟩
        have c6 := X7.cellS (p := ⟨bc, 6, none⟩) (by simp only []; intro h; exact h.elim (fun h => by omega) (fun h => by have := hown bc h.symm; omega)) c6
        have XE : ExtX (fun j => j = bo) w w7 := (hX.trans' X6 (M := fun j => j = bo) (fun q hq h => by omega)).trans' X7 (fun q hq h => by
          rcases h with h | h
          · exact h
          · have := hown q h.symm; omega)
        replace hown := Lib.hid hown
        go_wp2_with fail
        go_roundw
        case rel => exact ⟨k + j, v', fs ++ [(x.events.drop k).take j], rfl, by have := HLAST.out; omega, Lib.hid (by rw [List.flatten_append, hfl.out, List.flatten_singleton, List.take_add]), Lib.hid (fun f hf => by
          rcases List.mem_append.1 hf with hf | hf
          · exact hpo.out f hf
          · rw [List.mem_singleton] at hf
            subst hf
            exact ⟨List.ne_nil_of_length_pos (by rw [hlj.out]; omega), fun h => hsz.out (by rw [hlj.out] at h; exact h)⟩), Lib.hid (by rw [List.map_append]; exact h7), XE⟩
        case measure => simp [intOf]; omega
end Go.Proofs.Ytmimpfenlhfkiaa
