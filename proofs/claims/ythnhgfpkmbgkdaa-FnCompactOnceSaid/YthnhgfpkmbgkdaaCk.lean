/-
  Checks of corruption: hashes and peers as data (impl.hashIn, impl.peersIn), peers as a checker asks them (zzPeers).
-/
import Derived.Test.YthnhgfpkmbgkdaaMp
import Derived.Handy
namespace Go.Proofs.Ythnhgfpkmbgkdaa
open Go.RowKit
set_option linter.unusedSimpArgs false
set_option linter.unusedVariables false

theorem info_parts3 {P : Program} {t : TypeId} {z : Value} {n m : Nat} (h : (P.info? t).map (fun i => (i.zero, i.size, i.bytes)) = some (some z, n, m)) : ∃ i, P.info? t = some i ∧ i.zero = some z ∧ i.size = n ∧ i.bytes = m := by
  cases hi : P.info? t with
  | none => rw [hi] at h; cases h
  | some i =>
    rw [hi] at h
    simp only [Option.map_some, Option.some.injEq, Prod.mk.injEq] at h
    exact ⟨i, rfl, h.1, h.2.1, h.2.2⟩
theorem take_snoc' {α : Type} {xs : List α} {k : Nat} {x : α} (h : xs[k]? = some x) : xs.take (k + 1) = xs.take k ++ [x] := by
  rw [List.take_add_one, h]; rfl
theorem lit_at (W : World) (T : TypeId) (cs : List Value) (b : Nat) (hb : b = W.heap.size) : ∀ j u, cs[j]? = some u → (W.alloc (.cells cs.toArray T)).cell? ((⟨b, 0, none⟩ : Addr).add j) = some u := by
  subst hb
  exact lit_cells W T cs
theorem blk_at (W : World) (T : TypeId) (cs : List Value) (b : Nat) (hb : b = W.heap.size) : Blk (W.alloc (.cells cs.toArray T)) b T cs := by
  subst hb
  exact Blk.new W T cs
/-- behind an append to a slice of the call's own -/
theorem ext_app {w wr wa w2 : World} {v : Value} (hE : Ext w wr) (ha : Ext wr wa) (hown : ∀ k, v.ownBlock = some k → w.heap.size ≤ k) (g : wa.grownBy w2 v.ownBlock) : Ext w w2 :=
  ((hE.toX (fun q => some q = v.ownBlock)).trans ((ha.toX (fun q => some q = v.ownBlock)).grown g (fun q h => h.symm))).toExt (fun q hq => hown q hq.symm)
theorem own_shape {α : Type} {d : Rp α} {w : World} {ok : Nat → Prop} {base : Nat} {e : TypeId} {v : Value} {xs : List α} (h : OwnP d w ok base e v xs) : ∃ A n cap, v = .slice A n cap := by
  obtain ⟨A, cap, h, _⟩ := h.shape
  exact ⟨A, _, cap, h⟩
/-- flat data: so many cells, and what holds of it -/
def Rp.flat {α : Type} (f : α → List Value) (n : Nat) (hn : 0 < n) (hl : ∀ a, (f a).length = n) (h1 : ∀ a, (f a).all (·.oneCell') = true) (ok : α → Prop) : Rp α where
  K _ _ a cs := cs = f a ∧ ok a
  sz := n
  pos := hn
  len := by rintro w o a cs ⟨rfl, _⟩; exact hl a
  ext := by rintro w w' o a cs _ h; exact h
  mono := by rintro w o o' a cs _ h; exact h
  lt := by rintro w o a cs h; exact h
  one := by rintro w o a cs ⟨rfl, _⟩ u hu; exact List.all_eq_true.1 (h1 a) u hu

/-- a peer's answer -/
structure CkD where
  id : Int
  has : Bool
  hash : Int
  comp : Int
  rev : Int
  err : Int
/-- a hash -/
structure HsD where
  hash : Int
  comp : Int
  rev : Int
abbrev ckCells (p : CkD) : List Value := [.int .u64 p.id, .bool p.has, .int .u32 p.hash, .int .i64 p.comp, .int .i64 p.rev, .int .i64 p.err]
abbrev ckV (p : CkD) : Value := .agg #[.int .u64 p.id, .bool p.has, .int .u32 p.hash, .int .i64 p.comp, .int .i64 p.rev, .int .i64 p.err]
abbrev hsCells (h : HsD) : List Value := [.int .u32 h.hash, .int .i64 h.comp, .int .i64 h.rev]
abbrev hsV (h : HsD) : Value := .agg #[.int .u32 h.hash, .int .i64 h.comp, .int .i64 h.rev]
abbrev errC : Value := .iface 86 (.string ⟨#[109, 118, 99, 99, 58, 32, 114, 101, 113, 117, 105, 114, 101, 100, 32, 114, 101, 118, 105, 115, 105, 111, 110, 32, 104, 97, 115, 32, 98, 101, 101, 110, 32, 99, 111, 109, 112, 97, 99, 116, 101, 100]⟩)
abbrev peCells (p : CkD) : List Value := [.int .u64 p.id, .bool p.has, .int .u32 p.hash, .int .i64 p.comp, .int .i64 p.rev, errC]
abbrev peV (p : CkD) : Value := .agg #[.int .u64 p.id, .bool p.has, .int .u32 p.hash, .int .i64 p.comp, .int .i64 p.rev, errC]
def CkD.wf (p : CkD) : Prop := (Lit.int .u64 p.id).wf = true ∧ (Lit.int .u32 p.hash).wf = true ∧ (Lit.int .i64 p.comp).wf = true ∧ (Lit.int .i64 p.rev).wf = true ∧ (Lit.int .i64 p.err).wf = true
def Rp.ck : Rp CkD := Rp.flat ckCells 6 (by decide) (fun _ => rfl) (fun _ => rfl) CkD.wf
def Rp.pe : Rp CkD := Rp.flat peCells 6 (by decide) (fun _ => rfl) (fun _ => rfl) (fun _ => True)
/-- the cells of a flat element -/
theorem flat_at {α : Type} {f : α → List Value} {n : Nat} {hn : 0 < n} {hl : ∀ a, (f a).length = n} {h1 : ∀ a, (f a).all (·.oneCell') = true} {p : α → Prop} {w wr : World} {ok : Nat → Prop} {A : Option Addr} {xs : List α} (h : (Rp.flat f n hn hl h1 p).row w ok A xs) {b o : Nat} (hA : A = some ⟨b, o, none⟩)
    {k : Nat} {x : α} (hx : xs[k]? = some x) (he : Ext w wr) : p x ∧ ∀ j v, (f x)[j]? = some v → wr.cell? ⟨b, o + (k * n + j), none⟩ = some v := by
  obtain ⟨cs, hl', hK, hc⟩ := h.at hA hx
  obtain ⟨rfl, hw⟩ : cs = f x ∧ p x := hK
  refine ⟨hw, fun j v hv => he.cellS ?_⟩
  have hj : j < n := by have := (List.getElem?_eq_some_iff.1 hv).1; rw [hl] at this; exact this
  exact (hc j hj).trans hv

set_option maxRecDepth 20000 in
theorem hashIn_any (h : HsD) (w : World) : Calls Try.prog 20 #[hsV h] w fun e w' => e = .returned (hsV h) ∧ Ext w w' := by
  go_enter Try.func20, Try.ntmps20
  go_wp2
  refine bodyPost_ret (v := hsV h) (by simp [results, Try.results20, go_sem]) rfl ⟨rfl, ?_⟩
  exact ((Ext.refl w).alloc _).alloc _

theorem infoPe : (Try.prog.info? 88).map (fun i => (i.zero, i.size, i.bytes)) = some (some (.agg #[.int .u64 0, .bool false, .int .u32 0, .int .i64 0, .int .i64 0, .nilIface]), 6, 48) := by kernel_rfl
set_option maxRecDepth 20000 in
set_option maxHeartbeats 2000000 in
theorem peersIn_any (ps : List CkD) (v : Value) (w : World) (h : (Rp.slice Rp.ck).K w any ps [v]) (hl : ps.length ≤ 1000) :
    Calls Try.prog 24 #[v] w fun e w' => ∃ v', e = .returned v' ∧ OwnP Rp.pe w' (fun k => w.heap.size ≤ k) w.heap.size 88 v' ps ∧ Ext w w' := by
  obtain ⟨A, cap, hv, p1, p2, p3, hrow⟩ := h
  simp only [List.cons.injEq, and_true] at hv
  subst hv
  have HR := Lib.hid hrow
  clear hrow
  go_enter Try.func24, Try.ntmps24
  go_wp2_with fail
  go_loopw [3, 4] (fun o i wr => ∃ k : Nat, i = .int .i64 k ∧ k ≤ ps.length ∧ Hid (OwnP Rp.pe wr (fun j => w.heap.size ≤ j) w.heap.size 88 o (ps.take k)) ∧ Ext w wr) (fun _ i _ => ps.length - (intOf i).toNat)
  case atStart => exact ⟨0, rfl, Nat.zero_le _, Lib.hid (OwnP.nil _ _ _ _ _), Ext.refl _⟩
  case round =>
    rename_i u3 u4
    obtain ⟨k, rfl, hk, hO, hE⟩ := hrel
    by_cases hlt : k < ps.length
    · obtain ⟨p, hp⟩ : ∃ p, ps[k]? = some p := ⟨_, List.getElem?_eq_getElem hlt⟩
      obtain ⟨ba, o, rfl, _⟩ := HR.out.addr (List.ne_nil_of_length_pos (by omega))
      obtain ⟨_, hc⟩ := flat_at HR.out rfl hp hE
      have c0 := hc 0 _ rfl
      have c1 := hc 1 _ rfl
      have c2 := hc 2 _ rfl
      have c3 := hc 3 _ rfl
      have c4 := hc 4 _ rfl
      have c5 := hc 5 _ rfl
      simp only [Nat.add_zero, ← Nat.add_assoc] at c0 c1 c2 c3 c4 c5
      have HP := Lib.hid hp
      have htl : (ps.take k).length ≤ 1000 := by rw [List.length_take]; omega
      have hsz := hE.size
      obtain ⟨i0, hi, hz0, hz1, hz2⟩ := info_parts3 infoPe
      clear hp hc
      go_wp2_with (at_builtin; refine wpList_app (d := Rp.pe) (base := w.heap.size) rfl (.tmp 16) (.tmp 29) 59 rfl 88 i0 _ 48 Try.underlying59 hi hz0 hz1 hz2 rfl (v := u3) rfl (hO.out.ext (((Ext.refl wr).alloc _).alloc _)) (fun q hq => by simp at hq; omega) ⟨wr.heap.size + 1, 0, none⟩ 1 (peCells p) [p] rfl rfl (lit_at _ _ _ _ (by simp)) (one_elem (p := fun i y => (Rp.pe).K _ (fun q => w.heap.size ≤ q ∧ some q ≠ Value.ownBlock u3) y (((peCells p).drop (i * (Rp.pe).sz)).take (Rp.pe).sz)) ⟨rfl,trivial⟩) (by simp [maxLen]; omega) (by simp; omega) (by simp; omega) ?_; intro v2 w2 own2 g2 f2; have O2 := Lib.hid own2; have G2 := Lib.hid g2; have F2 := Lib.hid f2; clear own2 g2 f2; obtain ⟨A2, n2, cap2, rfl⟩ := own_shape O2.out; skip)
      have E2 := ext_app hE (((Ext.refl wr).alloc _).alloc _) (fun k hk => (hO.out.own k hk).1) G2.out
      go_wp2_with fail
      go_roundw
      case rel => exact ⟨k + 1, by go_num, by omega, Lib.hid (by rw [take_snoc' HP.out]; exact O2.out), E2⟩
      case measure => simp [intOf]; omega
    · have hkn : Hid (k = ps.length) := Lib.hid (by omega)
      go_wp2_with fail
      go_ret
      have own := hO.out
      rw [hkn.out, List.take_length] at own
      exact ⟨_, rfl, own, hE⟩
/-- what a peer answers, as a checker has it, at block b -/
def PpAt (w : World) (ok : Nat → Prop) (p : CkD) (b : Nat) : Prop :=
  ok b ∧ if p.has = true then ∃ b2 b3, ok b2 ∧ ok b3 ∧ Blk w b 100 [.int .u64 p.id, .slice none 0 0, .pointer (some ⟨b2, 0, none⟩), .nilIface] ∧
      Blk w b2 105 [.pointer (some ⟨b3, 0, none⟩), .int .u32 p.hash, .int .i64 p.comp, .int .i64 0] ∧ Blk w b3 103 [.int .u64 0, .int .u64 p.id, .int .i64 p.rev, .int .u64 0]
    else Blk w b 100 [.int .u64 p.id, .slice none 0 0, .pointer none, errC]
theorem PpAt.heap {w w' : World} {ok : Nat → Prop} {p : CkD} {b : Nat} (e : ∀ b, ok b → w'.heap[b]? = w.heap[b]?) (h : PpAt w ok p b) : PpAt w' ok p b := by
  obtain ⟨h0, h⟩ := h
  refine ⟨h0, ?_⟩
  split at h
  · rename_i hp
    rw [if_pos hp]
    obtain ⟨b2, b3, o2, o3, k1, k2, k3⟩ := h
    exact ⟨b2, b3, o2, o3, (e b h0).trans k1, (e b2 o2).trans k2, (e b3 o3).trans k3⟩
  · rename_i hp
    rw [if_neg hp]
    exact (e b h0).trans h
theorem PpAt.mono {w : World} {ok ok' : Nat → Prop} {p : CkD} {b : Nat} (e : ∀ b, ok b → ok' b) (h : PpAt w ok p b) : PpAt w ok' p b := by
  obtain ⟨h0, h⟩ := h
  refine ⟨e b h0, ?_⟩
  split at h
  · rename_i hp
    rw [if_pos hp]
    obtain ⟨b2, b3, o2, o3, k1, k2, k3⟩ := h
    exact ⟨b2, b3, e _ o2, e _ o3, k1, k2, k3⟩
  · rename_i hp
    rw [if_neg hp]
    exact h
theorem PpAt.lt {w : World} {ok : Nat → Prop} {p : CkD} {b : Nat} (h : PpAt w ok p b) : PpAt w (fun b => ok b ∧ b < w.heap.size) p b := by
  obtain ⟨h0, h⟩ := h
  by_cases hp : p.has = true
  · rw [if_pos hp] at h
    obtain ⟨b2, b3, o2, o3, k1, k2, k3⟩ := h
    exact ⟨⟨h0, k1.lt⟩, by rw [if_pos hp]; exact ⟨b2, b3, ⟨o2, k2.lt⟩, ⟨o3, k3.lt⟩, k1, k2, k3⟩⟩
  · rw [if_neg hp] at h
    exact ⟨⟨h0, h.lt⟩, by rw [if_neg hp]; exact h⟩
theorem PpAt.yes {w : World} {ok : Nat → Prop} {p : CkD} {b b2 b3 : Nat} (hp : p.has = true) (o1 : ok b) (o2 : ok b2) (o3 : ok b3) (k1 : Blk w b 100 [.int .u64 p.id, .slice none 0 0, .pointer (some ⟨b2, 0, none⟩), .nilIface])
    (k2 : Blk w b2 105 [.pointer (some ⟨b3, 0, none⟩), .int .u32 p.hash, .int .i64 p.comp, .int .i64 0]) (k3 : Blk w b3 103 [.int .u64 0, .int .u64 p.id, .int .i64 p.rev, .int .u64 0]) : PpAt w ok p b :=
  ⟨o1, by rw [if_pos hp]; exact ⟨b2, b3, o2, o3, k1, k2, k3⟩⟩
theorem PpAt.no {w : World} {ok : Nat → Prop} {p : CkD} {b : Nat} (hp : p.has = false) (o1 : ok b) (k1 : Blk w b 100 [.int .u64 p.id, .slice none 0 0, .pointer none, errC]) : PpAt w ok p b :=
  ⟨o1, by rw [if_neg (by simp [hp])]; exact k1⟩
def Rp.pp : Rp CkD where
  K w ok p cs := ∃ b, cs = [.pointer (some ⟨b, 0, none⟩)] ∧ PpAt w ok p b
  sz := 1
  pos := by decide
  len := by rintro w ok x cs ⟨b, rfl, _⟩; rfl
  ext := by rintro w w' ok x cs e ⟨b, rfl, h⟩; exact ⟨b, rfl, h.heap e⟩
  mono := by rintro w ok ok' x cs e ⟨b, rfl, h⟩; exact ⟨b, rfl, h.mono e⟩
  lt := by rintro w ok x cs ⟨b, rfl, h⟩; exact ⟨b, rfl, h.lt⟩
  one := by rintro w ok x cs ⟨b, rfl, _⟩ u hu; rw [List.mem_singleton.1 hu]; rfl
theorem infoPp : (Try.prog.info? 94).map (fun i => (i.zero, i.size, i.bytes)) = some (some (.pointer none), 1, 8) := by kernel_rfl
set_option maxRecDepth 20000 in
set_option maxHeartbeats 2000000 in
theorem zzPeers_any (ps : List CkD) (v : Value) (w : World) (h : (Rp.slice Rp.pe).K w any ps [v]) (hl : ps.length ≤ 1000) :
    Calls Try.prog 30 #[v] w fun e w' => ∃ v', e = .returned v' ∧ OwnP Rp.pp w' (fun k => w.heap.size ≤ k) w.heap.size 94 v' ps ∧ Ext w w' := by
  obtain ⟨A, cap, hv, p1, p2, p3, hrow⟩ := h
  simp only [List.cons.injEq, and_true] at hv
  subst hv
  have HR := Lib.hid hrow
  clear hrow
  go_enter Try.func30, Try.ntmps30
  go_wp2_with fail
  go_loopw [3, 9] (fun o i wr => ∃ k : Nat, i = .int .i64 k ∧ k ≤ ps.length ∧ Hid (OwnP Rp.pp wr (fun j => w.heap.size ≤ j) w.heap.size 94 o (ps.take k)) ∧ Ext w wr) (fun _ i _ => ps.length - (intOf i).toNat)
  case atStart => exact ⟨0, rfl, Nat.zero_le _, Lib.hid (OwnP.nil _ _ _ _ _), Ext.refl _⟩
  case round =>
    rename_i u3 u9
    obtain ⟨k, rfl, hk, hO, hE⟩ := hrel
    by_cases hlt : k < ps.length
    · obtain ⟨p, hp⟩ : ∃ p, ps[k]? = some p := ⟨_, List.getElem?_eq_getElem hlt⟩
      obtain ⟨ba, o, rfl, _⟩ := HR.out.addr (List.ne_nil_of_length_pos (by omega))
      obtain ⟨_, hc⟩ := flat_at HR.out rfl hp hE
      have c0 := hc 0 _ rfl
      have c1 := hc 1 _ rfl
      have c2 := hc 2 _ rfl
      have c3 := hc 3 _ rfl
      have c4 := hc 4 _ rfl
      have c5 := hc 5 _ rfl
      simp only [Nat.add_zero, ← Nat.add_assoc] at c0 c1 c2 c3 c4 c5
      have HP := Lib.hid hp
      have htl : (ps.take k).length ≤ 1000 := by rw [List.length_take]; omega
      have hsz := hE.size
      obtain ⟨i0, hi, hz0, hz1, hz2⟩ := info_parts3 infoPp
      have hno : Hid (∀ q, wr.heap.size ≤ q → (w.heap.size ≤ q ∧ some q ≠ Value.ownBlock u3)) := Lib.hid fun q hq => ⟨by omega, fun he => by have := (hO.out.own q he.symm).2; omega⟩
      clear hp hc
      cases hh : p.has with
      | false =>
        have HH := Lib.hid hh
        rw [hh] at c1
        clear hh
        go_wp2_with (at_builtin; refine wpList_app (d := Rp.pp) (base := w.heap.size) rfl (.tmp 40) (.tmp 42) 84 rfl 94 i0 _ 8 Try.underlying84 hi hz0 hz1 hz2 rfl (v := u3) rfl (hO.out.ext ((((Ext.refl wr).alloc _).alloc _).alloc _)) (fun q hq => by simp at hq; omega) ⟨wr.heap.size + 1 + 1, 0, none⟩ 1 [.pointer (some ⟨wr.heap.size + 1, 0, none⟩)] [p] rfl rfl (lit_at _ _ _ _ (by simp)) (one_elem (p := fun i y => (Rp.pp).K _ (fun q => w.heap.size ≤ q ∧ some q ≠ Value.ownBlock u3) y (([.pointer (some ⟨wr.heap.size + 1, 0, none⟩)].drop (i * (Rp.pp).sz)).take (Rp.pp).sz)) ⟨_,rfl,PpAt.no HH.out (hno.out _ (by omega)) ((blk_at _ _ _ _ (by simp)).ext ((Ext.refl _).alloc _))⟩) (by simp [maxLen]; omega) (by simp; omega) (by simp; omega) ?_; intro v2 w2 own2 g2 f2; have O2 := Lib.hid own2; have G2 := Lib.hid g2; have F2 := Lib.hid f2; clear own2 g2 f2; obtain ⟨A2, n2, cap2, rfl⟩ := own_shape O2.out; skip)
        have E2 := ext_app hE ((((Ext.refl wr).alloc _).alloc _).alloc _) (fun k hk => (hO.out.own k hk).1) G2.out
        go_wp2_with fail
        go_roundw
        case rel => exact ⟨k + 1, by go_num, by omega, Lib.hid (by rw [take_snoc' HP.out]; exact O2.out), E2⟩
        case measure => simp [intOf]; omega
      | true =>
        have HH := Lib.hid hh
        rw [hh] at c1
        clear hh
        go_wp2_with (at_builtin; refine wpList_app (d := Rp.pp) (base := w.heap.size) rfl (.tmp 40) (.tmp 42) 84 rfl 94 i0 _ 8 Try.underlying84 hi hz0 hz1 hz2 rfl (v := u3) rfl (hO.out.ext ((((((Ext.refl wr).alloc _).alloc _).alloc _).alloc _).alloc _)) (fun q hq => by simp at hq; omega) ⟨wr.heap.size + 1 + 1 + 1 + 1, 0, none⟩ 1 [.pointer (some ⟨wr.heap.size + 1, 0, none⟩)] [p] rfl rfl (lit_at _ _ _ _ (by simp)) (one_elem (p := fun i y => (Rp.pp).K _ (fun q => w.heap.size ≤ q ∧ some q ≠ Value.ownBlock u3) y (([.pointer (some ⟨wr.heap.size + 1, 0, none⟩)].drop (i * (Rp.pp).sz)).take (Rp.pp).sz)) ⟨_,rfl,PpAt.yes HH.out (hno.out _ (by omega)) (hno.out (wr.heap.size + 1 + 1 + 1) (by omega)) (hno.out (wr.heap.size + 1 + 1) (by omega)) ((blk_at _ _ _ _ (by simp)).ext ((((Ext.refl _).alloc _).alloc _).alloc _)) ((blk_at _ _ _ _ (by simp)).ext ((Ext.refl _).alloc _)) ((blk_at _ _ _ _ (by simp)).ext (((Ext.refl _).alloc _).alloc _))⟩) (by simp [maxLen]; omega) (by simp; omega) (by simp; omega) ?_; intro v2 w2 own2 g2 f2; have O2 := Lib.hid own2; have G2 := Lib.hid g2; have F2 := Lib.hid f2; clear own2 g2 f2; obtain ⟨A2, n2, cap2, rfl⟩ := own_shape O2.out; skip)
        have E2 := ext_app hE ((((((Ext.refl wr).alloc _).alloc _).alloc _).alloc _).alloc _) (fun k hk => (hO.out.own k hk).1) G2.out
        go_wp2_with fail
        go_roundw
        case rel => exact ⟨k + 1, by go_num, by omega, Lib.hid (by rw [take_snoc' HP.out]; exact O2.out), E2⟩
        case measure => simp [intOf]; omega
    · have hkn : Hid (k = ps.length) := Lib.hid (by omega)
      go_wp2_with fail
      go_ret
      have own := hO.out
      rw [hkn.out, List.take_length] at own
      exact ⟨_, rfl, own, hE⟩
end Go.Proofs.Ythnhgfpkmbgkdaa
