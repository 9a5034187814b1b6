/-
  impl.CompactCheck: rounds of a checker, over whatever checkPeerHashes answers.
-/
import Derived.Test.YthnhgfpkmbgkdaaDg
import Derived.Handy
import Derived.Deep.Cut
namespace Go.Proofs.Ythnhgfpkmbgkdaa
open Go.RowKit
set_option linter.unusedSimpArgs false
set_option linter.unusedVariables false

/-- a round: the hashes, the revisions, what the peers answer -/
structure RdD where
  hs : List HsD
  revs : List Int
  pss : List (List CkD)
def Rp.rd : Rp RdD := ((Rp.slice Rp.hs).pair ((Rp.slice Rp.i64).pair (Rp.slice (Rp.slice Rp.ck)))).iso (fun r => (r.hs, r.revs, r.pss))
/-- what a checker knows, whom it has accused, what it has asked for -/
def stepC (stp rt : RdD → HsD → Bool) (als : RdD → HsD → List Int) (s : Int × List (List Int) × List (List Int)) (r : RdD) : Int × List (List Int) × List (List Int) :=
  (latestG (stp r) (rt r) s.1 (unchk s.1 r.hs), s.2.1 ++ [alarmG (stp r) (als r) (unchk s.1 r.hs)], s.2.2 ++ [askedG (stp r) (unchk s.1 r.hs)])
def compD (stp rt : RdD → HsD → Bool) (als : RdD → HsD → List Int) (rs : List RdD) : Int × List (List Int) × List (List Int) := rs.foldl (stepC stp rt als) (0, [], [])
theorem compD_snoc {stp rt : RdD → HsD → Bool} {als : RdD → HsD → List Int} {rs : List RdD} {k : Nat} {r : RdD} (h : rs[k]? = some r) : compD stp rt als (rs.take (k + 1)) = stepC stp rt als (compD stp rt als (rs.take k)) r := by
  rw [take_snoc' h]; unfold compD; rw [List.foldl_append]; rfl
theorem compD_len (stp rt : RdD → HsD → Bool) (als : RdD → HsD → List Int) (rs : List RdD) : (compD stp rt als rs).2.1.length = rs.length ∧ (compD stp rt als rs).2.2.length = rs.length := by
  have key : ∀ (rs : List RdD) (s : Int × List (List Int) × List (List Int)), (rs.foldl (stepC stp rt als) s).2.1.length = s.2.1.length + rs.length ∧ (rs.foldl (stepC stp rt als) s).2.2.length = s.2.2.length + rs.length := by
    intro rs
    induction rs with
    | nil => intro s; exact ⟨rfl, rfl⟩
    | cons r rs ih =>
      intro s
      have := ih (stepC stp rt als s r)
      simp only [stepC, List.length_append, List.length_cons, List.length_nil] at this
      rw [List.foldl_cons]
      simp only [stepC, List.length_cons]
      omega
  have := key rs (0, [], [])
  simpa [compD] using this
/-- the contract that checkPeerHashes owes in a round -/
structure RdOk (own : Int) (stp rt : HsD → Bool) (als : HsD → List Int) (r : RdD) : Prop where
  chk : ∀ (latest : Int) (c b : Nat) (x : HSt), x.own = own → ChkOk c b b x [] latest (peersD r.revs r.pss) stp rt als (unchk latest r.hs)
  st0 : ∀ h ∈ r.hs, peersD r.revs r.pss h.rev = [] → stp h = false
  st1 : ∀ h ∈ r.hs, stp h = false → rt h = false ∧ als h = []
  al1 : ∀ h, (als h).length ≤ 1
  n : r.hs.length ≤ 12
  pl : ∀ q, (peersD r.revs r.pss q).length ≤ 12
  ps : ∀ ps ∈ r.pss, ps.length ≤ 1000
theorem unchk_mem {latest : Int} {l : List HsD} {h : HsD} (hm : h ∈ unchk latest l) : h ∈ l := by
  have h1 : h ∈ sortD l := (List.takeWhile_sublist _).subset hm
  exact (sortD_perm l).mem_iff.1 h1
theorem alarm_len {stp : HsD → Bool} {als : HsD → List Int} (h : ∀ h, (als h).length ≤ 1) (l : List HsD) : (alarmG stp als l).length ≤ 1 := by
  unfold alarmG; split
  · exact h _
  · simp
/-- two slices of slices of the call's own -/
structure OutAt (w : World) (B : Nat) (va vq : Value) (A Q : List (List Int)) : Prop where
  a : OwnP (Rp.slice Rp.u64) w (fun k => B ≤ k ∧ some k ≠ vq.ownBlock) B 41 va A
  q : OwnP (Rp.slice Rp.i64) w (fun k => B ≤ k ∧ some k ≠ va.ownBlock) B 27 vq Q
theorem OutAt.nil (w : World) (B : Nat) : OutAt w B (.slice none 0 0) (.slice none 0 0) [] [] := ⟨OwnP.nil _ _ _ _ _, OwnP.nil _ _ _ _ _⟩
theorem OutAt.extX {w w' : World} {B : Nat} {va vq : Value} {A Q : List (List Int)} {M : Nat → Prop} (h : OutAt w B va vq A Q) (x : ExtX M w w') (hM : ∀ k, M k → k < B ∨ w.heap.size ≤ k) : OutAt w' B va vq A Q :=
  ⟨h.a.extX x (fun k hk hl hm => by rcases hM k hm with h | h; have := hk.1; omega; omega), h.q.extX x (fun k hk hl hm => by rcases hM k hm with h | h; have := hk.1; omega; omega)⟩
theorem OutAt.ext {w w' : World} {B : Nat} {va vq : Value} {A Q : List (List Int)} (h : OutAt w B va vq A Q) (x : Ext w w') : OutAt w' B va vq A Q := h.extX (x.toX fun _ => False) (fun _ h => h.elim)
theorem OutAt.putA {w w' : World} {B : Nat} {va va' vq : Value} {A A' Q : List (List Int)} (h : OutAt w B va vq A Q) (O : OwnP (Rp.slice Rp.u64) w' (fun k => B ≤ k ∧ some k ≠ vq.ownBlock) B 41 va' A')
    (x : ExtX (fun k => some k = va.ownBlock) w w') (F : va'.ownBlock = va.ownBlock ∨ ∀ g, va'.ownBlock = some g → w.heap.size ≤ g) : OutAt w' B va' vq A' Q :=
  ⟨O, (h.q.turn (ok' := fun k => (B ≤ k ∧ some k ≠ va.ownBlock) ∧ some k ≠ va'.ownBlock) (fun k hk hl => ⟨hk, fun he => by rcases F with F | F; exact hk.2 (he.trans F); have := F k he.symm; omega⟩)).extX x (fun k hk _ hm => hk.1.2 hm) |>.turn (fun k hk _ => ⟨hk.1.1, hk.2⟩)⟩
theorem OutAt.putQ {w w' : World} {B : Nat} {va vq vq' : Value} {A Q Q' : List (List Int)} (h : OutAt w B va vq A Q) (O : OwnP (Rp.slice Rp.i64) w' (fun k => B ≤ k ∧ some k ≠ va.ownBlock) B 27 vq' Q')
    (x : ExtX (fun k => some k = vq.ownBlock) w w') (F : vq'.ownBlock = vq.ownBlock ∨ ∀ g, vq'.ownBlock = some g → w.heap.size ≤ g) : OutAt w' B va vq' A Q' :=
  ⟨(h.a.turn (ok' := fun k => (B ≤ k ∧ some k ≠ vq.ownBlock) ∧ some k ≠ vq'.ownBlock) (fun k hk hl => ⟨hk, fun he => by rcases F with F | F; exact hk.2 (he.trans F); have := F k he.symm; omega⟩)).extX x (fun k hk _ hm => hk.1.2 hm) |>.turn (fun k hk _ => ⟨hk.1.1, hk.2⟩), O⟩
theorem infoSU : (Try.prog.info? 41).map (fun i => (i.zero, i.size, i.bytes)) = some (some (.slice none 0 0), 1, 24) := by kernel_rfl
theorem infoSI : (Try.prog.info? 27).map (fun i => (i.zero, i.size, i.bytes)) = some (some (.slice none 0 0), 1, 24) := by kernel_rfl
def CompAns (A Q : List (List Int)) (w : World) (e : Ending) (w' : World) : Prop := ∃ v1 v2, e = .returned (.tuple #[v1, v2]) ∧ (Rp.slice (Rp.slice Rp.u64)).K w' any A [v1] ∧ (Rp.slice (Rp.slice Rp.i64)).K w' any Q [v2] ∧ Ext w w'
set_option maxRecDepth 20000 in
set_option maxHeartbeats 4000000 in
theorem compactCheck_any (own : Int) (stp rt : RdD → HsD → Bool) (als : RdD → HsD → List Int) (rs : List RdD) (v : Value) (w : World) (hv : (Rp.slice Rp.rd).K w any rs [v]) (hn : rs.length ≤ 1000) (hok : Hid (∀ r ∈ rs, RdOk own (stp r) (rt r) (als r) r)) :
    Calls Try.prog 9 #[.int .u64 own, v] w (CompAns (compD stp rt als rs).2.1 (compD stp rt als rs).2.2 w) := by
  obtain ⟨A, cap, he, p1, p2, p3, hrow⟩ := hv
  simp only [List.cons.injEq, and_true] at he
  subst he
  have HR := Lib.hid hrow.lt
  clear hrow p3
  go_enter Try.func9, Try.ntmps9
  go_wp2_with fail
  refine (newChecker_any own _).mono ?_
  rintro e w1 ⟨z, c, b, rfl, ⟨hb1, hc1, hz1⟩, ⟨hzb, hcb, hzc⟩, hZ, hK, hH, E1⟩
  have HZ := Lib.hid hZ
  have HK := Lib.hid hK
  have HH := Lib.hid hH.blk
  have hbl := hH.lt
  have hcl : c < w1.heap.size := Blk.lt hK
  have hzl := hZ.lt
  clear hZ hK hH
  go_wp2_with fail
  go_loopw [7, 8, 9] (fun va vq i wr => ∃ (k : Nat) (x' : HSt), i = .int .i64 k ∧ k ≤ rs.length ∧ Hid (CkAt wr c b (compD stp rt als (rs.take k)).1) ∧ Hid (Blk wr b 73 (hstCells x')) ∧ Hid (x'.own = own) ∧ Hid (Blk wr z 83 [.pointer (some ⟨c, 0, none⟩), .pointer (some ⟨b, 0, none⟩)]) ∧
      Hid (OutAt wr w1.heap.size va vq (compD stp rt als (rs.take k)).2.1 (compD stp rt als (rs.take k)).2.2) ∧ Hid (w1.heap.size ≤ wr.heap.size) ∧ Ext w wr) (fun _ _ i _ => rs.length - (intOf i).toNat)
  case atStart => exact ⟨0, _, rfl, Nat.zero_le _, HK, HH, Lib.hid rfl, HZ, Lib.hid (OutAt.nil _ _), Lib.hid (Nat.le_refl _), E1⟩
  case round =>
    obtain ⟨wo, rfl⟩ : ∃ wo : World, wo = wr := ⟨_, rfl⟩
    obtain ⟨k, x', rfl, hk, hK, hH, hO, hZ, hOut, hsz, hE⟩ := hrel
    have hSl := compD_len stp rt als (rs.take k)
    generalize hSS : compD stp rt als (rs.take k) = S at hK hOut hSl
    have hSl1 : S.2.1.length ≤ 1000 := by rw [hSl.1, List.length_take]; omega
    have hSl2 : S.2.2.length ≤ 1000 := by rw [hSl.2, List.length_take]; omega
    clear hSl
    replace hSS := Lib.hid hSS
    by_cases hlt : k < rs.length
    · obtain ⟨r, hr⟩ : ∃ r, rs[k]? = some r := ⟨_, List.getElem?_eq_getElem hlt⟩
      obtain ⟨ba, o, rfl, hob⟩ := HR.out.addr (List.ne_nil_of_length_pos (by omega))
      obtain ⟨cs, hcl3, hKr, hcell⟩ := HR.out.at rfl hr
      obtain ⟨c1, c23, rfl, hh1, c2, c3, rfl, hr1, hp1⟩ := hKr
      obtain ⟨vh, hvh⟩ : ∃ vh, c1 = [vh] := by obtain ⟨A, cap, h, _⟩ := hh1; exact ⟨_, h⟩
      obtain ⟨Ar, nr, cr, hvr⟩ : ∃ A n c, c2 = [.slice A n c] := by obtain ⟨A, cap, h, _⟩ := hr1; exact ⟨_, _, _, h⟩
      obtain ⟨Ap, np, cp, hvp⟩ : ∃ A n c, c3 = [.slice A n c] := by obtain ⟨A, cap, h, _⟩ := hp1; exact ⟨_, _, _, h⟩
      subst hvh hvr hvp
      have d0 := hE.cellS ((hcell 0 (by decide)).trans rfl)
      have d1 := hE.cellS ((hcell 1 (by decide)).trans rfl)
      have d2 := hE.cellS ((hcell 2 (by decide)).trans rfl)
      have hsz3 : Rp.rd.sz = 3 := rfl
      rw [hsz3] at d0 d1 d2
      simp only [Nat.add_zero, ← Nat.add_assoc] at d0 d1 d2
      have HHS := Lib.hid hh1
      have HRV := Lib.hid hr1
      have HPS := Lib.hid hp1
      have HRR := Lib.hid hr
      have hRD := hok.out r (List.mem_of_getElem? hr)
      have hnh := hRD.n
      have HRD := Lib.hid hRD
      obtain ⟨Ah, caph, hvh, ph1, ph2, ph3, hrowh⟩ := id hh1
      simp only [List.cons.injEq, and_true] at hvh
      subst hvh
      have HRowh := Lib.hid hrowh
      clear hcell hh1 hr1 hp1 hr hRD hcl3 hsz3 ph3 hrowh
      go_wp2_with fail
      obtain ⟨W0, hW0⟩ : ∃ W, W = wo.alloc (.cells #[.slice Ah r.hs.length caph, .slice Ar nr cr, .slice Ap np cp] 34) := ⟨_, rfl⟩
      have E0 : Ext wo W0 := by rw [hW0]; exact (Ext.refl wo).alloc _
      have KR : Blk W0 wo.heap.size 34 [.slice Ah r.hs.length caph, .slice Ar nr cr, .slice Ap np cp] := by rw [hW0]; exact Blk.new wo _ _
      change Code.wp _ _ _ _ (wo.alloc (.cells #[.slice Ah r.hs.length caph, .slice Ar nr cr, .slice Ap np cp] 34))
      rw [← hW0]
      clear hW0 d0 d1 d2
      go_loopw [11, 12] (fun oh i wi => ∃ j : Nat, i = .int .i64 j ∧ j ≤ r.hs.length ∧ Hid (OwnP Rp.hs wi (fun q => w1.heap.size ≤ q) W0.heap.size 55 oh (r.hs.take j)) ∧ Ext W0 wi) (fun _ i _ => r.hs.length - (intOf i).toNat)
      case atStart => exact ⟨0, rfl, Nat.zero_le _, Lib.hid (OwnP.nil _ _ _ _ _), Ext.refl _⟩
      case round =>
        obtain ⟨j, rfl, hj, hOh, hEi⟩ := hrel
        have d0 := (KR.ext hEi).cell (o := 0) rfl
        by_cases hlj : j < r.hs.length
        · obtain ⟨h, hh⟩ : ∃ h, r.hs[j]? = some h := ⟨_, List.getElem?_eq_getElem hlj⟩
          obtain ⟨bh, oh, rfl, _⟩ := HRowh.out.addr (List.ne_nil_of_length_pos (by omega))
          obtain ⟨_, hc⟩ := flat_at HRowh.out rfl hh (hE.trans (E0.trans hEi))
          have e0 := hc 0 _ rfl
          have e1 := hc 1 _ rfl
          have e2 := hc 2 _ rfl
          simp only [Nat.add_zero, ← Nat.add_assoc] at e0 e1 e2
          have HHJ := Lib.hid hh
          have htl : (r.hs.take j).length ≤ 1000 := by rw [List.length_take]; omega
          have hszi := hEi.size
          have hsz0 : wo.heap.size < W0.heap.size := KR.lt
          have hsz1 : w1.heap.size ≤ wo.heap.size := hsz.out
          clear hh hc
          go_wp2_with fail
          refine (hashIn_any h _).mono ?_
          rintro e wh ⟨rfl, Eh⟩
          obtain ⟨i0, hi, hz0, hz1, hz2⟩ := info_parts3 infoHs
          have hszh := Eh.size
          clear d0 e0 e1 e2
          go_wp2_with (at_builtin; refine wpList_app (d := Rp.hs) (base := W0.heap.size) rfl (.tmp 34) (.tmp 41) 53 rfl 55 i0 _ 24 Try.underlying53 hi hz0 hz1 hz2 rfl (v := u11) rfl (hOh.out.ext (Eh.trans ((Ext.refl wh).alloc _))) (fun q hq => by simp at hq; omega) ⟨wh.heap.size, 0, none⟩ 1 (hsCells h) [h] rfl rfl (lit_at _ _ _ _ (by simp)) (one_elem (p := fun i y => (Rp.hs).K _ (fun q => (w1.heap.size ≤ q) ∧ some q ≠ Value.ownBlock u11) y (((hsCells h).drop (i * (Rp.hs).sz)).take (Rp.hs).sz)) ⟨rfl,trivial⟩) (by simp [maxLen]; omega) (by simp; omega) (by simp; omega) ?_; intro v2 w2 own2 g2 f2; have O2 := Lib.hid own2; have G2 := Lib.hid g2; have F2 := Lib.hid f2; clear own2 g2 f2; obtain ⟨A2, n2, cap2, rfl⟩ := own_shape O2.out; skip)
          have E2 : Ext W0 w2 := ext_app hEi (Eh.trans ((Ext.refl wh).alloc _)) (fun k hk => (hOh.out.own k hk).1) G2.out
          go_wp2_with fail
          go_roundw
          case rel => exact ⟨j + 1, by go_num, by omega, Lib.hid (by rw [take_snoc' HHJ.out]; exact O2.out), E2⟩
          case measure => simp [intOf]; omega
        · have hjn : Hid (r.hs.take j = r.hs) := Lib.hid (by rw [show j = r.hs.length by omega, List.take_length])
          have hOw : OwnP Rp.hs wr (fun q => w1.heap.size ≤ q) W0.heap.size 55 u11 r.hs := by have := hOh.out; rw [hjn.out] at this; exact this
          have hsl := (Rp.slice Rp.hs).mono (ok' := fun q => q ≠ c ∧ q ≠ b) (fun q hq => ⟨by omega, by omega⟩) hOw.slice
          have HSL := Lib.hid hsl
          obtain ⟨A11, n11, cap11, rfl⟩ := own_shape hOw
          clear hsl hOw
          have E0i := E0.trans hEi
          have hwi : w.heap.size ≤ wo.heap.size := hE.size
          have HE := Lib.hid (hE.trans E0i)
          have hszi := E0i.size
          have hszi2 := hEi.size
          have hszo : w1.heap.size ≤ wo.heap.size := hsz.out
          have hsz0 : wo.heap.size < W0.heap.size := KR.lt
          have HKR := Lib.hid (KR.ext hEi)
          clear KR
          go_wp2_with fail
          refine (round_any z c b wo.heap.size S.1 own x' r.hs _ _ _ _ r.revs r.pss (stp r) (rt r) (als r) wr (hZ.out.ext E0i) (Blk.ext hK.out E0i) (hH.out.ext E0i) hO.out HSL.out hnh (Lib.hid (fun x hx => HRD.out.chk S.1 c b x hx)) (Lib.hid (fun h hh => HRD.out.st0 h (unchk_mem hh))) (Lib.hid (fun h hh => HRD.out.st1 h (unchk_mem hh))) (Lib.hid HRD.out.pl) (Lib.hid HRD.out.ps)
            (Lib.hid HKR.out) (Lib.hid ((Rp.slice Rp.i64).mono (fun q hq => ⟨by have := hq.2; omega, by have := hq.2; omega⟩) ((Rp.slice Rp.i64).ext' HE.out HRV.out))) (Lib.hid ((Rp.slice (Rp.slice Rp.ck)).mono (fun q hq => ⟨by have := hq.2; omega, by have := hq.2; omega⟩) ((Rp.slice (Rp.slice Rp.ck)).ext' HE.out HPS.out))) ⟨by omega, by omega⟩ hcb hzb hzc).mono ?_
          rintro e w3 ⟨v1, v2, x3, rfl, hK3, hH3, hO3, hv1, hv2, X3⟩
          have hal := alarm_len (stp := stp r) HRD.out.al1 (unchk S.1 r.hs)
          generalize hla : alarmG (stp r) (als r) (unchk S.1 r.hs) = LA at hv1 hal
          generalize hlq : askedG (stp r) (unchk S.1 r.hs) = LQ at hv2
          replace hla := Lib.hid hla
          replace hlq := Lib.hid hlq
          have HV1 := Lib.hid ((Rp.slice Rp.u64).lt hv1)
          have HV2 := Lib.hid ((Rp.slice Rp.i64).lt hv2)
          have hs3 := X3.size
          have HOut3 := Lib.hid ((hOut.out.ext E0i).extX X3 (fun q hq => .inl (by rcases hq with rfl | rfl <;> omega)))
          have HK3 := Lib.hid hK3
          have HH3 := Lib.hid hH3
          have HO3 := Lib.hid hO3
          have HZ3 := Lib.hid ((hZ.out.ext E0i).extX X3 (fun hq => by rcases hq with hq | hq; exact hzc hq; exact hzb hq))
          have HE3 := Lib.hid (((HE.out.toX _).trans X3).toExt (fun q hq => by rcases hq with rfl | rfl <;> omega))
          obtain ⟨A1, cap1, hx1, _⟩ := id hv1
          obtain ⟨A9, cap9, hx2, _⟩ := id hv2
          simp only [List.cons.injEq, and_true] at hx1 hx2
          subst hx1 hx2
          clear hv1 hv2 hK3 hH3 hO3 X3
          go_wp2_with fail
          refine (sortIDs _ _ _ hal _).mono ?_
          rintro e w4 ⟨rfl, rfl⟩
          have hw4 : w1.heap.size ≤ w4.heap.size := by omega
          have hown7 := Lib.hid (fun q (h : u7.ownBlock = some q) => hOut.out.a.own q h)
          have hown8 := Lib.hid (fun q (h : u8.ownBlock = some q) => hOut.out.q.own q h)
          have hpf1 : Hid (∀ q, wr.heap.size ≤ q ∧ q < w4.heap.size → (w1.heap.size ≤ q ∧ some q ≠ u8.ownBlock) ∧ some q ≠ u7.ownBlock) := Lib.hid (fun q hq => ⟨⟨by omega, fun he => by have := (hown8.out q he.symm).2; omega⟩, fun he => by have := (hown7.out q he.symm).2; omega⟩)
          obtain ⟨i0, hi, hz0, hz1, hz2⟩ := info_parts3 infoSU
          go_upto_region 16 with (at_builtin; refine wpList_app (d := (Rp.slice Rp.u64)) (base := w1.heap.size) rfl (.tmp 52) (.tmp 54) 35 rfl 41 i0 _ 24 Try.underlying35 hi hz0 hz1 hz2 rfl (v := u7) rfl (HOut3.out.a.ext ((Ext.refl w4).alloc _)) (fun q hq => ⟨by (simp at hq; omega), fun he => by (have h2 := (HOut3.out.q.own q he.symm).2; simp at hq; omega)⟩) ⟨w4.heap.size, 0, none⟩ 1 [.slice A1 LA.length cap1] [LA] rfl rfl (lit_at _ _ _ _ (by simp)) (one_elem (p := fun i y => ((Rp.slice Rp.u64)).K _ (fun q => (w1.heap.size ≤ q ∧ some q ≠ u8.ownBlock) ∧ some q ≠ Value.ownBlock u7) y (([.slice A1 LA.length cap1].drop (i * ((Rp.slice Rp.u64)).sz)).take ((Rp.slice Rp.u64)).sz)) ((Rp.slice Rp.u64).mono (fun q hq => hpf1.out q hq) ((Rp.slice Rp.u64).ext' ((Ext.refl w4).alloc _) HV1.out))) (by simp [maxLen]; omega) (by simp; omega) (by simp; omega) ?_; intro v2 w2 own2 g2 f2; have O2 := Lib.hid own2; have G2 := Lib.hid g2; have F2 := Lib.hid f2; clear own2 g2 f2; obtain ⟨A2, n2, cap2, rfl⟩ := own_shape O2.out; (have X2 : ExtX (fun q => some q = u7.ownBlock) w4 w2 := (((Ext.refl w4).alloc _).toX _).grown G2.out (fun q h => h.symm); have OT2 := Lib.hid (HOut3.out.putA O2.out X2 (F2.out.imp (fun h => h) (fun h g hg => by (have := h g hg; simp at this; omega)))); have HX2 := Lib.hid X2; clear X2))
          have hs2 : w4.heap.size ≤ w2.heap.size := HX2.out.size
          have HV22 : Hid ((Rp.slice Rp.i64).K w2 (fun q => wr.heap.size ≤ q ∧ q < w4.heap.size) LQ [.slice A9 LQ.length cap9]) := Lib.hid ((Rp.slice Rp.i64).extX HX2.out HV2.out (fun q hq hm => (hpf1.out q hq).2 hm))
          have hpf2 : Hid (∀ q, wr.heap.size ≤ q ∧ q < w4.heap.size → (w1.heap.size ≤ q ∧ some q ≠ (Value.slice A2 n2 cap2).ownBlock) ∧ some q ≠ u8.ownBlock) := Lib.hid (fun q hq => ⟨⟨(hpf1.out q hq).1.1, fun he => by
            rcases F2.out with hf | hf
            · exact (hpf1.out q hq).2 (he.trans hf)
            · have := hf q he.symm; simp at this; omega⟩, (hpf1.out q hq).1.2⟩)
          obtain ⟨i0, hi, hz0, hz1, hz2⟩ := info_parts3 infoSI
          go_wp2_with (at_builtin; refine wpList_app (d := (Rp.slice Rp.i64)) (base := w1.heap.size) rfl (.tmp 56) (.tmp 58) 36 rfl 27 i0 _ 24 Try.underlying36 hi hz0 hz1 hz2 rfl (v := u8) rfl (OT2.out.q.ext ((Ext.refl w2).alloc _)) (fun q hq => ⟨by (simp at hq; omega), fun he => by (have h2 := (OT2.out.a.own q he.symm).2; simp at hq; omega)⟩) ⟨w2.heap.size, 0, none⟩ 1 [.slice A9 LQ.length cap9] [LQ] rfl rfl (lit_at _ _ _ _ (by simp)) (one_elem (p := fun i y => ((Rp.slice Rp.i64)).K _ (fun q => (w1.heap.size ≤ q ∧ some q ≠ (Value.slice A2 n2 cap2).ownBlock) ∧ some q ≠ Value.ownBlock u8) y (([.slice A9 LQ.length cap9].drop (i * ((Rp.slice Rp.i64)).sz)).take ((Rp.slice Rp.i64)).sz)) ((Rp.slice Rp.i64).mono (fun q hq => hpf2.out q hq) ((Rp.slice Rp.i64).ext' ((Ext.refl w2).alloc _) HV22.out))) (by simp [maxLen]; omega) (by simp; omega) (by simp; omega) ?_; intro vB wB ownB gB fB; have OB := Lib.hid ownB; have GB := Lib.hid gB; have FB := Lib.hid fB; clear ownB gB fB; obtain ⟨AB, nB, capB, rfl⟩ := own_shape OB.out; (have X9 : ExtX (fun q => some q = u8.ownBlock) w2 wB := (((Ext.refl w2).alloc _).toX _).grown GB.out (fun q h => h.symm); have OT9 := Lib.hid (OT2.out.putQ OB.out X9 (FB.out.imp (fun h => h) (fun h g hg => by (have := h g hg; simp at this; omega)))); have HX9 := Lib.hid X9; clear X9))
          have hCS : Hid (compD stp rt als (rs.take (k + 1)) = (latestG (stp r) (rt r) S.1 (unchk S.1 r.hs), S.2.1 ++ [LA], S.2.2 ++ [LQ])) := Lib.hid (by rw [compD_snoc HRR.out, hSS.out, ← hla.out, ← hlq.out]; rfl)
          have X4B : ExtX (fun q => some q = u7.ownBlock ∨ some q = u8.ownBlock) w4 wB := (HX2.out.mono fun _ _ h => .inl h).trans (HX9.out.mono fun _ _ h => .inr h)
          have hM : ∀ q, (some q = u7.ownBlock ∨ some q = u8.ownBlock) → w1.heap.size ≤ q := fun q hq => by
            rcases hq with hq | hq
            · exact (hown7.out q hq.symm).1
            · exact (hown8.out q hq.symm).1
          have hKB : Hid (CkAt wB c b (compD stp rt als (rs.take (k + 1))).1) := Lib.hid (by rw [hCS.out]; exact Blk.extX HK3.out X4B (fun h => by have := hM c h; omega))
          have hHB := Lib.hid (HH3.out.extX X4B (fun h => by have := hM b h; omega))
          have hZB := Lib.hid (HZ3.out.extX X4B (fun h => by have := hM z h; omega))
          have hOB : Hid (OutAt wB w1.heap.size (.slice A2 n2 cap2) (.slice AB nB capB) (compD stp rt als (rs.take (k + 1))).2.1 (compD stp rt als (rs.take (k + 1))).2.2) := Lib.hid (by rw [hCS.out]; exact OT9.out)
          have hsB := X4B.size
          have hw0 : w.heap.size ≤ w1.heap.size := E1.size
          have hEB : Ext w wB := ((HE3.out.toX _).trans X4B).toExt (fun q hq => by have := hM q hq; omega)
          go_roundw
          case rel => exact ⟨k + 1, x3, by go_num, by omega, hKB, hHB, HO3, hZB, hOB, Lib.hid (by omega), hEB⟩
          case measure => simp [intOf]; omega
    · have hkn : Hid (rs.take k = rs) := Lib.hid (by rw [show k = rs.length by omega, List.take_length])
      obtain ⟨Aa, na, ca, rfl⟩ := own_shape hOut.out.a
      obtain ⟨Aq, nq, cq, rfl⟩ := own_shape hOut.out.q
      go_wp2_with fail
      go_ret2
      have h1 := hOut.out.a.slice
      have h2 := hOut.out.q.slice
      have hS := hSS.out
      rw [hkn.out] at hS
      rw [← hS] at h1 h2
      exact ⟨_, _, rfl, (Rp.slice (Rp.slice Rp.u64)).toAny h1, (Rp.slice (Rp.slice Rp.i64)).toAny h2, hE⟩
end Go.Proofs.Ythnhgfpkmbgkdaa
