/-
  FnCompactQuiet walked: peers that have the checker's hash.
-/
import Derived.Test.YthnhgfpkmbgkdaaDm
import Derived.Handy
import Derived.Deep.Cut
namespace Go.Proofs.Ythnhgfpkmbgkdaa
open Go.RowKit
set_option linter.unusedSimpArgs false
set_option linter.unusedVariables false

/-- a peer that answers behind a hash's compaction gets that hash -/
def patch1 (rev : Int) (p : CkD) (h : HsD) : CkD := if h.rev = rev ∧ p.comp = h.comp then { p with hash := h.hash } else p
def patchD (rev : Int) (hs : List HsD) (p : CkD) : CkD := hs.foldl (patch1 rev) p
theorem patch_snoc {rev : Int} {hs : List HsD} {p : CkD} {k : Nat} {h : HsD} (hh : hs[k]? = some h) : patchD rev (hs.take (k + 1)) p = patch1 rev (patchD rev (hs.take k) p) h := by
  rw [take_snoc' hh]; unfold patchD; rw [List.foldl_append]; rfl
theorem patch1_comp (rev : Int) (p : CkD) (h : HsD) : (patch1 rev p h).comp = p.comp := by unfold patch1; split <;> rfl
theorem patch_comp (rev : Int) (hs : List HsD) (p : CkD) : (patchD rev hs p).comp = p.comp := by
  unfold patchD
  induction hs generalizing p with
  | nil => rfl
  | cons h hs ih => rw [List.foldl_cons, ih, patch1_comp]
theorem patch_other {rev : Int} {hs : List HsD} {p : CkD} (h : ∀ g ∈ hs, g.rev ≠ rev) : patchD rev hs p = p := by
  unfold patchD
  induction hs generalizing p with
  | nil => rfl
  | cons g hs ih =>
    rw [List.foldl_cons, show patch1 rev p g = p from if_neg (fun hh => h g (by simp) hh.1)]
    exact ih (fun g hg => h g (by simp [hg]))
theorem patch_hash {rev : Int} {hs : List HsD} {p : CkD} {h : HsD} (hm : h ∈ hs) (hr : h.rev = rev) (hc : p.comp = h.comp) (hn : (hs.map (·.rev)).Nodup) : (patchD rev hs p).hash = h.hash := by
  induction hs generalizing p with
  | nil => cases hm
  | cons g hs ih =>
    rw [List.map_cons, List.nodup_cons] at hn
    show (patchD rev hs (patch1 rev p g)).hash = h.hash
    rcases List.mem_cons.1 hm with rfl | hm
    · rw [patch_other (fun g hg he => hn.1 (by rw [hr, ← he]; exact List.mem_map.2 ⟨g, hg, rfl⟩))]
      unfold patch1; rw [if_pos ⟨hr, hc⟩]
    · exact ih hm (by rw [patch1_comp]; exact hc) hn.2
theorem patch_wf {rev : Int} {hs : List HsD} {p : CkD} (hp : p.wf) (hw : ∀ h ∈ hs, h.wf) : (patchD rev hs p).wf := by
  unfold patchD
  induction hs generalizing p with
  | nil => exact hp
  | cons g hs ih =>
    rw [List.foldl_cons]
    refine ih ?_ (fun h hh => hw h (by simp [hh]))
    unfold patch1
    split
    · exact ⟨hp.1, (hw g (by simp)).1, hp.2.2⟩
    · exact hp
def honestD (r : RdD) : RdD := ⟨r.hs, r.revs, r.pss.mapIdx (fun i ps => ps.map (patchD ((r.revs[i]?).getD 0) r.hs))⟩
def allSame (r : RdD) (h : HsD) : Bool := !(peersD r.revs r.pss h.rev).isEmpty && (cntOf h (peersD r.revs r.pss h.rev) == (peersD r.revs r.pss h.rev).length)
/-- quiet rounds owe what they should -/
theorem quiet_ok (own : Int) (r : RdD) (h1 : r.hs.length ≤ 12) (h2 : ∀ ps ∈ r.pss, ps.length ≤ 12) (hq : ∀ h ∈ r.hs, ∀ p ∈ peersD r.revs r.pss h.rev, p.has = true → p.comp = h.comp → p.hash = h.hash) : RdOk own (allSame r) (allSame r) (fun _ => []) r where
  chk := fun latest c b x hx h hm hpf x' rl' w' v hx' hK hH hcb hp => by
    have hl : (peersD r.revs r.pss h.rev).length ≤ 12 := by
      unfold peersD
      split
      · cases hi : r.pss[r.revs.idxOf h.rev]? with
        | none => simp
        | some ps => exact h2 ps (List.mem_of_getElem? hi)
      · simp
    have hs : allSame r h = (cntOf h (peersD r.revs r.pss h.rev) == (peersD r.revs r.pss h.rev).length) := by
      unfold allSame
      cases hpp : peersD r.revs r.pss h.rev with
      | nil => exact absurd hpp hpf
      | cons a l => rfl
    rw [hs]
    exact chk_quiet c b b x' [] rl' latest h _ v w' hK hH ((Rp.slice Rp.pp).mono (fun k hk => hk.1) hp) hl (hq h (unchk_mem hm)) hcb
  st0 := fun h hm hp => by unfold allSame; rw [hp]; rfl
  st1 := fun h hm hp => ⟨hp, rfl⟩
  al1 := fun h => by simp
  n := h1
  pl := fun q => by
    unfold peersD
    split
    · cases hi : r.pss[r.revs.idxOf q]? with
      | none => simp
      | some ps => exact h2 ps (List.mem_of_getElem? hi)
    · simp
  ps := fun ps hps => Nat.le_trans (h2 ps hps) (by omega)
theorem honest_ok (own : Int) (r : RdD) (h : GoodR r) : RdOk own (allSame (honestD r)) (allSame (honestD r)) (fun _ => []) (honestD r) := by
  refine quiet_ok own (honestD r) h.nh (fun ps hps => ?_) (fun g hg p hp _ hc => ?_)
  · obtain ⟨i, hi⟩ := List.mem_iff_getElem?.1 hps
    unfold honestD at hi
    simp only [List.getElem?_mapIdx] at hi
    cases hq : r.pss[i]? with
    | none => rw [hq] at hi; cases hi
    | some ps0 =>
      rw [hq] at hi
      simp only [Option.map_some, Option.some.injEq] at hi
      rw [← hi, List.length_map]
      exact h.ps ps0 (List.mem_of_getElem? hq)
  · unfold peersD at hp
    split at hp
    · rename_i hm
      have hm : g.rev ∈ r.revs := hm
      have hi : r.revs[r.revs.idxOf g.rev]? = some g.rev := by
        rw [List.getElem?_eq_getElem (List.idxOf_lt_length_iff.2 hm)]; simp
      have he : (honestD r).pss[(honestD r).revs.idxOf g.rev]? = (r.pss[r.revs.idxOf g.rev]?).map (fun ps => ps.map (patchD g.rev r.hs)) := by
        unfold honestD
        simp only [List.getElem?_mapIdx, hi, Option.getD_some]
      rw [he] at hp
      cases hq : r.pss[r.revs.idxOf g.rev]? with
      | none => rw [hq] at hp; simp at hp
      | some ps0 =>
        rw [hq] at hp
        simp only [Option.map_some, Option.getD_some] at hp
        obtain ⟨p0, _, rfl⟩ := List.mem_map.1 hp
        rw [patch_comp] at hc
        exact patch_hash hg rfl hc h.nd
    · simp at hp
theorem alarms_none {stp rt : RdD → HsD → Bool} (rs : List RdD) : ∀ a ∈ (compD stp rt (fun _ _ => []) rs).2.1, a = [] := by
  have key : ∀ (rs : List RdD) (s : Int × List (List Int) × List (List Int)), (∀ a ∈ s.2.1, a = []) → ∀ a ∈ (rs.foldl (stepC stp rt (fun _ _ => [])) s).2.1, a = [] := by
    intro rs
    induction rs with
    | nil => intro s h; exact h
    | cons r rs ih =>
      intro s h
      rw [List.foldl_cons]
      refine ih _ (fun a ha => ?_)
      simp only [stepC] at ha
      rcases List.mem_append.1 ha with ha | ha
      · exact h a ha
      · rw [List.mem_singleton] at ha
        rw [ha]; unfold alarmG; split <;> rfl
  exact key rs _ (by simp)
theorem infoCkP : (Try.prog.info? 30).map (fun i => (i.zero, i.size, i.bytes)) = some (some (.agg #[.int .u64 0, .bool false, .int .u32 0, .int .i64 0, .int .i64 0, .int .i64 0]), 6, 40) := by kernel_rfl
theorem infoCkS : (Try.prog.info? 26).map (fun i => (i.zero, i.size, i.bytes)) = some (some (.slice none 0 0), 1, 24) := by kernel_rfl
theorem infoRd : (Try.prog.info? 34).map (fun i => (i.zero, i.size, i.bytes)) = some (some (.agg #[.slice none 0 0, .slice none 0 0, .slice none 0 0]), 3, 72) := by kernel_rfl
set_option maxRecDepth 40000 in
set_option maxHeartbeats 8000000 in
theorem walk_CompactQuiet (own : Int) (rs : List RdD) (v : Value) (w : World) (hp : (Rp.slice Rp.rd).K w any rs [v]) (hwf : ∀ r ∈ rs, ∀ h ∈ r.hs, h.wf) :
    Calls Try.prog 4 #[.int .u64 own, v] w fun e w' => e = .returned (.bool true) ∧ Ext w w' := by
  have HP := Lib.hid hp
  obtain ⟨A, cap, he, p1, p2, p3, hrow⟩ := hp
  simp only [List.cons.injEq, and_true] at he
  subst he
  have HR := Lib.hid hrow.lt
  have HWF := Lib.hid hwf
  clear hrow p3 hwf
  go_enter Try.func4, Try.ntmps4
  go_wp2_with fail
  refine (fits4_any rs _ _ HP.out).mono ?_
  rintro e w1 ⟨c, rfl, E1⟩
  cases c with
  | false =>
    go_wp2_with fail
    go_ret
    exact ⟨rfl, E1⟩
  | true =>
  go_wp2_with fail
  refine (roundsGood_any own rs _ _ ((Rp.slice Rp.rd).ext' E1 HP.out)).mono ?_
  rintro e wg ⟨c, rfl, hg, E2⟩
  have HG := Lib.hid hg
  clear hg
  have E02 := E1.trans E2
  cases c with
  | false =>
    go_wp2_with fail
    go_ret
    exact ⟨rfl, E02⟩
  | true =>
  have hn8 : rs.length ≤ 8 := (HG.out rfl).1
  have HGR := Lib.hid (HG.out rfl).2
  clear HG
  go_wp2_with fail
  go_loopw [5, 29] (fun oh i wr => ∃ k : Nat, i = .int .i64 k ∧ k ≤ rs.length ∧ Hid (OwnP Rp.rd wr any wg.heap.size 34 oh ((rs.take k).map honestD)) ∧ Ext wg wr) (fun _ i _ => rs.length - (intOf i).toNat)
  case atStart => exact ⟨0, rfl, Nat.zero_le _, Lib.hid (OwnP.nil _ _ _ _ _), Ext.refl _⟩
  case round =>
    obtain ⟨wo, rfl⟩ : ∃ wo : World, wo = wr := ⟨_, rfl⟩
    obtain ⟨k, rfl, hk, hOh, hE⟩ := hrel
    have EW := E02.trans hE
    by_cases hlt : k < rs.length
    · obtain ⟨r, hr⟩ : ∃ p, rs[k]? = some p := ⟨_, List.getElem?_eq_getElem hlt⟩
      obtain ⟨ba, o, rfl, _⟩ := HR.out.addr (List.ne_nil_of_length_pos (by omega))
      obtain ⟨Ah, ch, Ar, cr, Ap, cp, d0, d1, d2, h0, h1, h2⟩ := rd_at HR.out rfl hr (Ext.refl w)
      have d0 := EW.cellS d0
      have d1 := EW.cellS d1
      have d2 := EW.cellS d2
      obtain ⟨_, g1, g2, rowh⟩ := sl_cap h0
      obtain ⟨_, g3, g4, rowr⟩ := sl_cap h1
      obtain ⟨_, g5, g6, rowp⟩ := sl_cap h2
      have HS0 := Lib.hid h0
      have HS1 := Lib.hid h1
      have HRH := Lib.hid rowh
      have HRR := Lib.hid rowr
      have HRP := Lib.hid rowp
      have HRK := Lib.hid hr
      have hmem := List.mem_of_getElem? hr
      have HGOOD := Lib.hid (HGR.out r hmem)
      have HWR := Lib.hid (HWF.out r hmem)
      have n1 := HGOOD.out.nh
      have n2 := HGOOD.out.nr
      have n3 := HGOOD.out.np
      have hpn : r.pss.length ≤ 12 := by omega
      have HN3 := Lib.hid n3
      clear h0 h1 h2 hr rowh rowr rowp n3 hmem g2 g4 g6
      go_upto_region 10 with fail
      obtain ⟨W, hW⟩ : ∃ W, W = (wo.alloc (.cells #[.slice Ah r.hs.length ch, .slice Ar r.revs.length cr, .slice Ap r.pss.length cp] 34)).alloc (.cells #[.slice Ah r.hs.length ch, .slice Ar r.revs.length cr, .slice none 0 0] 34) := ⟨_, rfl⟩
      have E0 : Ext wo W := by rw [hW]; exact ((Ext.refl wo).alloc _).alloc _
      have K7 : Blk W wo.heap.size 34 [.slice Ah r.hs.length ch, .slice Ar r.revs.length cr, .slice Ap r.pss.length cp] := by rw [hW]; exact (Blk.new wo _ _).ext ((Ext.refl _).alloc _)
      have K8 : Blk W (wo.heap.size + 1) 34 [.slice Ah r.hs.length ch, .slice Ar r.revs.length cr, .slice none 0 0] := by rw [hW]; exact blk_at _ _ _ _ (by simp)
      change Code.wp _ _ _ _ ((wo.alloc (.cells #[.slice Ah r.hs.length ch, .slice Ar r.revs.length cr, .slice Ap r.pss.length cp] 34)).alloc (.cells #[.slice Ah r.hs.length ch, .slice Ar r.revs.length cr, .slice none 0 0] 34))
      rw [← hW]
      clear hW d0 d1 d2
      have EWW := EW.trans E0
      have hszW := E0.size
      have h8W : wo.heap.size + 1 < W.heap.size := K8.lt
      have hq2 := K7.cell (o := 2) rfl
      obtain ⟨b8, hb8⟩ : ∃ b8, b8 = wo.heap.size + 1 := ⟨_, rfl⟩
      rw [← hb8] at K8 h8W ⊢
      have h78 : wo.heap.size ≠ b8 := by omega
      replace hb8 := Lib.hid hb8
      go_wp2_with fail
      clear hq2
      go_loopw [41] (fun i wr => ∃ (i1 : Nat) (v2 : Value), i = .int .i64 i1 ∧ i1 ≤ r.pss.length ∧ Hid (Blk wr b8 34 [.slice Ah r.hs.length ch, .slice Ar r.revs.length cr, v2]) ∧ Hid (OwnP (Rp.slice Rp.ck) wr (fun q => W.heap.size ≤ q) W.heap.size 26 v2 ((r.pss.take i1).mapIdx (fun i ps => ps.map (patchD ((r.revs[i]?).getD 0) r.hs)))) ∧ ExtX (fun q => q = b8) W wr) (fun i _ => r.pss.length - (intOf i).toNat)
      case atStart => exact ⟨0, _, rfl, Nat.zero_le _, Lib.hid K8, Lib.hid (OwnP.nil _ _ _ _ _), ExtX.refl _ _⟩
      case round =>
        obtain ⟨w3, rfl⟩ : ∃ wo : World, wo = wr := ⟨_, rfl⟩
        obtain ⟨i1, v2, rfl, hi1, hB8, hO2, hX⟩ := hrel
        have hws := hX.size
        have EW3 : Ext w w3 := ((EWW.toX (fun q => q = b8)).trans hX).toExt (fun q hq => by have hq : q = b8 := hq; have := EW.size; have := hb8.out; omega)
        have K73 := K7.extX hX h78
        by_cases hl1 : i1 < r.pss.length
        · obtain ⟨ps, hps⟩ : ∃ p, r.pss[i1]? = some p := ⟨_, List.getElem?_eq_getElem hl1⟩
          obtain ⟨bp, op, rfl, hbp⟩ := HRP.out.addr (List.ne_nil_of_length_pos (by omega))
          obtain ⟨Al, cl, t0, u1, u2, hKl⟩ := rows_at HRP.out rfl hps (Ext.refl w)
          have t0 := EW3.cellS t0
          obtain ⟨_, _, _, rowl⟩ := sl_cap hKl
          have HRL := Lib.hid rowl
          have HPS := Lib.hid hps
          have hpl : ps.length ≤ 12 := HGOOD.out.ps ps (List.mem_of_getElem? hps)
          clear hps hKl rowl
          obtain ⟨rv, hrv⟩ : ∃ p, r.revs[i1]? = some p := ⟨_, List.getElem?_eq_getElem (by have := HN3.out; omega)⟩
          have HRV := Lib.hid hrv
          have hirv : i1 < r.revs.length := (List.getElem?_eq_some_iff.1 hrv).1
          clear hrv
          go_wp2_with fail
          clear t0
          go_loopw [11, 48] (fun os i wr => ∃ j : Nat, i = .int .i64 j ∧ j ≤ ps.length ∧ Hid (OwnP Rp.ck wr (fun q => w3.heap.size ≤ q) w3.heap.size 30 os ((ps.take j).map (patchD rv r.hs))) ∧ Ext w3 wr) (fun _ i _ => ps.length - (intOf i).toNat)
          case atStart => exact ⟨0, rfl, Nat.zero_le _, Lib.hid (OwnP.nil _ _ _ _ _), Ext.refl _⟩
          case round =>
            obtain ⟨w5, rfl⟩ : ∃ wo : World, wo = wr := ⟨_, rfl⟩
            obtain ⟨j, rfl, hj, hO5, hE5⟩ := hrel
            have EW5 := EW3.trans hE5
            have hs5 := hE5.size
            by_cases hl5 : j < ps.length
            · obtain ⟨p, hpj⟩ : ∃ p, ps[j]? = some p := ⟨_, List.getElem?_eq_getElem hl5⟩
              obtain ⟨bl, ol, rfl, _⟩ := HRL.out.addr (List.ne_nil_of_length_pos (by omega))
              obtain ⟨hpw, hc⟩ := flat_at HRL.out rfl hpj EW5
              have c0 := hc 0 _ rfl
              have c1 := hc 1 _ rfl
              have c2 := hc 2 _ rfl
              have c3 := hc 3 _ rfl
              have c4 := hc 4 _ rfl
              have c5 := hc 5 _ rfl
              simp only [Nat.add_zero, ← Nat.add_assoc] at c0 c1 c2 c3 c4 c5
              have HPJ := Lib.hid hpj
              have HPW := Lib.hid hpw
              clear hc hpj hpw
              go_upto_region 17 with fail
              obtain ⟨W6, hW6⟩ : ∃ W, W = w5.alloc (.cells (ckCells p).toArray 30) := ⟨_, rfl⟩
              have E6 : Ext w5 W6 := by rw [hW6]; exact (Ext.refl w5).alloc _
              have K6 : Blk W6 w5.heap.size 30 (ckCells p) := by rw [hW6]; exact Blk.new w5 _ _
              change Code.wp _ _ _ _ (w5.alloc (.cells (ckCells p).toArray 30))
              rw [← hW6]
              clear hW6 c0 c1 c2 c3 c4 c5
              have EW6 := EW5.trans E6
              have K76 := K73.ext (hE5.trans E6)
              have k0 := K76.cell (o := 0) rfl
              obtain ⟨bP, hbP⟩ : ∃ b, b = w5.heap.size := ⟨_, rfl⟩
              rw [← hbP] at K6 ⊢
              have h7P : wo.heap.size < bP := by have := K73.lt; omega
              have hwP : w.heap.size ≤ bP := by have := EW5.size; omega
              have h35 : w3.heap.size ≤ bP := by omega
              have hHbP := Lib.hid hbP
              clear hbP
              go_wp2_with fail
              clear k0
              go_loopw [55] (fun i wr => ∃ m : Nat, i = .int .i64 m ∧ m ≤ r.hs.length ∧ Hid (Blk wr bP 30 (ckCells (patchD rv (r.hs.take m) p))) ∧ ExtX (fun q => q = bP) W6 wr) (fun i _ => r.hs.length - (intOf i).toNat)
              case atStart => exact ⟨0, rfl, Nat.zero_le _, Lib.hid K6, ExtX.refl _ _⟩
              case round =>
                obtain ⟨w7, rfl⟩ : ∃ wo : World, wo = wr := ⟨_, rfl⟩
                obtain ⟨m, rfl, hm, hKP, hX7⟩ := hrel
                have EW7 : Ext w w7 := ((EW6.toX (fun q => q = bP)).trans hX7).toExt (fun q hq => by have hq : q = bP := hq; omega)
                have K77 := K76.extX hX7 (show ¬ (wo.heap.size = bP) by omega)
                by_cases hl7 : m < r.hs.length
                · obtain ⟨h, hh⟩ : ∃ p, r.hs[m]? = some p := ⟨_, List.getElem?_eq_getElem hl7⟩
                  obtain ⟨bh, oh, rfl, _⟩ := HRH.out.addr (List.ne_nil_of_length_pos (by omega))
                  obtain ⟨_, hc⟩ := flat_at HRH.out rfl hh EW7
                  have c0 := hc 0 _ rfl
                  have c1 := hc 1 _ rfl
                  have c2 := hc 2 _ rfl
                  simp only [Nat.add_zero, ← Nat.add_assoc] at c0 c1 c2
                  have HHM := Lib.hid hh
                  clear hc hh
                  obtain ⟨br, or, rfl, _⟩ := HRR.out.addr (List.ne_nil_of_length_pos (by omega))
                  have hKPl := hKP.out.lt
                  have h7l := K77.lt
                  go_upto_region 20 with fail
                  obtain ⟨W8, hW8⟩ : ∃ W, W = w7.alloc (.cells (hsCells h).toArray 25) := ⟨_, rfl⟩
                  have E8 : Ext w7 W8 := by rw [hW8]; exact (Ext.refl w7).alloc _
                  have KH8 : Blk W8 w7.heap.size 25 (hsCells h) := by rw [hW8]; exact Blk.new w7 _ _
                  change Code.wp _ _ _ _ (w7.alloc (.cells (hsCells h).toArray 25))
                  rw [← hW8]
                  clear hW8 c0 c1 c2
                  obtain ⟨y, hy⟩ : ∃ y, y = patchD rv (r.hs.take m) p := ⟨_, rfl⟩
                  have KP8 : Blk W8 bP 30 (ckCells y) := by rw [hy]; exact hKP.out.ext E8
                  obtain ⟨_, hc'⟩ := flat_at HRR.out rfl HRV.out (EW7.trans E8)
                  have s1 := hc' 0 _ rfl
                  simp only [Nat.add_zero, Nat.mul_one] at s1
                  have k1 := (K77.ext E8).cell (o := 1) rfl
                  have y3 := KP8.cell (o := 3) rfl
                  have y2 := KP8.cell (o := 2) rfl
                  have f2 := KP8.frozen 2
                  have h0 := KH8.cell (o := 0) rfl
                  have h1 := KH8.cell (o := 1) rfl
                  have h2 := KH8.cell (o := 2) rfl
                  have hsn : Hid (patchD rv (r.hs.take (m + 1)) p = patch1 rv y h) := Lib.hid (by rw [hy]; exact patch_snoc HHM.out)
                  have HY := Lib.hid hy
                  clear hc' hy
                  by_cases a1 : h.rev = rv
                  · have a1' : (h.rev == rv) = true := by simp [a1]
                    by_cases a2 : y.comp = h.comp
                    · have a2' : (y.comp == h.comp) = true := by simp [a2]
                      have hp1 : Hid (patch1 rv y h = { y with hash := h.hash }) := Lib.hid (if_pos ⟨a1, a2⟩)
                      replace a1 := Lib.hid a1
                      replace a2 := Lib.hid a2
                      go_quiet (fail)
                      go_wp2_with fail
                      go_roundw
                      case rel =>
                        refine ⟨m + 1, by go_num, by omega, Lib.hid ?_, ((hX7.trans (E8.toX _)).trans (ExtX.setCell (M := fun q => q = bP) (ExtX.refl _ W8) (p := ⟨bP, 2, none⟩) rfl _)).drewN _⟩
                        rw [hsn.out, hp1.out]
                        exact (KP8.setCell 2 (.int .u32 h.hash)).drewN _
                      case measure => simp [intOf]; omega
                    · have a2' : (y.comp == h.comp) = false := by simp [a2]
                      have hp1 : Hid (patch1 rv y h = y) := Lib.hid (if_neg (fun hh => a2 hh.2))
                      replace a1 := Lib.hid a1
                      go_quiet (fail)
                      go_wp2_with fail
                      go_roundw
                      case rel => exact ⟨m + 1, by go_num, by omega, Lib.hid (by rw [hsn.out, hp1.out]; exact KP8.drewN _), (hX7.trans (E8.toX _)).drewN _⟩
                      case measure => simp [intOf]; omega
                  · have a1' : (h.rev == rv) = false := by simp [a1]
                    have hp1 : Hid (patch1 rv y h = y) := Lib.hid (if_neg (fun hh => a1 hh.1))
                    go_quiet (fail)
                    go_wp2_with fail
                    go_roundw
                    case rel => exact ⟨m + 1, by go_num, by omega, Lib.hid (by rw [hsn.out, hp1.out]; exact KP8.drewN _), (hX7.trans (E8.toX _)).drewN _⟩
                    case measure => simp [intOf]; omega
                · have htk : Hid (r.hs.take m = r.hs) := Lib.hid (by rw [show m = r.hs.length by omega, List.take_length])
                  obtain ⟨z, hz⟩ : ∃ z, z = patchD rv r.hs p := ⟨_, rfl⟩
                  have KPz : Blk w7 bP 30 (ckCells z) := by rw [hz, ← htk.out]; exact hKP.out
                  have HZW : Hid z.wf := Lib.hid (by rw [hz]; exact patch_wf HPW.out HWR.out)
                  have HZ := Lib.hid hz
                  clear hz
                  have z0 := KPz.cell (o := 0) rfl
                  have z1 := KPz.cell (o := 1) rfl
                  have z2 := KPz.cell (o := 2) rfl
                  have z3 := KPz.cell (o := 3) rfl
                  have z4 := KPz.cell (o := 4) rfl
                  have z5 := KPz.cell (o := 5) rfl
                  have E57 : Ext w5 w7 := ((E6.toX (fun q => q = bP)).trans hX7).toExt (fun q hq => by have hq : q = bP := hq; have := hHbP.out; omega)
                  have HE57 := Lib.hid E57
                  have hs57 := E57.size
                  have hO11 := Lib.hid (fun q (hq : u11.ownBlock = some q) => hO5.out.own q hq)
                  have hll : ((ps.take j).map (patchD rv r.hs)).length ≤ 1000 := by rw [List.length_map, List.length_take]; omega
                  obtain ⟨i0, hi, hz0, hz1, hz2⟩ := info_parts3 infoCkP
                  clear E57
                  go_wp2_with (at_builtin; refine wpList_app (d := Rp.ck) (base := w3.heap.size) rfl (.tmp 78) (.tmp 80) 26 rfl 30 i0 _ 40 Try.underlying26 hi hz0 hz1 hz2 rfl (v := u11) rfl (hO5.out.ext (HE57.out.trans ((Ext.refl w7).alloc _))) (fun q hq => by simp at hq; omega) ⟨w7.heap.size, 0, none⟩ 1 (ckCells z) [z] rfl rfl (lit_at _ _ _ _ (by simp)) (one_elem (p := fun i y => (Rp.ck).K _ (fun q => (w3.heap.size ≤ q) ∧ some q ≠ Value.ownBlock u11) y (((ckCells z).drop (i * (Rp.ck).sz)).take (Rp.ck).sz)) ⟨rfl,HZW.out⟩) (by simp [maxLen]; omega) (by simp; omega) (by simp; omega) ?_; intro v2 w2 own2 g2 f2; have O2 := Lib.hid own2; have G2 := Lib.hid g2; have F2 := Lib.hid f2; clear own2 g2 f2; obtain ⟨A2, n2, cap2, rfl⟩ := own_shape O2.out; skip)
                  have E3 : Ext w3 w2 := ext_app hE5 (HE57.out.trans ((Ext.refl w7).alloc _)) (fun k hk => (hO11.out k hk).1) G2.out
                  go_wp2_with fail
                  go_roundw
                  case rel => exact ⟨j + 1, by go_num, by omega, Lib.hid (by rw [take_snoc' HPJ.out, List.map_append, List.map_singleton, ← HZ.out]; exact O2.out), E3⟩
                  case measure => simp [intOf]; omega
            · have htk : ps.take j = ps := by rw [show j = ps.length by omega, List.take_length]
              obtain ⟨LL, hLL⟩ : ∃ LL, LL = ps.map (patchD rv r.hs) := ⟨_, rfl⟩
              have hO5' : OwnP Rp.ck w5 (fun q => w3.heap.size ≤ q) w3.heap.size 30 u11 LL := by have := hO5.out; rw [htk, ← hLL] at this; exact this
              obtain ⟨A11, c11, rfl, _, _⟩ := hO5'.shape
              have HLS := Lib.hid hO5'.slice
              have HLL := Lib.hid hLL
              obtain ⟨Av, nv, cv, rfl⟩ := own_shape hO2.out
              have hB85 := Lib.hid (hB8.out.ext hE5)
              have hO25 := Lib.hid (hO2.out.ext hE5)
              have hOv2 := Lib.hid (fun q (hq : (Value.slice Av nv cv).ownBlock = some q) => hO2.out.own q hq)
              have k82 := hB85.out.cell (o := 2) rfl
              have hl2 : ((r.pss.take i1).mapIdx (fun i ps => ps.map (patchD ((r.revs[i]?).getD 0) r.hs))).length ≤ 1000 := by rw [List.length_mapIdx, List.length_take]; omega
              obtain ⟨i0, hi, hz0, hz1, hz2⟩ := info_parts3 infoCkS
              clear htk hLL hO5'
              go_wp2_with (at_builtin; refine wpList_app (d := (Rp.slice Rp.ck)) (base := W.heap.size) rfl (.tmp 84) (.tmp 86) 32 rfl 26 i0 _ 24 Try.underlying32 hi hz0 hz1 hz2 rfl (v := (.slice Av nv cv)) rfl (hO25.out.ext ((Ext.refl w5).alloc _)) (fun q hq => by simp at hq; omega) ⟨w5.heap.size, 0, none⟩ 1 [.slice A11 LL.length c11] [LL] rfl rfl (lit_at _ _ _ _ (by simp)) (one_elem (p := fun i y => ((Rp.slice Rp.ck)).K _ (fun q => (W.heap.size ≤ q) ∧ some q ≠ Value.ownBlock (.slice Av nv cv)) y (([.slice A11 LL.length c11].drop (i * ((Rp.slice Rp.ck)).sz)).take ((Rp.slice Rp.ck)).sz)) ((Rp.slice Rp.ck).mono (fun q hq => ⟨by (have h1 : w3.heap.size ≤ q := hq; omega), fun he => by (have h1 : w3.heap.size ≤ q := hq; have := (hOv2.out q he.symm).2; omega)⟩) ((Rp.slice Rp.ck).ext' ((Ext.refl w5).alloc _) HLS.out))) (by simp [maxLen]; omega) (by simp; omega) (by simp; omega) ?_; intro v2 w2 own2 g2 f2; have O2 := Lib.hid own2; have G2 := Lib.hid g2; have F2 := Lib.hid f2; clear own2 g2 f2; obtain ⟨A2, n2, cap2, rfl⟩ := own_shape O2.out; (have X2 : ExtX (fun q => some q = (Value.slice Av nv cv).ownBlock) w5 w2 := (((Ext.refl w5).alloc _).toX _).grown G2.out (fun q h => h.symm); have K2 := hB85.out.extX X2 (fun h => by (have := (hOv2.out _ h.symm).1; omega)); have f2 := K2.frozen 2; have c2 := K2.cell (o := 2) rfl; have HK2 := Lib.hid K2; have HX2 := Lib.hid X2; clear K2 X2))
              have hl1m : ∀ l : List (List CkD), (l.mapIdx (fun i ps => ps.map (patchD ((r.revs[i]?).getD 0) r.hs))) = (l.mapIdx (fun i ps => ps.map (patchD ((r.revs[i]?).getD 0) r.hs))) := fun _ => rfl
              have hsnoc : Hid ((r.pss.take (i1 + 1)).mapIdx (fun i ps => ps.map (patchD ((r.revs[i]?).getD 0) r.hs)) = (r.pss.take i1).mapIdx (fun i ps => ps.map (patchD ((r.revs[i]?).getD 0) r.hs)) ++ [LL]) := Lib.hid (by
                have hlt1 : (r.pss.take i1).length = i1 := by rw [List.length_take]; omega
                rw [take_snoc' HPS.out, List.mapIdx_concat, hlt1, HRV.out, HLL.out]; rfl)
              have XS : ExtX (fun q => q = b8) w2 (w2.setCell ⟨b8, 2, none⟩ (.slice A2 n2 cap2)) := ExtX.setCell (M := fun q => q = b8) (ExtX.refl _ w2) (p := ⟨b8, 2, none⟩) rfl _
              have hB9 : Hid (Blk (w2.setCell ⟨b8, 2, none⟩ (.slice A2 n2 cap2)) b8 34 [.slice Ah r.hs.length ch, .slice Ar r.revs.length cr, .slice A2 n2 cap2]) := Lib.hid (HK2.out.setCell 2 _)
              have hO9 : Hid (OwnP (Rp.slice Rp.ck) (w2.setCell ⟨b8, 2, none⟩ (.slice A2 n2 cap2)) (fun q => W.heap.size ≤ q) W.heap.size 26 (.slice A2 n2 cap2) ((r.pss.take (i1 + 1)).mapIdx (fun i ps => ps.map (patchD ((r.revs[i]?).getD 0) r.hs)))) := Lib.hid (by
                rw [hsnoc.out]
                exact O2.out.extX XS (fun q hq _ hm => by have hq : W.heap.size ≤ q := hq; have hm : q = b8 := hm; omega))
              have hX9 : ExtX (fun q => q = b8) W (w2.setCell ⟨b8, 2, none⟩ (.slice A2 n2 cap2)) := ((hX.trans (hE5.toX _)).trans' HX2.out (fun q hq hm => by have := (hOv2.out q hm.symm).1; omega)).trans XS
              clear hl1m
              go_roundw
              case rel => exact ⟨i1 + 1, _, by go_num, by omega, hB9, hO9, hX9⟩
              case measure => simp [intOf]; omega
        · have htk : r.pss.take i1 = r.pss := by rw [show i1 = r.pss.length by omega, List.take_length]
          have hO2' : OwnP (Rp.slice Rp.ck) w3 (fun q => W.heap.size ≤ q) W.heap.size 26 v2 (honestD r).pss := by have := hO2.out; rw [htk] at this; exact this
          obtain ⟨Av, nv, cv, rfl⟩ := own_shape hO2'
          have HPSL := Lib.hid hO2'.slice
          have b0 := hB8.out.cell (o := 0) rfl
          have b1 := hB8.out.cell (o := 1) rfl
          have b2 := hB8.out.cell (o := 2) rfl
          have Ewo3 : Ext wo w3 := ((E0.toX (fun q => q = b8)).trans hX).toExt (fun q hq => by have hq : q = b8 := hq; have := hb8.out; omega)
          have HEwo := Lib.hid Ewo3
          have hswo := Ewo3.size
          have hswg : w.heap.size ≤ wg.heap.size := E02.size
          have hsgo : wg.heap.size ≤ wo.heap.size := hE.size
          have hO5w := Lib.hid (fun q (hq : u5.ownBlock = some q) => hOh.out.own q hq)
          have hl3 : ((rs.take k).map honestD).length ≤ 1000 := by rw [List.length_map, List.length_take]; omega
          obtain ⟨i0, hi, hz0, hz1, hz2⟩ := info_parts3 infoRd
          have HY : Hid (∀ W', Ext w3 W' → Rp.rd.K W' (fun q => any q ∧ some q ≠ u5.ownBlock) (honestD r) [.slice Ah r.hs.length ch, .slice Ar r.revs.length cr, .slice Av nv cv]) := Lib.hid (fun W' e9 =>
            ⟨[.slice Ah r.hs.length ch], [.slice Ar r.revs.length cr, .slice Av nv cv], rfl, (Rp.slice Rp.hs).mono (fun q hq => ⟨trivial, fun he => by have h1 : q < w.heap.size := hq.2; have := (hO5w.out q he.symm).1; omega⟩) ((Rp.slice Rp.hs).ext' (EW3.trans e9) HS0.out),
             [.slice Ar r.revs.length cr], [.slice Av nv cv], rfl, (Rp.slice Rp.i64).mono (fun q hq => ⟨trivial, fun he => by have h1 : q < w.heap.size := hq.2; have := (hO5w.out q he.symm).1; omega⟩) ((Rp.slice Rp.i64).ext' (EW3.trans e9) HS1.out),
             (Rp.slice (Rp.slice Rp.ck)).mono (fun q hq => ⟨trivial, fun he => by have h1 : W.heap.size ≤ q := hq; have := (hO5w.out q he.symm).2; omega⟩) ((Rp.slice (Rp.slice Rp.ck)).ext' e9 HPSL.out)⟩)
          clear htk hO2' Ewo3
          go_wp2_with (at_builtin; refine wpList_app (d := Rp.rd) (base := wg.heap.size) rfl (.tmp 90) (.tmp 92) 39 rfl 34 i0 _ 72 Try.underlying39 hi hz0 hz1 hz2 rfl (v := u5) rfl (hOh.out.ext (HEwo.out.trans ((Ext.refl w3).alloc _))) (fun _ _ => trivial) ⟨w3.heap.size, 0, none⟩ 1 [.slice Ah r.hs.length ch, .slice Ar r.revs.length cr, .slice Av nv cv] [(honestD r)] rfl rfl (lit_at _ _ _ _ (by simp)) (one_elem (p := fun i y => (Rp.rd).K _ (fun q => any q ∧ some q ≠ Value.ownBlock u5) y (([.slice Ah r.hs.length ch, .slice Ar r.revs.length cr, .slice Av nv cv].drop (i * (Rp.rd).sz)).take (Rp.rd).sz)) (HY.out _ ((Ext.refl w3).alloc _))) (by simp [maxLen]; omega) (by simp; omega) (by simp; omega) ?_; intro v2 w2 own2 g2 f2; have O2 := Lib.hid own2; have G2 := Lib.hid g2; have F2 := Lib.hid f2; clear own2 g2 f2; obtain ⟨A2, n2, cap2, rfl⟩ := own_shape O2.out; skip)
          have E3 : Ext wg w2 := ext_app hE (HEwo.out.trans ((Ext.refl w3).alloc _)) (fun q hq => (hO5w.out q hq).1) G2.out
          go_wp2_with fail
          go_roundw
          case rel => exact ⟨k + 1, by go_num, by omega, Lib.hid (by rw [take_snoc' HRK.out, List.map_append, List.map_singleton]; exact O2.out), E3⟩
          case measure => simp [intOf]; omega
    · have htk : rs.take k = rs := by rw [show k = rs.length by omega, List.take_length]
      have hOe : OwnP Rp.rd wo any wg.heap.size 34 u5 (rs.map honestD) := by have := hOh.out; rw [htk] at this; exact this
      obtain ⟨Ax, nx, cx, rfl⟩ := own_shape hOe
      have HSX := Lib.hid hOe.slice
      have hlm : (rs.map honestD).length ≤ 1000 := by rw [List.length_map]; omega
      have hok : Hid (∀ r ∈ rs.map honestD, RdOk own (allSame r) (allSame r) ((fun _ _ => []) r) r) := Lib.hid (fun r hr => by
        obtain ⟨r0, hr0, rfl⟩ := List.mem_map.1 hr
        exact honest_ok own r0 (HGR.out r0 hr0))
      have hcl := (compD_len allSame allSame (fun _ _ => []) (rs.map honestD)).1
      rw [List.length_map] at hcl
      have HAL := Lib.hid (alarms_none (stp := allSame) (rt := allSame) (rs.map honestD))
      generalize hAL : (compD allSame allSame (fun _ _ => []) (rs.map honestD)).2.1 = AL at hcl HAL
      have HCL := Lib.hid hcl
      replace hAL := Lib.hid hAL
      clear htk hOe hcl
      go_wp2_with fail
      refine (compactCheck_any own allSame allSame (fun _ _ => []) (rs.map honestD) _ wo HSX.out hlm hok).mono ?_
      rintro e w4 ⟨v1, v2, rfl, h1, h2, E4⟩
      rw [hAL.out] at h1
      obtain ⟨A1, c1, hv1, q1, q2, q3, row1⟩ := h1
      obtain ⟨A2, c2, hv2, _⟩ := id h2
      simp only [List.cons.injEq, and_true] at hv1 hv2
      subst hv1 hv2
      have HR1 := Lib.hid row1
      have hal8 : AL.length ≤ 1000 := by rw [HCL.out]; omega
      clear row1 h2 q3
      go_wp2_with fail
      go_loopw [103] (fun i wr => ∃ m : Nat, i = .int .i64 m ∧ m ≤ AL.length ∧ Ext w4 wr) (fun i _ => AL.length - (intOf i).toNat)
      case atStart => exact ⟨0, rfl, Nat.zero_le _, Ext.refl _⟩
      case round =>
        obtain ⟨m, rfl, hm, hE6⟩ := hrel
        by_cases hlm2 : m < AL.length
        · obtain ⟨a, ha⟩ : ∃ p, AL[m]? = some p := ⟨_, List.getElem?_eq_getElem hlm2⟩
          obtain rfl : a = [] := HAL.out a (List.mem_of_getElem? ha)
          obtain ⟨b1, o1, rfl, _⟩ := HR1.out.addr (List.ne_nil_of_length_pos (by omega))
          obtain ⟨A9, c9, t0, _, _, _⟩ := rows_at HR1.out rfl ha hE6
          have t0 : wr.cell? ⟨b1, o1 + m, none⟩ = some (.slice A9 0 c9) := t0
          clear ha
          go_wp2_with fail
          go_roundw
          case rel => exact ⟨m + 1, by go_num, by omega, hE6⟩
          case measure => simp [intOf]; omega
        · have hle : ((AL.length : Int) == (rs.length : Int)) = true := by rw [HCL.out]; simp
          go_wp2_with fail
          refine (ckAwake_any wr).mono ?_
          rintro e w9 ⟨rfl, E9⟩
          go_wp2_with fail
          go_ret
          exact ⟨rfl, ((EW.trans E4).trans hE6).trans E9⟩
end Go.Proofs.Ythnhgfpkmbgkdaa
