/-
  The check of a member that begins (InitialCheck), and what the reference says of it.
-/
import Derived.Test.YthnhgfpkmbgkdaaCh
namespace Go.Proofs.Ythnhgfpkmbgkdaa
open Go.RowKit
set_option linter.unusedSimpArgs false
set_option linter.unusedVariables false

/-- the checker at block c, over the hasher at block b -/
def CkAt (w : World) (c b : Nat) (latest : Int) : Prop := Blk w c 81 [.pointer none, .iface 69 (.pointer (some ⟨b, 0, none⟩)), .int .i64 latest]
theorem cellsCk : Try.prog.cellsOf 81 = 3 := by kernel_rfl
/-- a peer that has another hash behind the same compaction -/
def badP (h : HsD) (p : CkD) : Bool := p.has && p.hash != h.hash && p.comp == h.comp
def initD (h : HsD) (ps : List CkD) : Bool := !(ps.any (badP h))
theorem any_snoc {α : Type} {xs : List α} {k : Nat} {x : α} (h : xs[k]? = some x) (f : α → Bool) : (xs.take (k + 1)).any f = ((xs.take k).any f || f x) := by
  rw [take_snoc' h, List.any_append]; simp
/-- the cells of a peer that answers -/
theorem pp_yes {w : World} {ok : Nat → Prop} {p : CkD} {b : Nat} (h : PpAt w ok p b) (hp : p.has = true) : ∃ b2 b3, w.cell? ⟨b, 0, none⟩ = some (.int .u64 p.id) ∧ w.cell? ⟨b, 2, none⟩ = some (.pointer (some ⟨b2, 0, none⟩)) ∧
    w.cell? ⟨b2, 0, none⟩ = some (.pointer (some ⟨b3, 0, none⟩)) ∧ w.cell? ⟨b2, 1, none⟩ = some (.int .u32 p.hash) ∧ w.cell? ⟨b2, 2, none⟩ = some (.int .i64 p.comp) ∧ w.cell? ⟨b3, 2, none⟩ = some (.int .i64 p.rev) := by
  obtain ⟨_, h⟩ := h
  rw [if_pos hp] at h
  obtain ⟨b2, b3, _, _, k1, k2, k3⟩ := h
  exact ⟨b2, b3, k1.cell rfl, k1.cell rfl, k2.cell rfl, k2.cell rfl, k2.cell rfl, k3.cell rfl⟩
theorem pp_no {w : World} {ok : Nat → Prop} {p : CkD} {b : Nat} (h : PpAt w ok p b) (hp : p.has = false) : w.cell? ⟨b, 2, none⟩ = some (.pointer none) := by
  obtain ⟨_, h⟩ := h
  rw [if_neg (by simp [hp])] at h
  exact h.cell rfl
set_option maxRecDepth 20000 in
set_option maxHeartbeats 2000000 in
theorem specInit_any (h : HsD) (ps : List CkD) (v : Value) (w : World) (hp : (Rp.slice Rp.ck).K w any ps [v]) (hl : ps.length ≤ 1000) :
    Calls Try.prog 15 #[hsV h, v] w fun e w' => e = .returned (.bool (initD h ps)) ∧ Ext w w' := by
  obtain ⟨A, cap, hv, p1, p2, p3, hrow⟩ := hp
  simp only [List.cons.injEq, and_true] at hv
  subst hv
  have HR := Lib.hid hrow
  clear hrow
  have hK := Blk.new w 25 (hsCells h)
  obtain ⟨W, hW⟩ : ∃ W, W = w.alloc (.cells (hsCells h).toArray 25) := ⟨_, rfl⟩
  have E0 : Ext w W := by rw [hW]; exact (Ext.refl w).alloc _
  rw [← hW] at hK
  go_enter Try.func15, Try.ntmps15
  go_wp2_with fail
  change Code.wp _ _ _ _ (w.alloc (.cells (hsCells h).toArray 25))
  rw [← hW]
  clear hW
  go_loopw [9] (fun i wr => ∃ k : Nat, i = .int .i64 k ∧ k ≤ ps.length ∧ Hid ((ps.take k).any (badP h) = false) ∧ Ext W wr) (fun i _ => ps.length - (intOf i).toNat)
  case atStart => exact ⟨0, rfl, Nat.zero_le _, Lib.hid rfl, Ext.refl _⟩
  case round =>
    obtain ⟨k, rfl, hk, hB, hE⟩ := hrel
    have E2 := E0.trans hE
    by_cases hlt : k < ps.length
    · obtain ⟨p, hp⟩ : ∃ p, ps[k]? = some p := ⟨_, List.getElem?_eq_getElem hlt⟩
      obtain ⟨ba, o, rfl, _⟩ := HR.out.addr (List.ne_nil_of_length_pos (by omega))
      obtain ⟨_, hc⟩ := flat_at HR.out rfl hp E2
      have c0 := hc 0 _ rfl
      have c1 := hc 1 _ rfl
      have c2 := hc 2 _ rfl
      have c3 := hc 3 _ rfl
      have c4 := hc 4 _ rfl
      have c5 := hc 5 _ rfl
      simp only [Nat.add_zero, ← Nat.add_assoc] at c0 c1 c2 c3 c4 c5
      have HP := Lib.hid hp
      have d0 := (hK.ext hE).cell (o := 0) rfl
      have d1 := (hK.ext hE).cell (o := 1) rfl
      have hsz := hE.size
      have hsz0 : w.heap.size < wr.heap.size := (hK.ext hE).lt
      clear hp hc
      have HS : Hid ((ps.take (k + 1)).any (badP h) = ((ps.take k).any (badP h) || badP h p)) := Lib.hid (any_snoc HP.out _)
      cases hh : p.has with
      | false =>
        have hb : Hid (badP h p = false) := Lib.hid (by simp [badP, hh])
        go_wp2_with fail
        go_roundw
        case rel => exact ⟨k + 1, by go_num, by omega, Lib.hid (by rw [HS.out, hB.out, hb.out]; rfl), hE.alloc _⟩
        case measure => simp [intOf]; omega
      | true =>
        by_cases h1 : p.hash = h.hash
        · have hb : Hid (badP h p = false) := Lib.hid (by simp [badP, h1])
          have q1 : (p.hash != h.hash) = false := by simp [h1]
          have q1' : (p.hash == h.hash) = true := by simp [h1]
          replace h1 := Lib.hid h1
          go_wp2_with fail
          go_roundw
          case rel => exact ⟨k + 1, by go_num, by omega, Lib.hid (by rw [HS.out, hB.out, hb.out]; rfl), hE.alloc _⟩
          case measure => simp [intOf]; omega
        · have q1 : (p.hash != h.hash) = true := by simp [h1]
          have q1' : (p.hash == h.hash) = false := by simp [h1]
          by_cases h2 : p.comp = h.comp
          · have hb : Hid (initD h ps = false) := Lib.hid (by
              have : ps.any (badP h) = true := List.any_eq_true.2 ⟨p, List.mem_of_getElem? HP.out, by simp [badP, hh, h1, h2]⟩
              simp [initD, this])
            have q2 : (p.comp == h.comp) = true := by simp [h2]
            replace h1 := Lib.hid h1
            replace h2 := Lib.hid h2
            go_wp2_with fail
            go_ret
            exact ⟨by rw [hb.out]; rfl, E2.alloc _⟩
          · have hb : Hid (badP h p = false) := Lib.hid (by simp [badP, h2])
            have q2 : (p.comp == h.comp) = false := by simp [h2]
            replace h1 := Lib.hid h1
            replace h2 := Lib.hid h2
            go_wp2_with fail
            go_roundw
            case rel => exact ⟨k + 1, by go_num, by omega, Lib.hid (by rw [HS.out, hB.out, hb.out]; rfl), hE.alloc _⟩
            case measure => simp [intOf]; omega
    · have hkn : Hid (k = ps.length) := Lib.hid (by omega)
      go_wp2_with fail
      go_ret
      have hb := hB.out
      rw [hkn.out, List.take_length] at hb
      exact ⟨by simp [initD, hb], E2⟩

abbrev errI : Value := .iface 121 (.string ⟨#[46, 46, 32, 102, 111, 117, 110, 100, 32, 100, 97, 116, 97, 32, 105, 110, 99, 111, 110, 115, 105, 115, 116, 101, 110, 99, 121, 32, 119, 105, 116, 104, 32, 112, 101, 101, 114, 115]⟩)
def initE (h : HsD) (ps : List CkD) : Value := if initD h ps then .nilIface else errI
/-- a hasher from outside, that has told nothing yet -/
abbrev hst0 (f s : HsD) (rev2 own : Int) (fn : Value) : HSt := ⟨f, s, rev2, 0, own, fn, .slice none 0 0, .slice none 0 0, .slice none 0 0⟩
noncomputable def ops_36_4 : Array Oper := opsAt Try.f36 4
set_option maxRecDepth 20000 in
set_option maxHeartbeats 4000000 in
theorem initial_any (c b cc : Nat) (f s : HsD) (rev2 own latest : Int) (ps : List CkD) (v : Value) (w : World) (hK : CkAt w c b latest) (hH : Blk w b 73 (hstCells (hst0 f s rev2 own (.func (.func 35) #[] #[.pointer (some ⟨cc, 0, none⟩)]))))
    (hC : Blk w cc 59 [v]) (hcb : c ≠ b) (hccb : cc ≠ b) (hp : (Rp.slice Rp.pe).K w (fun k => k ≠ b) ps [v]) (hl : ps.length ≤ 1000) :
    Calls Try.prog 36 #[.pointer (some ⟨c, 0, none⟩)] w fun e w' => e = .returned (initE f ps) ∧ ExtX (fun k => k = b) w w' := by
  obtain ⟨x, hx⟩ : ∃ x, x = hst0 f s rev2 own (.func (.func 35) #[] #[.pointer (some ⟨cc, 0, none⟩)]) := ⟨_, rfl⟩
  have HA : HAt w b b x [] [] := ⟨by rw [hx]; exact hH, by rw [hx]; exact OwnP.nil _ _ _ _ _, by rw [hx]; exact OwnP.nil _ _ _ _ _, Nat.le_refl _⟩
  have HPR : Hid (∀ k, HPriv b x k → k = b) := Lib.hid (fun k hk => by rw [hx] at hk; rcases hk with h | h | h <;> first | exact h | simp [Value.ownBlock] at h)
  have hfn : Hid (x.fn = .func (.func 35) #[] #[.pointer (some ⟨cc, 0, none⟩)]) := Lib.hid (by rw [hx])
  have hxf : Hid (hashNow x = f) := Lib.hid (by rw [hx]; rfl)
  have hxa : x.asked = 0 := by rw [hx]
  have hxa0 : 0 ≤ x.asked := by omega
  have hxa1 : x.asked ≤ 10 := by omega
  replace hx := Lib.hid hx
  replace hxa := Lib.hid hxa
  have HHA := Lib.hid HA
  have HP := Lib.hid hp
  have HCK : Hid (Blk w c 81 [.pointer none, .iface 69 (.pointer (some ⟨b, 0, none⟩)), .int .i64 latest]) := Lib.hid hK
  have HC := Lib.hid hC
  have k1 := HCK.out.cell (o := 1) rfl
  clear HA hp hK hH hC
  go_enter Try.func36, Try.ntmps36
  go_wp2_with fail
  refine (hashBy_any b b x [] [] 0 w HHA.out hxa0 hxa1).mono ?_
  rintro e w1 ⟨rfl, h1, X1⟩
  rw [hxf.out]
  have H1 := Lib.hid h1
  have k1 := (HCK.out.extX X1 hcb).cell (o := 1) rfl
  clear h1
  go_wp2_with fail
  obtain ⟨W2, hW2⟩ : ∃ W, W = w1.alloc (.cells (hsCells f).toArray 55) := ⟨_, rfl⟩
  have E12 : Ext w1 W2 := by rw [hW2]; exact (Ext.refl w1).alloc _
  have KF : Blk W2 w1.heap.size 55 (hsCells f) := by rw [hW2]; exact Blk.new w1 _ _
  change Code.wp _ _ _ _ (w1.alloc (.cells (hsCells f).toArray 55))
  rw [← hW2]
  clear hW2
  have X02 : ExtX (fun k => k = b) w W2 := X1.trans (E12.toX _)
  have k1 := (HCK.out.extX X02 hcb).cell (o := 1) rfl
  have f2 := KF.cell (o := 2) rfl
  have H2 := Lib.hid (H1.out.ext E12)
  have hb1 : b < w1.heap.size := H1.out.lt
  have hne : w1.heap.size ≠ b := by omega
  have HC2 := Lib.hid (HC.out.extX X02 hccb)
  have HP2 := Lib.hid ((Rp.slice Rp.pe).extX X02 HP.out (fun k hk => hk))
  have hna : ∀ w : World, (nilAhead 277 69 (.pointer (some ⟨b, 0, none⟩)) "PeerHashByRev").run Try.prog w = .ok (some false) w := fun _ => by kernel_rfl
  have hme : ∀ w : World, (method 277 69 (.pointer (some ⟨b, 0, none⟩)) "PeerHashByRev").run Try.prog w = .ok (94, .pointer (some ⟨b, 0, none⟩)) w := fun _ => by kernel_rfl
  refine wp_region_sched (ops := ops_36_4) (ExtX (fun k => k = b)) [] (.quiet 0 (.quiet 1 (.quiet 2 (.quiet 3 (.quiet 4 (.quiet 5 (.loud 6 (.quiet 7 (.done)) (.stop)))))))) (by kernel_rfl) (ExtX.refl (fun k => k = b)) (fun _ _ _ => ExtX.trans) (by kernel_rfl) (fun _ _ d _ _ h => by cases d <;> exact h) ?_
  refine wpS_quiet (some 22) { dst := some 22, op := Op.move (Operand.tmp 0), type := _, pos := _, after := _, guard := none } _ rfl rfl (by rfl) (fun wE hE => by (go_simp; try with_reducible rfl)) ?_; simp only [Act.put, List.setIfInBounds_toArray, List.set_cons_zero, List.set_cons_succ]
  refine wpS_quiet (some 23) { dst := some 23, op := Op.nilCheck (Operand.tmp 22), type := _, pos := _, after := _, guard := none } _ rfl rfl (by rfl) (fun wE hE => by (go_simp; try with_reducible rfl)) ?_; simp only [Act.put, List.setIfInBounds_toArray, List.set_cons_zero, List.set_cons_succ]
  refine wpS_quiet (some 24) { dst := some 24, op := Op.fieldAddr 81 (Operand.tmp 23) 1, type := _, pos := _, after := _, guard := none } _ rfl rfl (by rfl) (fun wE hE => by (go_simp; try with_reducible rfl)) ?_; simp only [Act.put, List.setIfInBounds_toArray, List.set_cons_zero, List.set_cons_succ]
  refine wpS_quiet (some 25) { dst := some 25, op := Op.load 77 (Operand.tmp 24), type := _, pos := _, after := _, guard := none } _ rfl rfl (by rfl) (fun wE hE => by (have zk0 := hE.cellS (by first | exact hcb | exact hne) k1; have zk1 := hE.cellS (by first | exact hcb | exact hne) f2; go_simp; try with_reducible rfl)) ?_; simp only [Act.put, List.setIfInBounds_toArray, List.set_cons_zero, List.set_cons_succ]
  refine wpS_quiet (some 26) { dst := some 26, op := Op.fieldAddr 55 (Operand.tmp 3) 2, type := _, pos := _, after := _, guard := none } _ rfl rfl (by rfl) (fun wE hE => by (go_simp; try with_reducible rfl)) ?_; simp only [Act.put, List.setIfInBounds_toArray, List.set_cons_zero, List.set_cons_succ]
  refine wpS_quiet (some 27) { dst := some 27, op := Op.load 2 (Operand.tmp 26), type := _, pos := _, after := _, guard := none } _ rfl rfl (by rfl) (fun wE hE => by (have zk0 := hE.cellS (by first | exact hcb | exact hne) k1; have zk1 := hE.cellS (by first | exact hcb | exact hne) f2; go_simp; try with_reducible rfl)) ?_; simp only [Act.put, List.setIfInBounds_toArray, List.set_cons_zero, List.set_cons_succ]
  refine wpS_call (some 28) { dst := some 28, op := Op.call { callee := Callee.invoke (Operand.tmp 25) "PeerHashByRev", args := #[Operand.tmp 27], argTypes := #[2] }, type := _, pos := _, after := _, guard := none } _ _ rfl rfl (by rfl) (by go_simp; try first | with_reducible rfl | exact ⟨rfl, rfl⟩) ?_
  refine (ask35 b b { x with asked := x.asked + 1 } [] [] f.rev cc ps _ (H2.out.ext (Ext.refl _).drew) (by simp) hfn.out (fun W XW => clo35 cc ps v (.int .i64 f.rev) W (HC2.out.extX XW.undrew (fun h => hccb (HPR.out _ h))) ((Rp.slice Rp.pe).toAny ((Rp.slice Rp.pe).extX XW.undrew HP2.out (fun k hk hm => hk (HPR.out _ hm)))) hl)).mono ?_; rintro e w3 ⟨vr, v', rfl, h3, ho, X3, hpr⟩; refine ⟨_, rfl, (X3.mono (fun k _ hk ↦ HPR.out _ hk)), ?_⟩; simp only [Act.put, List.setIfInBounds_toArray, List.set_cons_zero, List.set_cons_succ]
  refine wpS_quiet (some 6) { dst := some 6, op := Op.assign (Operand.tmp 28), type := _, pos := _, after := _, guard := none } _ rfl rfl (by rfl) (fun wE hE => by (go_simp; try with_reducible rfl)) ?_; simp only [Act.put, List.setIfInBounds_toArray, List.set_cons_zero, List.set_cons_succ]
  change Exit.then _ _ _ _ _
  have HO := Lib.hid ho
  have X23 : ExtX (fun k => k = b) W2 w3 := X3.undrew.mono (fun k _ hk => HPR.out _ hk)
  have KF3 := KF.extX X23 hne
  have X03 := X02.trans X23
  obtain ⟨A4, n4, cap4, rfl⟩ := own_shape HO.out
  obtain ⟨A, cap, hv, p1, p2, p3, hrow⟩ := HO.out.slice
  simp only [List.cons.injEq, Value.slice.injEq, and_true] at hv
  obtain ⟨rfl, rfl, rfl⟩ := hv
  have HR := Lib.hid hrow
  have hne3 : w1.heap.size < w3.heap.size := KF3.lt
  clear hrow ho h3 X3 hpr hna hme k1 f2 p3
  go_wp2_with fail
  go_loopw [7, 31] (fun m i wr => ∃ (k n : Nat), i = .int .i64 k ∧ k ≤ ps.length ∧ m = .int .i64 n ∧ n ≤ k ∧ Hid (decide (0 < n) = (ps.take k).any (badP f)) ∧ Ext w3 wr) (fun _ i _ => ps.length - (intOf i).toNat)
  case atStart => exact ⟨0, 0, rfl, Nat.zero_le _, rfl, Nat.le_refl _, Lib.hid rfl, Ext.refl _⟩
  case round =>
    obtain ⟨k, n, rfl, hk, rfl, hn, hB, hE⟩ := hrel
    by_cases hlt : k < ps.length
    · obtain ⟨p, hp⟩ : ∃ p, ps[k]? = some p := ⟨_, List.getElem?_eq_getElem hlt⟩
      obtain ⟨ba, o, rfl, _⟩ := HR.out.addr (List.ne_nil_of_length_pos (by omega))
      obtain ⟨cs, _, ⟨be, rfl, hpp⟩, hc⟩ := HR.out.at rfl hp
      have cE : wr.cell? ⟨ba, o + k, none⟩ = some (.pointer (some ⟨be, 0, none⟩)) := hE.cellS (by simpa [Rp.pp] using hc 0 (by decide))
      have HPP := Rp.pp.ext' hE ⟨be, rfl, hpp⟩
      obtain ⟨be', hbe, HPP⟩ := HPP
      simp only [List.cons.injEq, Value.pointer.injEq, Option.some.injEq, Addr.mk.injEq, and_true] at hbe
      obtain rfl := hbe
      have HP := Lib.hid hp
      have HPP := Lib.hid HPP
      have d0 := (KF3.ext hE).cell (o := 0) rfl
      have d1 := (KF3.ext hE).cell (o := 1) rfl
      have HS : Hid ((ps.take (k + 1)).any (badP f) = ((ps.take k).any (badP f) || badP f p)) := Lib.hid (any_snoc HP.out _)
      clear hp hc hpp
      cases hh : p.has with
      | false =>
        have hb : Hid (badP f p = false) := Lib.hid (by simp [badP, hh])
        have e2 := pp_no HPP.out hh
        replace hh := Lib.hid hh
        go_wp2_with fail
        go_roundw
        case rel => exact ⟨k + 1, n, by go_num, by omega, rfl, by omega, Lib.hid (by rw [HS.out, hB.out, hb.out]; simp), hE⟩
        case measure => simp [intOf]; omega
      | true =>
        obtain ⟨b2, b3, e0, e2, g0, g1, g2, g3⟩ := pp_yes HPP.out hh
        by_cases h1 : p.hash = f.hash
        · have hb : Hid (badP f p = false) := Lib.hid (by simp [badP, h1])
          have q1 : (f.hash != p.hash) = false := by simp [h1]
          have q1' : (f.hash == p.hash) = true := by simp [h1]
          replace h1 := Lib.hid h1
          replace hh := Lib.hid hh
          go_wp2_with fail
          go_quiet (fail)
          go_wp2_with fail
          go_roundw
          case rel => exact ⟨k + 1, n, by go_num, by omega, rfl, by omega, Lib.hid (by rw [HS.out, hB.out, hb.out]; simp), hE.drewN _⟩
          case measure => simp [intOf]; omega
        · have q1 : (f.hash != p.hash) = true := by simp [Ne.symm h1]
          have q1' : (f.hash == p.hash) = false := by simp [Ne.symm h1]
          by_cases h2 : p.comp = f.comp
          · have hb : Hid (badP f p = true) := Lib.hid (by simp [badP, hh, h1, h2])
            have q2 : (f.comp == p.comp) = true := by simp [h2]
            replace h1 := Lib.hid h1
            replace h2 := Lib.hid h2
            replace hh := Lib.hid hh
            go_wp2_with fail
            go_quiet (fail)
            go_wp2_with fail
            go_quiet (fail)
            go_wp2_with fail
            go_roundw
            case rel => exact ⟨k + 1, n + 1, by go_num, by omega, by go_num, by omega, Lib.hid (by rw [HS.out, hb.out]; simp), (by first | exact (hE.drewN _).drewN _ | exact hE.drewN _ | exact hE)⟩
            case measure => simp [intOf]; omega
          · have hb : Hid (badP f p = false) := Lib.hid (by simp [badP, h2])
            have q2 : (f.comp == p.comp) = false := by simp [Ne.symm h2]
            replace h1 := Lib.hid h1
            replace h2 := Lib.hid h2
            replace hh := Lib.hid hh
            go_wp2_with fail
            go_quiet (fail)
            go_wp2_with fail
            go_quiet (fail)
            go_wp2_with fail
            go_roundw
            case rel => exact ⟨k + 1, n, by go_num, by omega, rfl, by omega, Lib.hid (by rw [HS.out, hB.out, hb.out]; simp), (by first | exact (hE.drewN _).drewN _ | exact hE.drewN _ | exact hE)⟩
            case measure => simp [intOf]; omega
    · have hkn : Hid (k = ps.length) := Lib.hid (by omega)
      have hb := hB.out
      rw [hkn.out, List.take_length] at hb
      by_cases hn0 : 0 < n
      · have hr : Hid (initE f ps = errI) := Lib.hid (by unfold initE initD; rw [← hb]; simp [hn0])
        replace hb := Lib.hid hb
        have hn1 : (0 : Int) < (n : Int) := by omega
        go_wp2_with fail
        go_ret
        exact ⟨by rw [hr.out]; rfl, X03.trans (hE.toX _)⟩
      · have hr : Hid (initE f ps = .nilIface) := Lib.hid (by unfold initE initD; rw [← hb]; simp [hn0])
        replace hb := Lib.hid hb
        have hn1 : decide ((0 : Int) < (n : Int)) = false := decide_eq_false (by omega)
        go_wp2_with fail
        go_ret
        exact ⟨by rw [hr.out]; rfl, X03.trans (hE.toX _)⟩
end Go.Proofs.Ythnhgfpkmbgkdaa
