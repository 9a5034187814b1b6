/-
  impl.InitialCheck, and the guards of the laws on checks (ckPeersGood), and lists compared (ckIDs, ckRevs).
-/
import Derived.Test.YthnhgfpkmbgkdaaCi
namespace Go.Proofs.Ythnhgfpkmbgkdaa
open Go.RowKit
set_option linter.unusedSimpArgs false
set_option linter.unusedVariables false

set_option maxRecDepth 20000 in
set_option maxHeartbeats 2000000 in
theorem zzInitial_any (h : HsD) (ps : List CkD) (v : Value) (w : World) (hp : (Rp.slice Rp.pe).K w any ps [v]) (hl : ps.length ≤ 1000) :
    Calls Try.prog 27 #[hsV h, v] w fun e w' => e = .returned (initE h ps) ∧ Ext w w' := by
  have HP := Lib.hid ((Rp.slice Rp.pe).lt hp)
  obtain ⟨A, cap, hv, _⟩ := id hp
  simp only [List.cons.injEq, and_true] at hv
  subst hv
  clear hp
  go_enter Try.func27, Try.ntmps27
  go_wp2_with fail
  obtain ⟨W, hW⟩ : ∃ W, W = (((w.alloc (.cells (hsCells h).toArray 55)).alloc (.cells #[.slice A ps.length cap] 59)).alloc (.cells (hstCells (hst0 h ⟨0, 0, 0⟩ 0 0 (.func (.func 35) #[] #[.pointer (some ⟨w.heap.size + 1, 0, none⟩)]))).toArray 73)).alloc (.cells #[.pointer none, .iface 69 (.pointer (some ⟨w.heap.size + 1 + 1, 0, none⟩)), .int .i64 0] 81) := ⟨_, rfl⟩
  have E0 : Ext w W := by rw [hW]; exact ((((Ext.refl w).alloc _).alloc _).alloc _).alloc _
  have K1 : Blk W (w.heap.size + 1) 59 [.slice A ps.length cap] := by rw [hW]; exact (blk_at _ _ _ _ (by simp)).ext (((Ext.refl _).alloc _).alloc _)
  have K2 : Blk W (w.heap.size + 1 + 1) 73 (hstCells (hst0 h ⟨0, 0, 0⟩ 0 0 (.func (.func 35) #[] #[.pointer (some ⟨w.heap.size + 1, 0, none⟩)]))) := by rw [hW]; exact (blk_at _ _ _ _ (by simp)).ext ((Ext.refl _).alloc _)
  have K3 : CkAt W (w.heap.size + 1 + 1 + 1) (w.heap.size + 1 + 1) 0 := by rw [hW]; exact blk_at _ _ _ _ (by simp)
  change Calls _ _ _ ((((w.alloc (.cells (hsCells h).toArray 55)).alloc (.cells #[.slice A ps.length cap] 59)).alloc (.cells (hstCells (hst0 h ⟨0, 0, 0⟩ 0 0 (.func (.func 35) #[] #[.pointer (some ⟨w.heap.size + 1, 0, none⟩)]))).toArray 73)).alloc (.cells #[.pointer none, .iface 69 (.pointer (some ⟨w.heap.size + 1 + 1, 0, none⟩)), .int .i64 0] 81)) _
  rw [← hW]
  clear hW
  refine (initial_any (w.heap.size + 1 + 1 + 1) (w.heap.size + 1 + 1) (w.heap.size + 1) h ⟨0, 0, 0⟩ 0 0 0 ps _ W K3 K2 K1 (by omega) (by omega) ((Rp.slice Rp.pe).mono (fun k hk => by have := hk.2; omega) ((Rp.slice Rp.pe).ext' E0 HP.out)) hl).mono ?_
  rintro e w1 ⟨rfl, X1⟩
  clear K1 K2 K3
  obtain ⟨r, hr⟩ : ∃ r, r = initE h ps := ⟨_, rfl⟩
  rw [← hr]
  replace hr := Lib.hid hr
  go_wp2
  go_ret
  exact ⟨by rw [hr.out]; rfl, ((E0.toX _).trans X1).toExt (fun k hk => by have hk : k = w.heap.size + 1 + 1 := hk; omega)⟩
set_option maxRecDepth 20000 in
set_option maxHeartbeats 2000000 in
theorem implInit_any (h : HsD) (ps : List CkD) (v : Value) (w : World) (hp : (Rp.slice Rp.ck).K w any ps [v]) (hl : ps.length ≤ 1000) :
    Calls Try.prog 14 #[hsV h, v] w fun e w' => e = .returned (.bool (initD h ps)) ∧ Ext w w' := by
  have HP := Lib.hid hp
  clear hp
  have hz : ∀ w : World, (binOp .eql 66 errI .nilIface).run Try.prog w = .ok (.bool false) w := fun _ => by kernel_rfl
  go_enter Try.func14, Try.ntmps14
  go_wp2_with fail
  refine (hashIn_any h _).mono ?_
  rintro e w1 ⟨rfl, E1⟩
  have E01 := ((Ext.refl w).alloc _).trans E1
  go_wp2_with fail
  refine (peersIn_any ps v w1 ((Rp.slice Rp.ck).ext' E01 HP.out) hl).mono ?_
  rintro e w2 ⟨v', rfl, ho, E2⟩
  have HO := Lib.hid ho
  clear ho
  go_wp2_with fail
  refine (zzInitial_any h ps v' w2 ((Rp.slice Rp.pe).toAny HO.out.slice) hl).mono ?_
  rintro e w3 ⟨rfl, E3⟩
  have E := (E01.trans E2).trans E3
  cases hd : initD h ps with
  | true =>
    have hr : initE h ps = .nilIface := by unfold initE; rw [hd]; rfl
    rw [hr]
    replace hd := Lib.hid hd
    clear hr
    go_wp2
    go_ret
    exact ⟨by rw [hd.out]; rfl, E⟩
  | false =>
    have hr : initE h ps = errI := by unfold initE; rw [hd]; rfl
    rw [hr]
    replace hd := Lib.hid hd
    clear hr
    go_wp2
    go_ret
    exact ⟨by rw [hd.out]; rfl, E⟩
def GoodAns (ps : List CkD) (w : World) (e : Ending) (w' : World) : Prop := ∃ c : Bool, e = .returned (.bool c) ∧ (c = true → ps.length ≤ 12) ∧ Ext w w'
set_option maxRecDepth 20000 in
set_option maxHeartbeats 2000000 in
theorem peersGood_any (own : Int) (ps : List CkD) (v : Value) (w : World) (hp : (Rp.slice Rp.ck).K w any ps [v]) :
    Calls Try.prog 8 #[.int .u64 own, v] w (GoodAns ps w) := by
  obtain ⟨A, cap, hv, p1, p2, p3, hrow⟩ := hp
  simp only [List.cons.injEq, and_true] at hv
  subst hv
  have hl : ps.length ≤ 9223372036854775807 := by unfold maxLen at p2; omega
  have hcap : cap ≤ 9223372036854775807 := by unfold maxLen at p2; omega
  have HR := Lib.hid hrow
  clear hrow
  go_enter Try.func8, Try.ntmps8
  go_wp2_with fail
  go_loopw [11] (fun i wr => ∃ k : Nat, i = .int .i64 k ∧ k ≤ ps.length ∧ Ext w wr) (fun i _ => ps.length - (intOf i).toNat)
  case atStart => exact ⟨0, rfl, Nat.zero_le _, Ext.refl _⟩
  case round =>
    obtain ⟨k, rfl, hk, hE⟩ := hrel
    by_cases hlt : k < ps.length
    · obtain ⟨p, hp⟩ : ∃ p, ps[k]? = some p := ⟨_, List.getElem?_eq_getElem hlt⟩
      obtain ⟨ba, o, rfl, _⟩ := HR.out.addr (List.ne_nil_of_length_pos (by omega))
      obtain ⟨_, hc⟩ := flat_at HR.out rfl hp hE
      have c0 := hc 0 _ rfl
      have c1 := hc 1 _ rfl
      have c2 := hc 2 _ rfl
      have c3 := hc 3 _ rfl
      have c4 := hc 4 _ rfl
      have c5 := hc 5 _ rfl
      simp only [Nat.add_zero, ← Nat.add_assoc] at c0 c1 c2 c3 c4 c5
      have HP := Lib.hid hp
      clear hp hc
      by_cases h1 : p.id = own
      · have q1 : (p.id == own) = true := by simp [h1]
        replace h1 := Lib.hid h1
        go_wp2_with fail
        go_ret
        exact ⟨false, rfl, fun h => by simp at h, hE.alloc _⟩
      have q1 : (p.id == own) = false := by simp [h1]
      replace h1 := Lib.hid h1
      by_cases h2 : p.err < 0
      · go_wp2_with fail
        go_ret
        exact ⟨false, rfl, fun h => by simp at h, hE.alloc _⟩
      have q2 : decide (p.err < 0) = false := decide_eq_false h2
      by_cases h3 : 4 < p.err
      · go_wp2_with fail
        go_ret
        exact ⟨false, rfl, fun h => by simp at h, hE.alloc _⟩
      have q3 : decide (4 < p.err) = false := decide_eq_false h3
      go_wp2_with fail
      obtain ⟨W, hW⟩ : ∃ W, W = wr.alloc (.cells (ckCells p).toArray 30) := ⟨_, rfl⟩
      have EW : Ext wr W := by rw [hW]; exact (Ext.refl wr).alloc _
      have KW : Blk W wr.heap.size 30 (ckCells p) := by rw [hW]; exact Blk.new wr _ _
      change Code.wp _ _ _ _ (wr.alloc (.cells (ckCells p).toArray 30))
      rw [← hW]
      clear hW c0 c1 c2 c3 c4 c5 q1 q2 q3 h2 h3
      go_loopw [34] (fun j w2 => ∃ q : Nat, j = .int .i64 q ∧ q ≤ k ∧ Ext W w2) (fun j _ => k - (intOf j).toNat)
      case atStart => exact ⟨0, rfl, Nat.zero_le _, Ext.refl _⟩
      case round =>
        obtain ⟨q, rfl, hq, hE2⟩ := hrel
        have E3 := (hE.trans EW).trans hE2
        by_cases hqk : q < k
        · obtain ⟨p', hp'⟩ : ∃ p, ps[q]? = some p := ⟨_, List.getElem?_eq_getElem (by omega)⟩
          obtain ⟨_, hc'⟩ := flat_at HR.out rfl hp' E3
          have c0 := hc' 0 _ rfl
          have c1 := hc' 1 _ rfl
          have c2 := hc' 2 _ rfl
          have c3 := hc' 3 _ rfl
          have c4 := hc' 4 _ rfl
          have c5 := hc' 5 _ rfl
          simp only [Nat.add_zero, ← Nat.add_assoc] at c0 c1 c2 c3 c4 c5
          have d0 := (KW.ext hE2).cell (o := 0) rfl
          have hlt2 := (KW.ext hE2).lt
          clear hp' hc'
          by_cases h4 : p.id = p'.id
          · have q4 : (p.id == p'.id) = true := by simp [h4]
            replace h4 := Lib.hid h4
            go_wp2_with fail
            go_ret
            exact ⟨false, rfl, fun h => by simp at h, E3.alloc _⟩
          · have q4 : (p.id == p'.id) = false := by simp [h4]
            replace h4 := Lib.hid h4
            go_wp2_with fail
            go_roundw
            case rel => exact ⟨q + 1, by go_num, by omega, hE2.alloc _⟩
            case measure => simp [intOf]; omega
        · have hqk' : Hid (q = k) := Lib.hid (by omega)
          go_wp2_with fail
          go_roundw
          case rel => exact ⟨k + 1, by go_num, by omega, E3⟩
          case measure => simp [intOf]; omega
    · have hkn : Hid (k = ps.length) := Lib.hid (by omega)
      by_cases h12 : ps.length ≤ 12
      · have q : decide ((ps.length : Int) ≤ 12) = true := decide_eq_true (by omega)
        go_wp2_with fail
        go_ret
        exact ⟨true, rfl, fun _ => h12, hE⟩
      · have q : decide ((ps.length : Int) ≤ 12) = false := decide_eq_false (by omega)
        go_wp2_with fail
        go_ret
        exact ⟨false, rfl, fun h => by simp at h, hE⟩
end Go.Proofs.Ythnhgfpkmbgkdaa
