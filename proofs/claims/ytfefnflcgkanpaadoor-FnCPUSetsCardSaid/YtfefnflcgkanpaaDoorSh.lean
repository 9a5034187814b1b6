/-
  Numbers and sets of processors as texts: spec.decimal, spec.CPUText.
-/
import Derived.Test.YtfefnflcgkanpaaDoorSe
import Derived.Test.YtfefnflcgkanpaaDoorRt
import Derived.Laws.IdiomStrings
import Derived.Laws.BytesArg
import Derived.Lib.ConvBytes
import Derived.IntWalk
import Derived.Deep.DeepCutAuto
namespace Go.Proofs.YtfefnflcgkanpaaDoor
open Go.RowKit Go.Lib
set_option linter.unusedSimpArgs false
set_option linter.unusedVariables false

def strS (l : List UInt8) : ByteArray := ⟨l.toArray⟩
theorem strS_size (l : List UInt8) : (strS l).size = l.length := rfl
theorem strS_add (l m : List UInt8) : strS l ++ strS m = strS (l ++ m) := by
  unfold strS
  apply ByteArray.ext
  simp [ByteArray.data_append]
set_option maxRecDepth 20000 in
theorem byte_back (w : World) (x : Int) (h0 : 0 ≤ x) (h1 : x < 256) : (convert 51 9 (.slice (some ⟨w.heap.size, 0, none⟩) 1 1)).run Tryd.prog (w.alloc (.cells #[.int .u8 x] 5)) = .ok (.string (strS [UInt8.ofNat x.toNat])) (w.alloc (.cells #[.int .u8 x] 5)) := by
  have := run_convert_bytes_back (P := Tryd.prog) (w.alloc (.cells #[.int .u8 x] 5)) 51 9 5 ⟨w.heap.size, 0, none⟩ 1 [UInt8.ofNat x.toNat] Tryd.underlying51 Tryd.underlying5 Tryd.underlying9 (fun j hj => by
    have : j = 0 := by simp at hj; omega
    subst this
    have hx : ((UInt8.ofNat x.toNat).toNat : Int) = x := by simp; omega
    have := (Blk.new w 5 [.int .u8 x]).cell (o := 0) rfl
    simp only [List.getElem_cons_zero, hx]
    exact this)
  simpa [strS] using this
theorem itoa_small {n : Int} (h0 : 0 ≤ n) (h1 : n < 10) : strS [UInt8.ofNat (48 + n).toNat] = strS (itoa n) := by
  unfold itoa
  rw [if_neg (by omega), decDigits, dif_pos (by omega)]
  congr 3
  omega
theorem itoa_big {n : Int} (h1 : 10 ≤ n) : itoa (n / 10) ++ itoa (n % 10) = itoa n := by
  unfold itoa
  rw [if_neg (by omega), if_neg (by omega), if_neg (by omega)]
  conv => rhs; rw [decDigits]
  rw [dif_neg (by omega), show (n / 10).toNat = n.toNat / 10 by omega]
  congr 1
  rw [decDigits, dif_pos (by omega)]
  congr 2
  omega
theorem itoa_neg {n : Int} (h : n < 0) : 45 :: itoa (-n) = itoa n := by
  unfold itoa
  rw [if_neg (by omega), if_pos h]
  congr 2
  omega
set_option maxRecDepth 20000 in
set_option maxHeartbeats 1000000 in
theorem decimal_nat : ∀ (m : Nat) (n : Int), n.toNat = m → 0 ≤ n → n ≤ 1099511627776 → ∀ w : World, Calls Tryd.prog 16 #[.int .i64 n] w fun e w' => e = .returned (.string (strS (itoa n))) ∧ Ext w w' := by
  intro m
  induction m using Nat.strongRecOn with
  | _ m ih =>
    intro n hm h0 h1 w
    by_cases h9 : n < 10
    · have r := byte_back w (48 + n) (by omega) (by omega)
      have hs := Lib.hid (itoa_small h0 h9)
      clear ih hm
      have r' := Lib.hid r
      go_enter Tryd.func16, Tryd.ntmps16
      go_wp2_with fail
      go_ret
      exact ⟨by rw [← hs.out]; rfl, (Ext.refl w).alloc _⟩
    · have i1 := Lib.hid (fun w => ih (n / 10).toNat (by omega) (n / 10) rfl (by omega) (by omega) w)
      have i2 := Lib.hid (fun w => ih (n % 10).toNat (by omega) (n % 10) rfl (by omega) (by omega) w)
      have hs := Lib.hid (itoa_big (n := n) (by omega))
      have z1 : (strS (itoa (n / 10))).size ≤ 14 := itoa_len _ (by omega) (by omega)
      have z2 : (strS (itoa (n % 10))).size ≤ 14 := itoa_len _ (by omega) (by omega)
      clear ih hm
      go_enter Tryd.func16, Tryd.ntmps16
      go_wp2_with fail
      refine (i1.out w).mono ?_
      rintro e w1 ⟨rfl, e1⟩
      go_wp2_with fail
      refine (i2.out w1).mono ?_
      rintro e w2 ⟨rfl, e2⟩
      go_wp2_with fail
      go_ret
      exact ⟨by rw [← hs.out, ← strS_add]; rfl, e1.trans e2⟩
set_option maxRecDepth 20000 in
set_option maxHeartbeats 1000000 in
theorem decimal_any (n : Int) (h0 : -1099511627776 ≤ n) (h1 : n ≤ 1099511627776) (w : World) : Calls Tryd.prog 16 #[.int .i64 n] w fun e w' => e = .returned (.string (strS (itoa n))) ∧ Ext w w' := by
  by_cases hn : n < 0
  · have i1 := Lib.hid (fun w => decimal_nat (-n).toNat (-n) rfl (by omega) (by omega) w)
    have z1 : (strS (itoa (-n))).size ≤ 14 := itoa_len _ (by omega) (by omega)
    have hs := Lib.hid (itoa_neg hn)
    go_enter Tryd.func16, Tryd.ntmps16
    go_wp2_with fail
    refine (i1.out w).mono ?_
    rintro e w1 ⟨rfl, e1⟩
    go_wp2_with fail
    go_ret
    exact ⟨by rw [← hs.out, show (45 : UInt8) :: itoa (-n) = [45] ++ itoa (-n) from rfl, ← strS_add]; rfl, e1⟩
  · exact decimal_nat _ n rfl (by omega) h1 w
theorem runs_start {l : List Int} {i : Nat} (hi : i < l.length) (hf : i = 0 ∨ ∃ r ps, runs (l.take i) = ps ++ [r] ∧ l.getD i 0 ≠ r.2 + 1) : runs (l.take (i + 1)) = runs (l.take i) ++ [(l.getD i 0, l.getD i 0)] := by
  rw [runs_take hi, show l[i] = l.getD i 0 by simp [hi]]
  rcases hf with rfl | ⟨r, ps, h1, h2⟩
  · simp [runs, addRun]
  · rw [h1]
    exact addRun_new ps r.1 r.2 _ h2
theorem runs_more {l : List Int} {i j : Nat} (hj : j + 1 < l.length) (h : runs (l.take (j + 1)) = runs (l.take i) ++ [(l.getD i 0, l.getD j 0)]) (he : l.getD (j + 1) 0 = l.getD j 0 + 1) : runs (l.take (j + 1 + 1)) = runs (l.take i) ++ [(l.getD i 0, l.getD (j + 1) 0)] := by
  rw [runs_take hj, h, show l[j + 1] = l.getD (j + 1) 0 by simp [hj], he]
  exact addRun_grow _ _ _
theorem runs_mem_b {l : List Int} (hb : ∀ x ∈ l, -1099511627776 ≤ x ∧ x ≤ 1099511627776) (i : Nat) : ∀ r ∈ runs (l.take i), (-1099511627776 ≤ r.1 ∧ r.1 ≤ 1099511627776) ∧ -1099511627776 ≤ r.2 ∧ r.2 ≤ 1099511627776 := fun r hr => by
  have := runs_mem _ r hr
  exact ⟨hb _ (List.mem_of_mem_take this.1), hb _ (List.mem_of_mem_take this.2)⟩
theorem cpuT_len {l : List Int} (hb : ∀ x ∈ l, -1099511627776 ≤ x ∧ x ≤ 1099511627776) (hn : l.length ≤ 1000) (i : Nat) : (cpuT (runs (l.take i))).length ≤ 30000 := by
  have h1 := flat_len _ (runs_mem_b hb i)
  have h2 := runs_length (l.take i)
  rw [List.length_take] at h2
  have h3 : (cpuT (runs (l.take i))).length ≤ (flat (runs (l.take i))).length := by unfold cpuT; rw [List.length_dropLast]; omega
  omega
theorem asc_getD {l : List Int} (h : Asc l) {i j : Nat} (hi : i < j) (hj : j < l.length) : l.getD i 0 < l.getD j 0 := by
  have := List.pairwise_iff_getElem.1 h i j (by omega) hj hi
  simpa [hj, show i < l.length by omega] using this
set_option maxRecDepth 20000 in
set_option maxHeartbeats 3000000 in
theorem specText_any (xs : List Int) (v : Value) (w : World) (h : (Rp.slice Rp.iv).K w any xs [v]) (hn : xs.length ≤ 300) (hb : ∀ x ∈ xs, -1099511627776 ≤ x ∧ x ≤ 1099511627776) :
    Calls Tryd.prog 7 #[v] w fun e w' => e = .returned (.string (strS (cpuT (runs (rising xs))))) ∧ Ext w w' := by
  have HX := Lib.hid h
  clear h
  go_enter Tryd.func7, Tryd.ntmps7
  go_wp2_with fail
  refine (rising_any xs v _ HX.out (by omega)).mono ?_
  rintro e w1 ⟨v1, rfl, hO, e1⟩
  obtain ⟨L, hL⟩ : ∃ L, L = rising xs := ⟨_, rfl⟩
  have hLn : L.length ≤ 300 := by rw [hL]; exact Nat.le_trans (rising_length _) hn
  have hLb : ∀ x ∈ L, -1099511627776 ≤ x ∧ x ≤ 1099511627776 := fun x hx => hb x (by rw [hL, mem_rising] at hx; exact hx)
  have hLa : Asc L := by rw [hL]; exact rising_asc _
  rw [← hL] at hO
  have HLe := Lib.hid hL
  have HO := Lib.hid hO.slice
  obtain ⟨A1, c1, rfl, _, _, _⟩ := slice_shape hO.slice
  have HLb := Lib.hid hLb
  have HLa := Lib.hid hLa
  clear hO hL hLb hLa hb
  go_wp2_with fail
  go_loopw [3, 4] (fun u3 u4 wr => ∃ i : Nat, u3 = .string (strS (cpuT (runs (L.take i)))) ∧ u4 = .int .i64 i ∧ i ≤ L.length ∧ Hid (i < L.length → i = 0 ∨ ∃ r ps, runs (L.take i) = ps ++ [r] ∧ L.getD i 0 ≠ r.2 + 1) ∧ Hid (Ext w1 wr) ∧ Ext w wr) (fun _ i _ => L.length - (intOf i).toNat)
  case atStart => exact ⟨0, rfl, rfl, Nat.zero_le _, Lib.hid (fun _ => .inl rfl), Lib.hid (Ext.refl _), e1⟩
  case round =>
    rename_i u3 u4
    obtain ⟨i, rfl, rfl, hi, hF, h1, hE⟩ := hrel
    by_cases hlt : i < L.length
    · have hz := cpuT_len HLb.out (by omega) i
      have hst := Lib.hid (runs_start hlt (hF.out hlt))
      obtain ⟨ba, o, rfl, _⟩ := iv_at (w' := w1) HO.out hlt
      have HC := Lib.hid (cells_of HO.out).2
      go_wp2_with fail
      go_loopw [5] (fun u5 wx => ∃ j : Nat, u5 = .int .i64 j ∧ i ≤ j ∧ j < L.length ∧ Hid (runs (L.take (j + 1)) = runs (L.take i) ++ [(L.getD i 0, L.getD j 0)]) ∧ Hid (Ext w1 wx) ∧ Ext w wx) (fun u5 _ => L.length - (intOf u5).toNat)
      case atStart => exact ⟨i, rfl, Nat.le_refl _, hlt, hst, h1, hE⟩
      case round =>
        rename_i u5
        obtain ⟨j, rfl, hij, hj, hR, h1, hE⟩ := hrel
        have cj := h1.out.cellS (HC.out j hj)
        generalize hxj : L.getD j 0 = xj at cj
        have hbj : -1099511627776 ≤ xj ∧ xj ≤ 1099511627776 := HLb.out xj (by rw [← hxj]; simp [hj])
        obtain ⟨hb1, hb2⟩ := hbj
        have wj : IntKind.i64.wrap ((j : Int) + 1) = (j : Int) + 1 := by rw [IntKind.wrap_i64]; omega
        have wx : IntKind.i64.wrap (xj + 1) = xj + 1 := by rw [IntKind.wrap_i64]; omega
        have nj : ((j : Int) + 1).toNat = j + 1 := by omega
        by_cases hj1 : j + 1 < L.length
        · have dj : decide ((j : Int) + 1 < (L.length : Int)) = true := by simp; omega
          have dj0 : (0 : Int) ≤ (j : Int) + 1 := by omega
          have cj1 := h1.out.cellS (HC.out (j + 1) hj1)
          generalize hxj1 : L.getD (j + 1) 0 = y at cj1
          by_cases hy : y = xj + 1
          · have hR2 := Lib.hid (runs_more (i := i) hj1 hR.out (by rw [hxj1, hxj]; exact hy))
            have t1 : (y == xj + 1) = true := by simp [hy]
            have t2 : (y = xj + 1) = True := by simp [hy]
            replace hxj := Lib.hid hxj
            replace hxj1 := Lib.hid hxj1
            replace hy := Lib.hid hy
            go_wp2_with fail
            go_quiet (fail)
            go_wp2_with fail
            go_roundw
            case rel => exact ⟨j + 1, by go_num, by omega, hj1, hR2, Lib.hid (h1.out.drewN nq), hE.drewN nq⟩
            case measure => simp [intOf]; omega
          · have hnext : Hid (j + 1 < L.length → j + 1 = 0 ∨ ∃ r ps, runs (L.take (j + 1)) = ps ++ [r] ∧ L.getD (j + 1) 0 ≠ r.2 + 1) := Lib.hid (fun _ => .inr ⟨_, _, hR.out, by rw [hxj1, hxj]; exact hy⟩)
            have t1 : (y == xj + 1) = false := by simp [hy]
            have t2 : (y = xj + 1) = False := by simp [hy]
            replace hxj := Lib.hid hxj
            replace hxj1 := Lib.hid hxj1
            replace hy := Lib.hid hy
            go_wp2_with fail
            go_quiet (fail)
            have h1q := Lib.hid (h1.out.drewN nq)
            have hEq := hE.drewN nq
            generalize wr.drewN nq = wq at h1q hEq ⊢
            clear h1 hE cj cj1 t1 t2 wj wx nj dj dj0
            have ci := h1q.out.cellS (HC.out i hlt)
            generalize hxi : L.getD i 0 = xi at ci
            have hbi : -1099511627776 ≤ xi ∧ xi ≤ 1099511627776 := HLb.out xi (by rw [← hxi]; simp [hlt])
            have zi : (strS (itoa xi)).size ≤ 14 := itoa_len xi hbi.1 hbi.2
            have zj : (strS (itoa xj)).size ≤ 14 := itoa_len xj hb1 hb2
            have zO : (strS (cpuT (runs (L.take i)))).size ≤ 30000 := hz
            replace hxi := Lib.hid hxi
            by_cases hrs : runs (L.take i) = []
            · have hem : (strS (cpuT (runs (L.take i)))).toList.isEmpty = true := by rw [hrs, ByteArray.toList_eq]; rfl
              have hf0 : Hid (flat (runs (L.take i)) = cpuT (runs (L.take i))) := Lib.hid (by rw [hrs]; rfl)
              replace hrs := Lib.hid hrs
              by_cases hij2 : i < j
              · have hxl := asc_getD HLa.out hij2 hj
                rw [hxi.out, hxj.out] at hxl
                have hfin : Hid (strS (cpuT (runs (L.take i))) ++ strS (itoa xi) ++ (({ data := #[45] } : ByteArray) ++ strS (itoa xj)) = strS (cpuT (runs (L.take (j + 1))))) := Lib.hid (by
                  rw [hR.out, cpuT_snoc, hxi.out, hxj.out, rtext, if_neg (by simp; omega)]
                  rw [hf0.out]
                  rw [show (({ data := #[45] } : ByteArray)) = strS [45] from rfl, strS_add, strS_add, strS_add]
                  simp)
                go_wp2_with fail
                refine (decimal_any xi hbi.1 hbi.2 _).mono ?_
                rintro e w2 ⟨rfl, e2⟩
                have cj2 := (h1q.out.trans e2).cellS (HC.out j hj)
                rw [hxj.out] at cj2
                go_wp2_with fail
                refine (decimal_any xj hb1 hb2 _).mono ?_
                rintro e w3 ⟨rfl, e3⟩
                go_wp2_with fail
                go_roundw
                case rel => exact ⟨j + 1, by rw [← hfin.out], by go_num, by omega, hnext, Lib.hid ((h1q.out.trans e2).trans e3), (hEq.trans e2).trans e3⟩
                case measure => simp [intOf]; omega
              · have hxe : xi = xj := by have : i = j := by omega
                                         rw [← hxi.out, ← hxj.out, this]
                replace hxe := hxe
                have hfin : Hid (strS (cpuT (runs (L.take i))) ++ strS (itoa xi) = strS (cpuT (runs (L.take (j + 1))))) := Lib.hid (by
                  rw [hR.out, cpuT_snoc, hxi.out, hxj.out, rtext, if_pos (by simpa using hxe)]
                  rw [hf0.out]
                  rw [strS_add])
                replace hxe := Lib.hid hxe
                go_wp2_with fail
                refine (decimal_any xi hbi.1 hbi.2 _).mono ?_
                rintro e w2 ⟨rfl, e2⟩
                go_wp2_with fail
                go_roundw
                case rel => exact ⟨j + 1, by rw [← hfin.out], by go_num, by omega, hnext, Lib.hid (h1q.out.trans e2), hEq.trans e2⟩
                case measure => simp [intOf]; omega
            · have hem : (strS (cpuT (runs (L.take i)))).toList.isEmpty = false := by
                rw [ByteArray.toList_eq]
                have := cpuT_ne _ hrs
                simpa [strS] using this
              have hk1 : ¬ 9223372036854775807 < (strS (cpuT (runs (L.take i)))).size + 1 := by omega
              have hk2 : ¬ 9223372036854775807 < (strS (cpuT (runs (L.take i)))).size + 1 + (strS (itoa xi)).size := by omega
              have hk3 : ¬ 9223372036854775807 < (strS (cpuT (runs (L.take i)))).size + 1 + (strS (itoa xi)).size + (1 + (strS (itoa xj)).size) := by omega
              have hf0 : Hid (flat (runs (L.take i)) = cpuT (runs (L.take i)) ++ [44]) := Lib.hid (flat_eq _ hrs)
              replace hrs := Lib.hid hrs
              by_cases hij2 : i < j
              · have hxl := asc_getD HLa.out hij2 hj
                rw [hxi.out, hxj.out] at hxl
                have hfin : Hid ((strS (cpuT (runs (L.take i))) ++ ({ data := #[44] } : ByteArray)) ++ strS (itoa xi) ++ (({ data := #[45] } : ByteArray) ++ strS (itoa xj)) = strS (cpuT (runs (L.take (j + 1))))) := Lib.hid (by
                  rw [hR.out, cpuT_snoc, hxi.out, hxj.out, rtext, if_neg (by simp; omega)]
                  rw [hf0.out, show (({ data := #[44] } : ByteArray)) = strS [44] from rfl, strS_add]
                  rw [show (({ data := #[45] } : ByteArray)) = strS [45] from rfl, strS_add, strS_add, strS_add]
                  simp)
                go_wp2_with fail
                refine (decimal_any xi hbi.1 hbi.2 _).mono ?_
                rintro e w2 ⟨rfl, e2⟩
                have cj2 := (h1q.out.trans e2).cellS (HC.out j hj)
                rw [hxj.out] at cj2
                go_wp2_with fail
                refine (decimal_any xj hb1 hb2 _).mono ?_
                rintro e w3 ⟨rfl, e3⟩
                go_wp2_with fail
                go_roundw
                case rel => exact ⟨j + 1, by rw [← hfin.out], by go_num, by omega, hnext, Lib.hid ((h1q.out.trans e2).trans e3), (hEq.trans e2).trans e3⟩
                case measure => simp [intOf]; omega
              · have hxe : xi = xj := by have : i = j := by omega
                                         rw [← hxi.out, ← hxj.out, this]
                have hfin : Hid ((strS (cpuT (runs (L.take i))) ++ ({ data := #[44] } : ByteArray)) ++ strS (itoa xi) = strS (cpuT (runs (L.take (j + 1))))) := Lib.hid (by
                  rw [hR.out, cpuT_snoc, hxi.out, hxj.out, rtext, if_pos (by simpa using hxe)]
                  rw [hf0.out, show (({ data := #[44] } : ByteArray)) = strS [44] from rfl, strS_add]
                  rw [strS_add])
                replace hxe := Lib.hid hxe
                go_wp2_with fail
                refine (decimal_any xi hbi.1 hbi.2 _).mono ?_
                rintro e w2 ⟨rfl, e2⟩
                go_wp2_with fail
                go_roundw
                case rel => exact ⟨j + 1, by rw [← hfin.out], by go_num, by omega, hnext, Lib.hid (h1q.out.trans e2), hEq.trans e2⟩
                case measure => simp [intOf]; omega
        · have dj : decide ((j : Int) + 1 < (L.length : Int)) = false := by simp; omega
          have hnext : Hid (j + 1 < L.length → j + 1 = 0 ∨ ∃ r ps, runs (L.take (j + 1)) = ps ++ [r] ∧ L.getD (j + 1) 0 ≠ r.2 + 1) := Lib.hid (fun h => absurd h hj1)
          replace hxj := Lib.hid hxj
          go_wp2_with fail
          go_quiet (fail)
          have h1q := Lib.hid (h1.out.drewN nq)
          have hEq := hE.drewN nq
          generalize wr.drewN nq = wq at h1q hEq ⊢
          clear h1 hE cj wj wx nj dj
          have ci := h1q.out.cellS (HC.out i hlt)
          generalize hxi : L.getD i 0 = xi at ci
          have hbi : -1099511627776 ≤ xi ∧ xi ≤ 1099511627776 := HLb.out xi (by rw [← hxi]; simp [hlt])
          have zi : (strS (itoa xi)).size ≤ 14 := itoa_len xi hbi.1 hbi.2
          have zj : (strS (itoa xj)).size ≤ 14 := itoa_len xj hb1 hb2
          have zO : (strS (cpuT (runs (L.take i)))).size ≤ 30000 := hz
          replace hxi := Lib.hid hxi
          by_cases hrs : runs (L.take i) = []
          · have hem : (strS (cpuT (runs (L.take i)))).toList.isEmpty = true := by rw [hrs, ByteArray.toList_eq]; rfl
            have hf0 : Hid (flat (runs (L.take i)) = cpuT (runs (L.take i))) := Lib.hid (by rw [hrs]; rfl)
            replace hrs := Lib.hid hrs
            by_cases hij2 : i < j
            · have hxl := asc_getD HLa.out hij2 hj
              rw [hxi.out, hxj.out] at hxl
              have hfin : Hid (strS (cpuT (runs (L.take i))) ++ strS (itoa xi) ++ (({ data := #[45] } : ByteArray) ++ strS (itoa xj)) = strS (cpuT (runs (L.take (j + 1))))) := Lib.hid (by
                rw [hR.out, cpuT_snoc, hxi.out, hxj.out, rtext, if_neg (by simp; omega)]
                rw [hf0.out]
                rw [show (({ data := #[45] } : ByteArray)) = strS [45] from rfl, strS_add, strS_add, strS_add]
                simp)
              go_wp2_with fail
              refine (decimal_any xi hbi.1 hbi.2 _).mono ?_
              rintro e w2 ⟨rfl, e2⟩
              have cj2 := (h1q.out.trans e2).cellS (HC.out j hj)
              rw [hxj.out] at cj2
              go_wp2_with fail
              refine (decimal_any xj hb1 hb2 _).mono ?_
              rintro e w3 ⟨rfl, e3⟩
              go_wp2_with fail
              go_roundw
              case rel => exact ⟨j + 1, by rw [← hfin.out], by go_num, by omega, hnext, Lib.hid ((h1q.out.trans e2).trans e3), (hEq.trans e2).trans e3⟩
              case measure => simp [intOf]; omega
            · have hxe : xi = xj := by have : i = j := by omega
                                       rw [← hxi.out, ← hxj.out, this]
              replace hxe := hxe
              have hfin : Hid (strS (cpuT (runs (L.take i))) ++ strS (itoa xi) = strS (cpuT (runs (L.take (j + 1))))) := Lib.hid (by
                rw [hR.out, cpuT_snoc, hxi.out, hxj.out, rtext, if_pos (by simpa using hxe)]
                rw [hf0.out]
                rw [strS_add])
              replace hxe := Lib.hid hxe
              go_wp2_with fail
              refine (decimal_any xi hbi.1 hbi.2 _).mono ?_
              rintro e w2 ⟨rfl, e2⟩
              go_wp2_with fail
              go_roundw
              case rel => exact ⟨j + 1, by rw [← hfin.out], by go_num, by omega, hnext, Lib.hid (h1q.out.trans e2), hEq.trans e2⟩
              case measure => simp [intOf]; omega
          · have hem : (strS (cpuT (runs (L.take i)))).toList.isEmpty = false := by
              rw [ByteArray.toList_eq]
              have := cpuT_ne _ hrs
              simpa [strS] using this
            have hk1 : ¬ 9223372036854775807 < (strS (cpuT (runs (L.take i)))).size + 1 := by omega
            have hk2 : ¬ 9223372036854775807 < (strS (cpuT (runs (L.take i)))).size + 1 + (strS (itoa xi)).size := by omega
            have hk3 : ¬ 9223372036854775807 < (strS (cpuT (runs (L.take i)))).size + 1 + (strS (itoa xi)).size + (1 + (strS (itoa xj)).size) := by omega
            have hf0 : Hid (flat (runs (L.take i)) = cpuT (runs (L.take i)) ++ [44]) := Lib.hid (flat_eq _ hrs)
            replace hrs := Lib.hid hrs
            by_cases hij2 : i < j
            · have hxl := asc_getD HLa.out hij2 hj
              rw [hxi.out, hxj.out] at hxl
              have hfin : Hid ((strS (cpuT (runs (L.take i))) ++ ({ data := #[44] } : ByteArray)) ++ strS (itoa xi) ++ (({ data := #[45] } : ByteArray) ++ strS (itoa xj)) = strS (cpuT (runs (L.take (j + 1))))) := Lib.hid (by
                rw [hR.out, cpuT_snoc, hxi.out, hxj.out, rtext, if_neg (by simp; omega)]
                rw [hf0.out, show (({ data := #[44] } : ByteArray)) = strS [44] from rfl, strS_add]
                rw [show (({ data := #[45] } : ByteArray)) = strS [45] from rfl, strS_add, strS_add, strS_add]
                simp)
              go_wp2_with fail
              refine (decimal_any xi hbi.1 hbi.2 _).mono ?_
              rintro e w2 ⟨rfl, e2⟩
              have cj2 := (h1q.out.trans e2).cellS (HC.out j hj)
              rw [hxj.out] at cj2
              go_wp2_with fail
              refine (decimal_any xj hb1 hb2 _).mono ?_
              rintro e w3 ⟨rfl, e3⟩
              go_wp2_with fail
              go_roundw
              case rel => exact ⟨j + 1, by rw [← hfin.out], by go_num, by omega, hnext, Lib.hid ((h1q.out.trans e2).trans e3), (hEq.trans e2).trans e3⟩
              case measure => simp [intOf]; omega
            · have hxe : xi = xj := by have : i = j := by omega
                                       rw [← hxi.out, ← hxj.out, this]
              have hfin : Hid ((strS (cpuT (runs (L.take i))) ++ ({ data := #[44] } : ByteArray)) ++ strS (itoa xi) = strS (cpuT (runs (L.take (j + 1))))) := Lib.hid (by
                rw [hR.out, cpuT_snoc, hxi.out, hxj.out, rtext, if_pos (by simpa using hxe)]
                rw [hf0.out, show (({ data := #[44] } : ByteArray)) = strS [44] from rfl, strS_add]
                rw [strS_add])
              replace hxe := Lib.hid hxe
              go_wp2_with fail
              refine (decimal_any xi hbi.1 hbi.2 _).mono ?_
              rintro e w2 ⟨rfl, e2⟩
              go_wp2_with fail
              go_roundw
              case rel => exact ⟨j + 1, by rw [← hfin.out], by go_num, by omega, hnext, Lib.hid (h1q.out.trans e2), hEq.trans e2⟩
              case measure => simp [intOf]; omega
    · obtain rfl : i = L.length := by omega
      have hend : Hid (L.take L.length = L) := Lib.hid (List.take_length)
      go_wp2_with fail
      go_ret
      exact ⟨by show _ = Ending.returned (.string (strS (cpuT (runs (rising xs))))); rw [← HLe.out]; exact congrArg (fun l => Ending.returned (.string (strS (cpuT (runs l))))) hend.out, hE⟩
end Go.Proofs.YtfefnflcgkanpaaDoor
