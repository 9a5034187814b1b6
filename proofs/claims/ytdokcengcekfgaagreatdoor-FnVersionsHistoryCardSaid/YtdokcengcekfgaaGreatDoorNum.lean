/-
  Versions written: spec.verNumber, spec.VerText, semver's String.
-/
import Derived.Test.YtdokcengcekfgaaGreatDoorSem
namespace Go.Proofs.YtdokcengcekfgaaGreatDoor
open Go.RowKit
set_option linter.unusedSimpArgs false
set_option linter.unusedVariables false

def numS (n : Int) : ByteArray := ⟨(dec n).toArray⟩
def strS (l : List UInt8) : ByteArray := ⟨l.toArray⟩
theorem strS_size (l : List UInt8) : (strS l).size = l.length := rfl
theorem strS_add (l m : List UInt8) : strS l ++ strS m = strS (l ++ m) := by
  unfold strS
  apply ByteArray.ext
  simp [ByteArray.data_append]
theorem byte_back (w : World) (x : Int) (h0 : 0 ≤ x) (h1 : x < 256) : (convert 106 9 (.slice (some ⟨w.heap.size, 0, none⟩) 1 1)).run Tryz.prog (w.alloc (.cells #[.int .u8 x] 5)) = .ok (.string (strS [UInt8.ofNat x.toNat])) (w.alloc (.cells #[.int .u8 x] 5)) := by
  have := run_convert_bytes_back (P := Tryz.prog) (w.alloc (.cells #[.int .u8 x] 5)) 106 9 5 ⟨w.heap.size, 0, none⟩ 1 [UInt8.ofNat x.toNat] Tryz.underlying106 Tryz.underlying5 Tryz.underlying9 (fun j hj => by
    have : j = 0 := by simp at hj; omega
    subst this
    have hx : ((UInt8.ofNat x.toNat).toNat : Int) = x := by simp; omega
    have := (Blk.new w 5 [.int .u8 x]).cell (o := 0) rfl
    simp only [List.getElem_cons_zero, hx]
    exact this)
  simpa [strS] using this
set_option maxRecDepth 20000 in
set_option maxHeartbeats 1000000 in
theorem verNumber_any (n : Int) (w : World) (h0 : 0 ≤ n) (h1' : n ≤ 9999) : Calls Tryz.prog 50 #[.int .i64 n] w fun e w' => e = .returned (.string (numS n)) ∧ Ext w w' := by
  go_enter Tryz.func50, Tryz.ntmps50
  go_wp2_with fail
  go_loopw [0, 3] (fun u0 u3 wr => ∃ (m : Int) (l : List UInt8), u0 = .int .i64 m ∧ u3 = .string (strS l) ∧ 0 ≤ m ∧ m ≤ 9999 ∧ l.length ≤ 4 ∧ Hid (dec n = dec m ++ l) ∧ Ext w wr) (fun u0 _ _ => (intOf u0).toNat)
  case atStart => exact ⟨n, [], rfl, rfl, h0, h1', by decide, Lib.hid (by simp), Ext.refl _⟩
  case round =>
    obtain ⟨m, l, rfl, rfl, hm0, hm1, hl, hd, hE⟩ := hrel
    by_cases h9 : 9 < m
    · have r := byte_back wr (48 + m % 10) (by omega) (by omega)
      have z1 : (strS [UInt8.ofNat (48 + m % 10).toNat]).size ≤ 1 := Nat.le_refl 1
      have z2 : (strS l).size ≤ 4 := hl
      have hdn : Hid (dec n = dec (m / 10) ++ (UInt8.ofNat (48 + m % 10).toNat :: l)) := Lib.hid (by
        rw [hd.out]
        unfold dec
        rw [decDigits_big (by omega : ¬ m.toNat < 10), show m.toNat / 10 = (m / 10).toNat by omega, show 48 + m.toNat % 10 = (48 + m % 10).toNat by omega]
        simp)
      have hln : l.length + 1 ≤ 4 := by
        have h1 := congrArg List.length hdn.out
        have h2 := dec_len (n := n) h1'
        have h3 := dec_len (n := m / 10) (by omega)
        simp only [List.length_append, List.length_cons] at h1
        omega
      go_wp2_with fail
      go_roundw
      case rel => exact ⟨m / 10, UInt8.ofNat (48 + m % 10).toNat :: l, rfl, by rw [strS_add]; rfl, by omega, by omega, by simpa using hln, hdn, hE.alloc _⟩
      case measure => simp [intOf]; omega
    · have r := byte_back wr (48 + m) (by omega) (by omega)
      have z1 : (strS [UInt8.ofNat (48 + m).toNat]).size ≤ 1 := Nat.le_refl 1
      have z2 : (strS l).size ≤ 4 := hl
      have hdn : Hid (strS [UInt8.ofNat (48 + m).toNat] ++ strS l = numS n) := Lib.hid (by
        rw [strS_add]
        unfold numS strS
        rw [hd.out]
        unfold dec
        rw [decDigits_small (by omega : m.toNat < 10), show 48 + m.toNat = (48 + m).toNat by omega])
      go_wp2_with fail
      rw [hdn.out]
      go_ret
      exact ⟨rfl, hE.alloc _⟩
theorem numS_size {n : Int} (h : n ≤ 9999) : (numS n).size ≤ 4 := (dec_len h).2
theorem vt_eq (v : VD) : numS v.maj ++ ⟨#[46]⟩ ++ numS v.mnr ++ ⟨#[46]⟩ ++ numS v.pat = vt v := by
  have h : ∀ n, numS n = strS (dec n) := fun _ => rfl
  rw [h, h, h, show (⟨#[46]⟩ : ByteArray) = strS [46] from rfl, strS_add, strS_add, strS_add, strS_add]
  unfold strS vt vtl
  simp
theorem vt_size {v : VD} (h : v.ok) : (vt v).size ≤ 14 := vtl_len h

noncomputable def ops_33_1 : Array Oper := opsAt Tryz.f33 1
set_option maxHeartbeats 1000000 in
theorem verText_any (v : VD) (h : v.ok) (w : World) : Calls Tryz.prog 33 #[verV v] w fun e w' => e = .returned (.string (vt v)) ∧ Ext w w' := by
  have hv := Lib.hid (vt_eq v)
  obtain ⟨a0, a1, b0, b1, c0, c1⟩ := id h
  have n1 := numS_size a1
  have n2 := numS_size b1
  have n3 := numS_size c1
  go_enter Tryz.func33, Tryz.ntmps33
  go_wp2_with fail
  have K := Blk.new w 29 [.int .i64 v.maj, .int .i64 v.mnr, .int .i64 v.pat]
  have E0 : Ext w (w.alloc (.cells [Value.int .i64 v.maj, .int .i64 v.mnr, .int .i64 v.pat].toArray 29)) := (Ext.refl w).alloc _
  generalize (w.alloc (.cells [Value.int .i64 v.maj, .int .i64 v.mnr, .int .i64 v.pat].toArray 29)) = W at *
  have g0 := K.cell (o := 0) rfl
  have g1 := K.cell (o := 1) rfl
  have g2 := K.cell (o := 2) rfl
  have k1 : ¬ 9223372036854775807 < (numS v.maj).size + 1 := by omega
  have k2 : ¬ 9223372036854775807 < (numS v.maj).size + 1 + (numS v.mnr).size := by omega
  have k3 : ¬ 9223372036854775807 < (numS v.maj).size + 1 + (numS v.mnr).size + 1 := by omega
  have k4 : ¬ 9223372036854775807 < (numS v.maj).size + 1 + (numS v.mnr).size + 1 + (numS v.pat).size := by omega
  refine wp_region_sched (ops := ops_33_1) Ext [] (.quiet 0 (.quiet 1 (.quiet 4 (.quiet 5 (.quiet 9 (.quiet 10 (.loud 2 (.quiet 3 (.loud 6 (.quiet 7 (.quiet 8 (.loud 11 (.quiet 12 (.quiet 13 (.done))) (.stop)))) (.stop))) (.stop)))))))) (by kernel_rfl) ext_refl ext_trans (by kernel_rfl) (fun _ _ d _ _ h => by cases d <;> exact h) ?_
  refine wpS_quiet (some 3) { dst := some 3, op := Op.fieldAddr 29 (Operand.tmp 1) 0, type := _, pos := _, after := _, guard := none } _ rfl rfl (by rfl) (fun wE hE => by (go_simp; try with_reducible rfl)) ?_; simp only [Act.put, List.setIfInBounds_toArray, List.set_cons_zero, List.set_cons_succ]
  refine wpS_quiet (some 4) { dst := some 4, op := Op.load 2 (Operand.tmp 3), type := _, pos := _, after := _, guard := none } _ rfl rfl (by rfl) (fun wE hE => by (have zk0 := hE.cellS g0; have zk1 := hE.cellS g1; have zk2 := hE.cellS g2; go_simp; try with_reducible rfl)) ?_; simp only [Act.put, List.setIfInBounds_toArray, List.set_cons_zero, List.set_cons_succ]
  refine wpS_quiet (some 7) { dst := some 7, op := Op.fieldAddr 29 (Operand.tmp 1) 1, type := _, pos := _, after := _, guard := none } _ rfl rfl (by rfl) (fun wE hE => by (go_simp; try with_reducible rfl)) ?_; simp only [Act.put, List.setIfInBounds_toArray, List.set_cons_zero, List.set_cons_succ]
  refine wpS_quiet (some 8) { dst := some 8, op := Op.load 2 (Operand.tmp 7), type := _, pos := _, after := _, guard := none } _ rfl rfl (by rfl) (fun wE hE => by (have zk0 := hE.cellS g0; have zk1 := hE.cellS g1; have zk2 := hE.cellS g2; go_simp; try with_reducible rfl)) ?_; simp only [Act.put, List.setIfInBounds_toArray, List.set_cons_zero, List.set_cons_succ]
  refine wpS_quiet (some 12) { dst := some 12, op := Op.fieldAddr 29 (Operand.tmp 1) 2, type := _, pos := _, after := _, guard := none } _ rfl rfl (by rfl) (fun wE hE => by (go_simp; try with_reducible rfl)) ?_; simp only [Act.put, List.setIfInBounds_toArray, List.set_cons_zero, List.set_cons_succ]
  refine wpS_quiet (some 13) { dst := some 13, op := Op.load 2 (Operand.tmp 12), type := _, pos := _, after := _, guard := none } _ rfl rfl (by rfl) (fun wE hE => by (have zk0 := hE.cellS g0; have zk1 := hE.cellS g1; have zk2 := hE.cellS g2; go_simp; try with_reducible rfl)) ?_; simp only [Act.put, List.setIfInBounds_toArray, List.set_cons_zero, List.set_cons_succ]
  refine wpS_call (some 5) { dst := some 5, op := Op.call { callee := Callee.value (Operand.func 50), args := #[Operand.tmp 4], argTypes := #[2] }, type := _, pos := _, after := _, guard := none } 50 _ rfl rfl (by rfl) (by go_simp; try first | with_reducible rfl | exact ⟨rfl, rfl⟩) ?_
  refine (verNumber_any v.maj _ a0 a1).mono ?_; rintro e w1 ⟨rfl, e1⟩; refine ⟨_, rfl, e1, ?_⟩; simp only [Act.put, List.setIfInBounds_toArray, List.set_cons_zero, List.set_cons_succ]
  refine wpS_quiet (some 6) { dst := some 6, op := Op.binOp BinOp.add 9 (Operand.tmp 5) (Operand.const (Value.string { data := #[46] })) 9, type := _, pos := _, after := _, guard := none } _ rfl rfl (by rfl) (fun wE hE => by (go_simp; try with_reducible rfl)) ?_; simp only [Act.put, List.setIfInBounds_toArray, List.set_cons_zero, List.set_cons_succ]
  refine wpS_call (some 9) { dst := some 9, op := Op.call { callee := Callee.value (Operand.func 50), args := #[Operand.tmp 8], argTypes := #[2] }, type := _, pos := _, after := _, guard := none } 50 _ rfl rfl (by rfl) (by go_simp; try first | with_reducible rfl | exact ⟨rfl, rfl⟩) ?_
  refine (verNumber_any v.mnr _ b0 b1).mono ?_; rintro e w2 ⟨rfl, e2⟩; refine ⟨_, rfl, e2, ?_⟩; simp only [Act.put, List.setIfInBounds_toArray, List.set_cons_zero, List.set_cons_succ]
  refine wpS_quiet (some 10) { dst := some 10, op := Op.binOp BinOp.add 9 (Operand.tmp 6) (Operand.tmp 9) 9, type := _, pos := _, after := _, guard := none } _ rfl rfl (by rfl) (fun wE hE => by (go_simp; try with_reducible rfl)) ?_; simp only [Act.put, List.setIfInBounds_toArray, List.set_cons_zero, List.set_cons_succ]
  refine wpS_quiet (some 11) { dst := some 11, op := Op.binOp BinOp.add 9 (Operand.tmp 10) (Operand.const (Value.string { data := #[46] })) 9, type := _, pos := _, after := _, guard := none } _ rfl rfl (by rfl) (fun wE hE => by (go_simp; try with_reducible rfl)) ?_; simp only [Act.put, List.setIfInBounds_toArray, List.set_cons_zero, List.set_cons_succ]
  refine wpS_call (some 14) { dst := some 14, op := Op.call { callee := Callee.value (Operand.func 50), args := #[Operand.tmp 13], argTypes := #[2] }, type := _, pos := _, after := _, guard := none } 50 _ rfl rfl (by rfl) (by go_simp; try first | with_reducible rfl | exact ⟨rfl, rfl⟩) ?_
  refine (verNumber_any v.pat _ c0 c1).mono ?_; rintro e w3 ⟨rfl, e3⟩; refine ⟨_, rfl, e3, ?_⟩; simp only [Act.put, List.setIfInBounds_toArray, List.set_cons_zero, List.set_cons_succ]
  refine wpS_quiet (some 15) { dst := some 15, op := Op.binOp BinOp.add 9 (Operand.tmp 11) (Operand.tmp 14) 9, type := _, pos := _, after := _, guard := none } _ rfl rfl (by rfl) (fun wE hE => by (go_simp; try with_reducible rfl)) ?_; simp only [Act.put, List.setIfInBounds_toArray, List.set_cons_zero, List.set_cons_succ]
  refine wpS_quiet (some 2) { dst := some 2, op := Op.assign (Operand.tmp 15), type := _, pos := _, after := _, guard := none } _ rfl rfl (by rfl) (fun wE hE => by (go_simp; try with_reducible rfl)) ?_; simp only [Act.put, List.setIfInBounds_toArray, List.set_cons_zero, List.set_cons_succ]
  change Exit.then _ _ _ _ _
  clear k1 k2 k3 k4
  rw [hv.out]
  go_wp2
  go_ret
  exact ⟨rfl, ((E0.trans e1.undrew).trans e2).trans e3⟩

/-! ### semver.String -/
theorem formatInt_any (n : Int) (w : World) (h0 : 0 ≤ n) (h1 : n ≤ 9999) (hw : VarsOk w) : Calls Tryz.prog 59 #[.int .i64 n, .int .i64 10] w fun e w' => e = .returned (.string (numS n)) ∧ Ext w w' := by
  refine (Any.strconv_FormatInt_10 Tryz.laysM173 n (by omega) (by omega) w hw.2).mono ?_
  rintro e w' ⟨rfl, k, os, rfl⟩
  refine ⟨?_, ext_grow w k os⟩
  rw [itoa_dec h0]
  rfl
noncomputable def ops_46_1 : Array Oper := opsAt Tryz.f46 1
set_option maxHeartbeats 1000000 in
theorem string_any (v : VD) (h : v.ok) (w : World) (hw : VarsOk w) : Calls Tryz.prog 46 #[verV v] w fun e w' => e = .returned (.string (vt v)) ∧ Ext w w' := by
  have hv := Lib.hid (vt_eq v)
  obtain ⟨a0, a1, b0, b1, c0, c1⟩ := id h
  have n1 := numS_size a1
  have n2 := numS_size b1
  have n3 := numS_size c1
  go_enter Tryz.func46, Tryz.ntmps46
  go_wp2_with fail
  have K := Blk.new w 60 [.int .i64 v.maj, .int .i64 v.mnr, .int .i64 v.pat]
  have E0 : Ext w (w.alloc (.cells [Value.int .i64 v.maj, .int .i64 v.mnr, .int .i64 v.pat].toArray 60)) := (Ext.refl w).alloc _
  generalize (w.alloc (.cells [Value.int .i64 v.maj, .int .i64 v.mnr, .int .i64 v.pat].toArray 60)) = W at *
  have g0 := K.cell (o := 0) rfl
  have g1 := K.cell (o := 1) rfl
  have g2 := K.cell (o := 2) rfl
  have k1 : ¬ 9223372036854775807 < (numS v.maj).size + 1 := by omega
  have k2 : ¬ 9223372036854775807 < (numS v.maj).size + 1 + (numS v.mnr).size := by omega
  have k3 : ¬ 9223372036854775807 < (numS v.maj).size + 1 + (numS v.mnr).size + 1 := by omega
  have k4 : ¬ 9223372036854775807 < (numS v.maj).size + 1 + (numS v.mnr).size + 1 + (numS v.pat).size := by omega
  refine wp_region_sched (ops := ops_46_1) Ext [] (.quiet 0 (.quiet 1 (.quiet 4 (.quiet 5 (.quiet 9 (.quiet 10 (.loud 2 (.quiet 3 (.loud 6 (.quiet 7 (.quiet 8 (.loud 11 (.quiet 12 (.quiet 13 (.done))) (.stop)))) (.stop))) (.stop)))))))) (by kernel_rfl) ext_refl ext_trans (by kernel_rfl) (fun _ _ d _ _ h => by cases d <;> exact h) ?_
  refine wpS_quiet (some 3) { dst := some 3, op := Op.fieldAddr 60 (Operand.tmp 1) 0, type := _, pos := _, after := _, guard := none } _ rfl rfl (by rfl) (fun wE hE => by (go_simp; try with_reducible rfl)) ?_; simp only [Act.put, List.setIfInBounds_toArray, List.set_cons_zero, List.set_cons_succ]
  refine wpS_quiet (some 4) { dst := some 4, op := Op.load 2 (Operand.tmp 3), type := _, pos := _, after := _, guard := none } _ rfl rfl (by rfl) (fun wE hE => by (have zk0 := hE.cellS g0; have zk1 := hE.cellS g1; have zk2 := hE.cellS g2; go_simp; try with_reducible rfl)) ?_; simp only [Act.put, List.setIfInBounds_toArray, List.set_cons_zero, List.set_cons_succ]
  refine wpS_quiet (some 7) { dst := some 7, op := Op.fieldAddr 60 (Operand.tmp 1) 1, type := _, pos := _, after := _, guard := none } _ rfl rfl (by rfl) (fun wE hE => by (go_simp; try with_reducible rfl)) ?_; simp only [Act.put, List.setIfInBounds_toArray, List.set_cons_zero, List.set_cons_succ]
  refine wpS_quiet (some 8) { dst := some 8, op := Op.load 2 (Operand.tmp 7), type := _, pos := _, after := _, guard := none } _ rfl rfl (by rfl) (fun wE hE => by (have zk0 := hE.cellS g0; have zk1 := hE.cellS g1; have zk2 := hE.cellS g2; go_simp; try with_reducible rfl)) ?_; simp only [Act.put, List.setIfInBounds_toArray, List.set_cons_zero, List.set_cons_succ]
  refine wpS_quiet (some 12) { dst := some 12, op := Op.fieldAddr 60 (Operand.tmp 1) 2, type := _, pos := _, after := _, guard := none } _ rfl rfl (by rfl) (fun wE hE => by (go_simp; try with_reducible rfl)) ?_; simp only [Act.put, List.setIfInBounds_toArray, List.set_cons_zero, List.set_cons_succ]
  refine wpS_quiet (some 13) { dst := some 13, op := Op.load 2 (Operand.tmp 12), type := _, pos := _, after := _, guard := none } _ rfl rfl (by rfl) (fun wE hE => by (have zk0 := hE.cellS g0; have zk1 := hE.cellS g1; have zk2 := hE.cellS g2; go_simp; try with_reducible rfl)) ?_; simp only [Act.put, List.setIfInBounds_toArray, List.set_cons_zero, List.set_cons_succ]
  refine wpS_call (some 5) { dst := some 5, op := Op.call { callee := Callee.value (Operand.func 59), args := #[Operand.tmp 4, Operand.const (Value.int IntKind.i64 10)], argTypes := #[2, 3] }, type := _, pos := _, after := _, guard := none } 59 _ rfl rfl (by rfl) (by go_simp; try first | with_reducible rfl | exact ⟨rfl, rfl⟩) ?_
  refine (formatInt_any v.maj _ a0 a1 (hw.ext E0.drew)).mono ?_; rintro e w1 ⟨rfl, e1⟩; refine ⟨_, rfl, e1, ?_⟩; simp only [Act.put, List.setIfInBounds_toArray, List.set_cons_zero, List.set_cons_succ]
  have E1 := E0.trans e1.undrew
  refine wpS_quiet (some 6) { dst := some 6, op := Op.binOp BinOp.add 9 (Operand.tmp 5) (Operand.const (Value.string { data := #[46] })) 9, type := _, pos := _, after := _, guard := none } _ rfl rfl (by rfl) (fun wE hE => by (go_simp; try with_reducible rfl)) ?_; simp only [Act.put, List.setIfInBounds_toArray, List.set_cons_zero, List.set_cons_succ]
  refine wpS_call (some 9) { dst := some 9, op := Op.call { callee := Callee.value (Operand.func 59), args := #[Operand.tmp 8, Operand.const (Value.int IntKind.i64 10)], argTypes := #[2, 3] }, type := _, pos := _, after := _, guard := none } 59 _ rfl rfl (by rfl) (by go_simp; try first | with_reducible rfl | exact ⟨rfl, rfl⟩) ?_
  refine (formatInt_any v.mnr _ b0 b1 (hw.ext E1)).mono ?_; rintro e w2 ⟨rfl, e2⟩; refine ⟨_, rfl, e2, ?_⟩; simp only [Act.put, List.setIfInBounds_toArray, List.set_cons_zero, List.set_cons_succ]
  have E2 := E1.trans e2
  refine wpS_quiet (some 10) { dst := some 10, op := Op.binOp BinOp.add 9 (Operand.tmp 6) (Operand.tmp 9) 9, type := _, pos := _, after := _, guard := none } _ rfl rfl (by rfl) (fun wE hE => by (go_simp; try with_reducible rfl)) ?_; simp only [Act.put, List.setIfInBounds_toArray, List.set_cons_zero, List.set_cons_succ]
  refine wpS_quiet (some 11) { dst := some 11, op := Op.binOp BinOp.add 9 (Operand.tmp 10) (Operand.const (Value.string { data := #[46] })) 9, type := _, pos := _, after := _, guard := none } _ rfl rfl (by rfl) (fun wE hE => by (go_simp; try with_reducible rfl)) ?_; simp only [Act.put, List.setIfInBounds_toArray, List.set_cons_zero, List.set_cons_succ]
  refine wpS_call (some 14) { dst := some 14, op := Op.call { callee := Callee.value (Operand.func 59), args := #[Operand.tmp 13, Operand.const (Value.int IntKind.i64 10)], argTypes := #[2, 3] }, type := _, pos := _, after := _, guard := none } 59 _ rfl rfl (by rfl) (by go_simp; try first | with_reducible rfl | exact ⟨rfl, rfl⟩) ?_
  refine (formatInt_any v.pat _ c0 c1 (hw.ext E2)).mono ?_; rintro e w3 ⟨rfl, e3⟩; refine ⟨_, rfl, e3, ?_⟩; simp only [Act.put, List.setIfInBounds_toArray, List.set_cons_zero, List.set_cons_succ]
  refine wpS_quiet (some 15) { dst := some 15, op := Op.binOp BinOp.add 9 (Operand.tmp 11) (Operand.tmp 14) 9, type := _, pos := _, after := _, guard := none } _ rfl rfl (by rfl) (fun wE hE => by (go_simp; try with_reducible rfl)) ?_; simp only [Act.put, List.setIfInBounds_toArray, List.set_cons_zero, List.set_cons_succ]
  refine wpS_quiet (some 2) { dst := some 2, op := Op.assign (Operand.tmp 15), type := _, pos := _, after := _, guard := none } _ rfl rfl (by rfl) (fun wE hE => by (go_simp; try with_reducible rfl)) ?_; simp only [Act.put, List.setIfInBounds_toArray, List.set_cons_zero, List.set_cons_succ]
  change Exit.then _ _ _ _ _
  clear k1 k2 k3 k4
  rw [hv.out]
  go_wp2
  go_ret
  exact ⟨rfl, E2.trans e3⟩

/-! ### semver.NewVersion -/
/-- the parts of a version's text -/
structure Parts (s : ByteArray) (v : VD) (p q z : Nat) : Prop where
  hz : s.size = z
  hp : 0 < p
  hpq : p + 1 < q
  hqz : q + 1 < z
  le : z ≤ 14
  d0 : ∀ i (h : i < s.size), i < p → isDig s[i]
  t0 : ∀ (h : p < s.size), s[p] = 46
  d1 : ∀ i (h : i < s.size), p < i → i < q → isDig s[i]
  t1 : ∀ (h : q < s.size), s[q] = 46
  d2 : ∀ i (h : i < s.size), q < i → isDig s[i]
  x0 : s.extract 0 p = numS v.maj
  x1 : s.extract (p + 1) q = numS v.mnr
  x2 : s.extract (q + 1) z = numS v.pat
theorem bget {l : List UInt8} {i : Nat} (h : i < (strS l).size) : (strS l)[i] = l[i]'(by rw [strS_size] at h; exact h) := by
  rfl
theorem bext {l : List UInt8} {i j : Nat} : (strS l).extract i j = strS ((l.drop i).take (j - i)) := by
  have := Lib.extract_data (strS l) i j
  apply ByteArray.ext
  apply Array.toList_inj.1
  rw [this]
  rfl
theorem get_app {a b : List UInt8} {i : Nat} (h : i < (a ++ b).length) (h2 : a.length ≤ i) : (a ++ b)[i] = b[i - a.length]'(by simp at h; omega) := List.getElem_append_right h2
theorem parts_vt {v : VD} (h : v.ok) : ∃ p q z, Parts (vt v) v p q z := by
  obtain ⟨_, h1, _, h2, _, h3⟩ := id h
  have z1 := dec_len h1
  have z2 := dec_len h2
  have z3 := dec_len h3
  have g1 := dec_dig v.maj
  have g2 := dec_dig v.mnr
  have g3 := dec_dig v.pat
  have e : vt v = strS (vtl v) := rfl
  have el : (vtl v).length = (dec v.maj).length + 1 + (dec v.mnr).length + 1 + (dec v.pat).length := by unfold vtl; simp; omega
  refine ⟨(dec v.maj).length, (dec v.maj).length + 1 + (dec v.mnr).length, (dec v.maj).length + 1 + (dec v.mnr).length + 1 + (dec v.pat).length, ?_⟩
  have key : ∀ i (h : i < (vtl v).length), (vtl v)[i] = (if i < (dec v.maj).length then (dec v.maj).getD i 0 else if i = (dec v.maj).length then 46 else if i < (dec v.maj).length + 1 + (dec v.mnr).length then (dec v.mnr).getD (i - (dec v.maj).length - 1) 0 else if i = (dec v.maj).length + 1 + (dec v.mnr).length then 46 else (dec v.pat).getD (i - (dec v.maj).length - 1 - (dec v.mnr).length - 1) 0) := by
    intro i hi
    have : (vtl v)[i] = (vtl v).getD i 0 := by rw [List.getD_eq_getElem?_getD, List.getElem?_eq_getElem hi]; rfl
    rw [this]
    unfold vtl
    simp only [List.getD_eq_getElem?_getD]
    split
    · rw [List.getElem?_append_left (by omega)]
    · rw [List.getElem?_append_right (by omega)]
      split
      · rename_i hq; rw [hq, Nat.sub_self]; rfl
      · obtain ⟨j, hj⟩ : ∃ j, i - (dec v.maj).length = j + 1 := ⟨i - (dec v.maj).length - 1, by omega⟩
        rw [hj, List.getElem?_cons_succ]
        split
        · rw [List.getElem?_append_left (by omega)]; rfl
        · rw [List.getElem?_append_right (by omega)]
          split
          · rw [show j - (dec v.mnr).length = 0 by omega]; rfl
          · obtain ⟨m, hm⟩ : ∃ m, j - (dec v.mnr).length = m + 1 := ⟨j - (dec v.mnr).length - 1, by omega⟩
            rw [hm, List.getElem?_cons_succ]
            rw [show j + 1 - 1 - (dec v.mnr).length - 1 = m by omega]
  have mem : ∀ (l : List UInt8) i, i < l.length → l.getD i 0 ∈ l := fun l i hi => by
    rw [List.getD_eq_getElem?_getD, List.getElem?_eq_getElem hi]; exact List.getElem_mem hi
  refine ⟨by rw [e, strS_size, el], by omega, by omega, by omega, by omega, ?_, ?_, ?_, ?_, ?_, ?_, ?_, ?_⟩
  · intro i hi hlt
    show isDig ((vtl v)[i]'hi)
    rw [key i hi, if_pos hlt]
    exact g1 _ (mem _ _ hlt)
  · intro hi
    show (vtl v)[(dec v.maj).length]'hi = 46
    rw [key _ hi, if_neg (by omega), if_pos rfl]
  · intro i hi h1 h2
    show isDig ((vtl v)[i]'hi)
    rw [key i hi, if_neg (by omega), if_neg (by omega), if_pos h2]
    exact g2 _ (mem _ _ (by omega))
  · intro hi
    show (vtl v)[(dec v.maj).length + 1 + (dec v.mnr).length]'hi = 46
    rw [key _ hi, if_neg (by omega), if_neg (by omega), if_neg (by omega), if_pos rfl]
  · intro i hi h1
    have hi' : i < (vtl v).length := hi
    show isDig ((vtl v)[i]'hi)
    rw [key i hi, if_neg (by omega), if_neg (by omega), if_neg (by omega), if_neg (by omega)]
    exact g3 _ (mem _ _ (by omega))
  · rw [e, bext]
    unfold vtl numS strS
    simp
  · rw [e, bext]
    unfold vtl
    rw [List.drop_append, List.drop_of_length_le (by omega), List.nil_append, show (dec v.maj).length + 1 - (dec v.maj).length = 1 by omega, List.drop_succ_cons, List.drop_zero, List.take_append_of_le_length (by omega), List.take_of_length_le (by omega)]
    rfl
  · rw [e, bext]
    unfold vtl
    rw [List.drop_append, List.drop_of_length_le (by omega), List.nil_append, show (dec v.maj).length + 1 + (dec v.mnr).length + 1 - (dec v.maj).length = (dec v.mnr).length + 1 + 1 by omega, List.drop_succ_cons, List.drop_append, List.drop_of_length_le (by omega), List.nil_append,
      show (dec v.mnr).length + 1 - (dec v.mnr).length = 1 by omega, List.drop_succ_cons, List.drop_zero, List.take_of_length_le (by omega)]
    rfl
end Go.Proofs.YtdokcengcekfgaaGreatDoor
