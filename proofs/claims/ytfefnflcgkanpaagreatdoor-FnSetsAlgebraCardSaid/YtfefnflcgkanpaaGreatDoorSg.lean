/-
  The smallest list of processors, read: wide, zzIndex, zzPair, zzSplit, Parse, CPUParse at "3,0-1".
-/
import Derived.Test.YtfefnflcgkanpaaGreatDoorSb
import Derived.Test.YtfefnflcgkanpaaGreatDoorSe
import Derived.LoopN
namespace Go.Proofs.YtfefnflcgkanpaaGreatDoor
open Go.RowKit
set_option linter.unusedSimpArgs false
set_option linter.unusedVariables false

abbrev s3 : ByteArray := { data := #[51] }
abbrev s01 : ByteArray := { data := #[48, 45, 49] }
abbrev s0 : ByteArray := { data := #[48] }
abbrev s1 : ByteArray := { data := #[49] }
abbrev sAll : ByteArray := { data := #[51, 44, 48, 45, 49] }
abbrev sComma : ByteArray := { data := #[44] }
set_option maxRecDepth 20000 in
set_option maxHeartbeats 1000000 in
theorem wide3 (w : World) : Calls Tryz.prog 21 #[.string s3] w fun e w' => e = .returned (.bool false) ∧ Ext w w' := by
  go_enter Tryz.func21, Tryz.ntmps21
  go_wp2_with fail
  refine wp_loop_rounds 2 ?_
  rw [rounds_succ]
  go_wp2_with fail
  rw [rounds_succ]
  go_wp2_with fail
  go_ret
  exact ⟨rfl, Ext.refl _⟩
theorem atoi_any (s : ByteArray) (n : Int) (hl : s.size ≤ 18) (h : Lib.atoi s.data.toList = some n) (w : World) :
    Calls Tryz.prog 31 #[.string s] w fun e w' => e = .returned (.tuple #[.int .i64 n, .nilIface]) ∧ Ext w w' := by
  refine (Any.strconv_Atoi Tryz.lays172 s n hl h w).mono ?_
  rintro e w' ⟨rfl, t, rfl⟩
  exact ⟨rfl, rfl, rfl, rfl, by rw [Lib.bytesWorld_size]; omega, fun k hk => Lib.bytesWorld_at_old w _ t k hk⟩
set_option maxRecDepth 20000 in
set_option maxHeartbeats 1000000 in
theorem str_at {w : World} {ok : Nat → Prop} {xs : List ByteArray} {b o n c k : Nat} {s : ByteArray} (h : (Rp.slice Rp.str).K w ok xs [.slice (some ⟨b, o, none⟩) n c]) (hk : xs[k]? = some s) : w.cell? ⟨b, o + k, none⟩ = some (.string s) := by
  obtain ⟨A, c', hv, _, _, _, hrow⟩ := h
  simp only [List.cons.injEq, Value.slice.injEq, and_true] at hv
  obtain ⟨rfl, rfl, rfl⟩ := hv
  obtain ⟨cs, hl, hK, hc⟩ := hrow.at rfl hk
  obtain ⟨rfl, _⟩ := hK
  have := hc 0 (Nat.lt_succ_self 0)
  rw [show o + k = o + (k * Rp.str.sz + 0) by show o + k = o + (k * 1 + 0); omega]
  exact this
set_option maxRecDepth 20000 in
set_option maxHeartbeats 1000000 in
theorem wide01 (w : World) : Calls Tryz.prog 21 #[.string s01] w fun e w' => e = .returned (.bool false) ∧ Ext w w' := by
  have h0 := fun w => atoi_any s0 0 (by decide) (by decide) w
  have h1 := fun w => atoi_any s1 1 (by decide) (by decide) w
  have H0 := Lib.hid h0
  have H1 := Lib.hid h1
  clear h0 h1
  go_enter Tryz.func21, Tryz.ntmps21
  go_wp2_with fail
  refine wp_loop_rounds 3 ?_
  rw [rounds_succ]
  go_wp2_with fail
  rw [rounds_succ]
  go_wp2_with fail
  rw [show s01.extract 0 1 = s0 from by decide]
  refine (H0.out _).mono ?_
  rintro e w1 ⟨rfl, e1⟩
  go_wp2_with fail
  rw [show s01.extract 2 3 = s1 from by decide]
  refine (H1.out _).mono ?_
  rintro e w2 ⟨rfl, e2⟩
  go_wp2_with fail
  go_ret
  exact ⟨rfl, e1.trans e2⟩
set_option maxRecDepth 20000 in
set_option maxHeartbeats 1000000 in
theorem index_all (w : World) : Calls Tryz.prog 46 #[.string sAll, .string sComma] w fun e w' => e = .returned (.int .i64 1) ∧ Ext w w' := by
  go_enter Tryz.func46, Tryz.ntmps46
  go_wp2_with fail
  refine wp_loop_rounds 3 ?_
  rw [rounds_succ]
  have t0 : ((sAll.extract 0 1).toList == [44]) = false := by decide +kernel
  have t1 : ((sAll.extract 1 2).toList == [44]) = true := by decide +kernel
  go_wp2_with fail
  rw [rounds_succ]
  go_wp2_with fail
  go_ret
  exact ⟨rfl, Ext.refl _⟩
set_option maxRecDepth 20000 in
set_option maxHeartbeats 1000000 in
theorem index_01 (w : World) : Calls Tryz.prog 46 #[.string s01, .string sComma] w fun e w' => e = .returned (.int .i64 (-1)) ∧ Ext w w' := by
  go_enter Tryz.func46, Tryz.ntmps46
  go_wp2_with fail
  refine wp_loop_rounds 4 ?_
  rw [rounds_succ]
  have t0 : ((s01.extract 0 1).toList == [44]) = false := by decide +kernel
  have t1 : ((s01.extract 1 2).toList == [44]) = false := by decide +kernel
  have t2 : ((s01.extract 2 3).toList == [44]) = false := by decide +kernel
  go_wp2_with fail
  rw [rounds_succ]
  go_wp2_with fail
  rw [rounds_succ]
  go_wp2_with fail
  rw [rounds_succ]
  go_wp2_with fail
  go_ret
  exact ⟨rfl, Ext.refl _⟩
theorem infoS : (Tryz.prog.info? 9).map (fun i => (i.zero, i.size, i.bytes)) = some (some (.string ⟨#[]⟩), 1, 16) := by kernel_rfl
set_option maxRecDepth 20000 in
set_option maxHeartbeats 2000000 in
theorem split_all (w : World) : Calls Tryz.prog 32 #[.string sAll, .string sComma] w fun e w' => ∃ v, e = .returned v ∧ OwnP Rp.str w' any w.heap.size 9 v [s3, s01] ∧ Ext w w' := by
  obtain ⟨i0, hi, hz0, hz1, hz2⟩ := info_parts3 infoS
  go_enter Tryz.func32, Tryz.ntmps32
  go_wp2_with fail
  refine wp_loop_rounds 2 ?_
  rw [rounds_succ]
  go_wp2_with fail
  refine (index_all w).mono ?_
  rintro e w1 ⟨rfl, e1⟩
  have h1s := e1.size
  go_wp2_with (at_builtin; refine wpList_app (d := Rp.str) (base := w.heap.size) rfl (.tmp 46) (.tmp 50) 54 rfl 9 i0 _ 16 Tryz.underlying54 hi hz0 hz1 hz2 rfl (v := (.slice none 0 0)) rfl ((OwnP.nil Rp.str w1 any w.heap.size 9).ext ((Ext.refl w1).alloc _)) (fun _ _ => trivial) ⟨w1.heap.size, 0, none⟩ 1 [.string (sAll.extract 0 1)] [(sAll.extract 0 1)] rfl rfl (lit_at _ _ _ _ (by simp)) (one_elem (p := fun i y => (Rp.str).K _ (fun q => any q ∧ some q ≠ Value.ownBlock (.slice none 0 0)) y (([.string (sAll.extract 0 1)].drop (i * (Rp.str).sz)).take (Rp.str).sz)) ⟨rfl,by decide⟩) (by first | (simp [maxLen]; done) | (simp [maxLen]; omega)) (by first | (simp; done) | (simp; omega)) (by first | (simp; done) | (simp; omega)) ?_; intro v2 w2 own2 g2 f2; have O2 := Lib.hid own2; have G2 := Lib.hid g2; have F2 := Lib.hid f2; clear own2 g2 f2; obtain ⟨A2, n2, cap2, rfl⟩ := own_shape O2.out; skip)
  have E2 : Ext w w2 := ((((e1.trans ((Ext.refl w1).alloc _)).toX (fun q => some q = Value.ownBlock (.slice none 0 0))).grown G2.out (fun q h => h.symm))).toExt (fun q hq => by simp [Value.ownBlock] at hq)
  have h2s := E2.size
  go_wp2_with fail
  rw [rounds_succ]
  go_wp2_with fail
  rw [show sAll.extract 2 5 = s01 from by decide]
  refine (index_01 w2).mono ?_
  rintro e w3 ⟨rfl, e3⟩
  have O3 := Lib.hid (O2.out.ext e3)
  have h3s := e3.size
  obtain ⟨A5, n5, cap5, hv5⟩ : ∃ A5 n5 cap5, (Value.slice A2 n2 cap2) = .slice A5 n5 cap5 := ⟨_, _, _, rfl⟩
  rw [hv5] at O3 ⊢
  have G3 := G2
  clear O2 F2 hv5
  go_wp2_with (at_builtin; refine wpList_app (d := Rp.str) (base := w.heap.size) rfl (.tmp 42) (.tmp 44) 54 rfl 9 i0 _ 16 Tryz.underlying54 hi hz0 hz1 hz2 rfl (v := (.slice A5 n5 cap5)) rfl (O3.out.ext ((Ext.refl w3).alloc _)) (fun _ _ => trivial) ⟨w3.heap.size, 0, none⟩ 1 [.string s01] [s01] rfl rfl (lit_at _ _ _ _ (by simp)) (one_elem (p := fun i y => (Rp.str).K _ (fun q => any q ∧ some q ≠ Value.ownBlock (.slice A5 n5 cap5)) y (([.string s01].drop (i * (Rp.str).sz)).take (Rp.str).sz)) ⟨rfl,by decide⟩) (by first | (simp [maxLen]; done) | (simp [maxLen]; omega)) (by first | (simp; done) | (simp; omega)) (by first | (simp; done) | (simp; omega)) ?_; intro v2 w2 own2 g2 f2; have O2 := Lib.hid own2; have G2 := Lib.hid g2; have F2 := Lib.hid f2; clear own2 g2 f2; obtain ⟨A2, n2, cap2, rfl⟩ := own_shape O2.out; skip)
  go_wp2_with fail
  go_ret
  have EF : Ext w w2 := (((((E2.trans e3).trans ((Ext.refl w3).alloc _)).toX (fun q => some q = Value.ownBlock (.slice A5 n5 cap5))).grown G2.out (fun q h => h.symm))).toExt (fun q hq => (O3.out.own q hq.symm).1)
  refine ⟨_, rfl, ?_, EF⟩
  have h9 := O2.out
  rw [show [] ++ [sAll.extract 0 1] ++ [s01] = [s3, s01] from by decide] at h9
  exact h9
set_option maxRecDepth 20000 in
set_option maxHeartbeats 1000000 in
theorem pair3 (w : World) : Calls Tryz.prog 33 #[.string s3] w fun e w' => ∃ b, e = .returned (.slice (some ⟨b, 0, none⟩) 1 1) ∧ Blk w' b 9 [.string s3] ∧ Ext w w' := by
  go_enter Tryz.func33, Tryz.ntmps33
  go_wp2_with fail
  refine wp_loop_rounds 2 ?_
  rw [rounds_succ]
  go_wp2_with fail
  rw [rounds_succ]
  go_wp2_with fail
  go_ret
  exact ⟨_, rfl, Blk.new w _ [.string s3], (Ext.refl w).alloc _⟩
noncomputable def ops_33_5 : Array Oper := opsAt Tryz.f33 5
set_option maxRecDepth 20000 in
set_option maxHeartbeats 1000000 in
theorem pair01 (w : World) : Calls Tryz.prog 33 #[.string s01] w fun e w' => ∃ b, e = .returned (.slice (some ⟨b, 0, none⟩) 2 2) ∧ Blk w' b 9 [.string s0, .string s1] ∧ Ext w w' := by
  go_enter Tryz.func33, Tryz.ntmps33
  go_wp2_with fail
  refine wp_loop_rounds 3 ?_
  rw [rounds_succ]
  go_wp2_with fail
  rw [rounds_succ]
  go_wp2_with fail
  have hw2 : IntKind.i64.wrap 2 = 2 := by decide
  refine wp_region_sched (ops := ops_33_5) Ext [] (.quiet 0 (.quiet 1 (.quiet 2 (.quiet 3 (.quiet 4 (.quiet 5 (.quiet 6 (.loud 7 (.quiet 8 (.done)) (.stop))))))))) (by kernel_rfl) ext_refl ext_trans (by kernel_rfl) (fun _ _ d _ _ h => by cases d <;> exact h) ?_
  refine wpS_quiet (some 14) { dst := some 14, op := Op.move (Operand.tmp 0), type := _, pos := _, after := _, guard := none } _ rfl rfl (by rfl) (fun wE hE => by (go_simp; try with_reducible rfl)) ?_; simp only [Act.put, List.setIfInBounds_toArray, List.set_cons_zero, List.set_cons_succ]
  refine wpS_quiet (some 15) { dst := some 15, op := Op.move (Operand.tmp 3), type := _, pos := _, after := _, guard := none } _ rfl rfl (by rfl) (fun wE hE => by (go_simp; try with_reducible rfl)) ?_; simp only [Act.put, List.setIfInBounds_toArray, List.set_cons_zero, List.set_cons_succ]
  refine wpS_quiet (some 16) { dst := some 16, op := Op.slice 9 (Operand.tmp 14) none (some (Operand.tmp 15)) none, type := _, pos := _, after := _, guard := none } _ rfl rfl (by rfl) (fun wE hE => by (go_simp; try with_reducible rfl)) ?_; simp only [Act.put, List.setIfInBounds_toArray, List.set_cons_zero, List.set_cons_succ]
  refine wpS_quiet (some 17) { dst := some 17, op := Op.move (Operand.tmp 0), type := _, pos := _, after := _, guard := none } _ rfl rfl (by rfl) (fun wE hE => by (go_simp; try with_reducible rfl)) ?_; simp only [Act.put, List.setIfInBounds_toArray, List.set_cons_zero, List.set_cons_succ]
  refine wpS_quiet (some 18) { dst := some 18, op := Op.move (Operand.tmp 3), type := _, pos := _, after := _, guard := none } _ rfl rfl (by rfl) (fun wE hE => by (go_simp; try with_reducible rfl)) ?_; simp only [Act.put, List.setIfInBounds_toArray, List.set_cons_zero, List.set_cons_succ]
  refine wpS_quiet (some 19) { dst := some 19, op := Op.binOp BinOp.add 3 (Operand.tmp 18) (Operand.const (Value.int IntKind.i64 1)) 3, type := _, pos := _, after := _, guard := none } _ rfl rfl (by rfl) (fun wE hE => by (go_simp; try with_reducible rfl)) ?_; simp only [Act.put, List.setIfInBounds_toArray, List.set_cons_zero, List.set_cons_succ]
  refine wpS_quiet (some 20) { dst := some 20, op := Op.slice 9 (Operand.tmp 17) (some (Operand.tmp 19)) none none, type := _, pos := _, after := _, guard := none } _ rfl rfl (by rfl) (fun wE hE => by (go_simp; try with_reducible rfl)) ?_; simp only [Act.put, List.setIfInBounds_toArray, List.set_cons_zero, List.set_cons_succ]
  refine wpS_make (some 21) { dst := some 21, op := Op.buildSlice 54 2 #[(0, Operand.tmp 16), (1, Operand.tmp 20)], type := _, pos := _, after := _, guard := none } rfl rfl (by rfl) 9 [.string (s01.extract 0 1), .string (s01.extract 2 3)] 2 (by go_simp; try rfl) (fun w' h => h) ?_ trivial
  intro bs wb hb' eb KB
  clear hb'
  simp only [Act.put, List.setIfInBounds_toArray, List.set_cons_zero, List.set_cons_succ]
  refine wpS_quiet (some 2) { dst := some 2, op := Op.assign (Operand.tmp 21), type := _, pos := _, after := _, guard := none } _ rfl rfl (by rfl) (fun wE hE => by (go_simp; try with_reducible rfl)) ?_; simp only [Act.put, List.setIfInBounds_toArray, List.set_cons_zero, List.set_cons_succ]
  change Exit.then _ _ _ _ _
  go_wp2_with fail
  go_ret
  refine ⟨_, rfl, ?_, eb.undrew⟩
  rw [show s01.extract 0 1 = s0 from by decide, show s01.extract 2 3 = s1 from by decide] at KB
  exact KB
set_option maxRecDepth 20000 in
set_option maxHeartbeats 2000000 in
theorem parse_all (w : World) : Calls Tryz.prog 22 #[.string sAll] w fun e w' => ∃ b ks, e = .returned (.tuple #[setV b, .nilIface]) ∧ w.heap.size ≤ b ∧ SetI w' b ks ∧ (∀ x, x ∈ ks ↔ x ∈ [0, 1, 3]) ∧ ks.length ≤ 10 ∧ Ext w w' := by
  have a0 := Lib.hid (fun w => atoi_any s0 0 (by decide) (by decide) w)
  have a1 := Lib.hid (fun w => atoi_any s1 1 (by decide) (by decide) w)
  have a3 := Lib.hid (fun w => atoi_any s3 3 (by decide) (by decide) w)
  go_enter Tryz.func22, Tryz.ntmps22
  go_wp2_with fail
  refine (new_any [] (.slice none 0 0) _ (nil_iv _ _)).mono ?_
  rintro e w1 ⟨r0, rfl, hr0, HR, e1⟩
  have E1 := ((Ext.refl w).alloc (.cells #[.map none] 41)).trans e1
  have B0 := (Blk.new w 41 [.map none]).ext e1
  rw [World.size_alloc] at hr0
  have hrl := HR.lt
  have B1 := Blk.new w1 41 [.map (some r0)]
  have HB0 := Lib.hid (B0.ext ((Ext.refl w1).alloc (.cells #[.map (some r0)] 41)))
  have HR0 := Lib.hid HR
  have HB1 := Lib.hid B1
  clear B0 B1 HR
  go_wp2_with fail
  refine (split_all _).mono ?_
  rintro e w2 ⟨v2, rfl, hO, e2⟩
  obtain ⟨A2, c2, rfl, _, _, hA⟩ := slice_shape hO.slice
  obtain ⟨ba, oa, rfl⟩ := hA (by simp)
  have E2 := (E1.alloc (.cells #[.map (some r0)] 41)).trans e2
  have HS := Lib.hid hO.slice
  have hba : w1.heap.size + 1 ≤ ba := by have := (hO.own ba rfl).1; rwa [World.size_alloc] at this
  have HB0 := Lib.hid (HB0.out.ext e2)
  have HB1 := Lib.hid (HB1.out.ext e2)
  have HR2 := Lib.hid (HR0.out.extW (((Ext.refl w1).alloc (.cells #[.map (some r0)] 41)).trans e2))
  clear hO hA
  have q0 : w2.cell? ⟨ba, oa, none⟩ = some (.string s3) := str_at (k := 0) HS.out rfl
  have q1 := Lib.hid (str_at (k := 1) HS.out rfl)
  go_wp2_with fail
  refine wp_loop_rounds 3 ?_
  rw [rounds_succ]
  go_wp2_with fail
  clear q0
  refine (pair3 w2).mono ?_
  rintro e w3 ⟨b3, rfl, K3, e3⟩
  have q1 := Lib.hid (e3.cellS q1.out)
  have HB0 := Lib.hid (HB0.out.ext e3)
  have HB1 := Lib.hid (HB1.out.ext e3)
  have HR3 := Lib.hid (HR2.out.extW e3)
  have E3 := E2.trans e3
  have c0 := K3.cell (o := 0) rfl
  clear E2 HR2 HS K3
  go_wp2_with fail
  clear c0
  refine (a3.out w3).mono ?_
  rintro e w4 ⟨rfl, e4⟩
  have q1 := Lib.hid (e4.cellS q1.out)
  have HB0 := Lib.hid (HB0.out.ext e4)
  have HB1 := Lib.hid (HB1.out.ext e4)
  have HR4 := Lib.hid (HR3.out.extW e4)
  have E4 := E3.trans e4
  have d1 := HB1.out.cell (o := 0) rfl
  have hr4 := HR4.out.lt
  clear E3 HR3
  go_wp2_with fail
  refine (add_any r0 _ [3] _ _ (HR4.out.extW ((Ext.refl w4).alloc _)) (one_iv w4 3 (by omega))).mono ?_
  rintro e w5 ⟨rfl, h5, x5⟩
  have X5 : ExtX (fun k => k = r0) w4 w5 := (((Ext.refl w4).alloc _).toX _).trans x5
  have q1 := X5.cellS (p := ⟨ba, oa + 1, none⟩) (fun h => by have h : ba = r0 := h; omega) q1.out
  have HB0 := Lib.hid (HB0.out.extX X5 (fun h => by have h : w.heap.size = r0 := h; omega))
  have HB1 := Lib.hid (HB1.out.extX X5 (fun h => by have h : w1.heap.size = r0 := h; omega))
  have HR5 : Hid (SetI w5 r0 [3]) := Lib.hid h5
  have E5 : Ext w w5 := ((E4.toX _).trans X5).toExt (fun k hk => by have hk : k = r0 := hk; omega)
  clear E4 HR4 h5 x5 X5 d1
  go_wp2_with fail
  rw [rounds_succ]
  go_wp2_with fail
  clear q1
  refine (pair01 w5).mono ?_
  rintro e w6 ⟨b6, rfl, K6, e6⟩
  have HB0 := Lib.hid (HB0.out.ext e6)
  have HB1 := Lib.hid (HB1.out.ext e6)
  have HR6 := Lib.hid (HR5.out.extW e6)
  have E6 := E5.trans e6
  have c0 := K6.cell (o := 0) rfl
  have K6' := Lib.hid K6
  clear E5 HR5 K6
  go_wp2_with fail
  clear c0
  refine (a0.out w6).mono ?_
  rintro e w7 ⟨rfl, e7⟩
  have c1 := (K6'.out.ext e7).cell (o := 1) rfl
  have HB0 := Lib.hid (HB0.out.ext e7)
  have HB1 := Lib.hid (HB1.out.ext e7)
  have HR7 := Lib.hid (HR6.out.extW e7)
  have E7 := E6.trans e7
  clear E6 HR6 K6'
  go_wp2_with fail
  clear c1
  refine (a1.out w7).mono ?_
  rintro e w8 ⟨rfl, e8⟩
  have HB0 := Lib.hid (HB0.out.ext e8)
  have HB1 := Lib.hid (HB1.out.ext e8)
  have HR8 := Lib.hid (HR7.out.extW e8)
  have E8 := E7.trans e8
  have d1 := HB1.out.cell (o := 0) rfl
  have hr8 := HR8.out.lt
  clear E7 HR7
  go_wp2_with fail
  refine wp_loop_rounds 3 ?_
  rw [rounds_succ]
  go_wp2_with fail
  refine (add_any r0 _ [0] _ _ (HR8.out.extW ((Ext.refl w8).alloc _)) (one_iv w8 0 (by omega))).mono ?_
  rintro e w9 ⟨rfl, h9, x9⟩
  have X9 : ExtX (fun k => k = r0) w8 w9 := (((Ext.refl w8).alloc _).toX _).trans x9
  have HB0 := Lib.hid (HB0.out.extX X9 (fun h => by have h : w.heap.size = r0 := h; omega))
  have HB1 := Lib.hid (HB1.out.extX X9 (fun h => by have h : w1.heap.size = r0 := h; omega))
  have HR9 : Hid (SetI w9 r0 [3, 0]) := Lib.hid h9
  have E9 : Ext w w9 := ((E8.toX _).trans X9).toExt (fun k hk => by have hk : k = r0 := hk; omega)
  clear E8 HR8 h9 x9 X9 d1
  have d1 := HB1.out.cell (o := 0) rfl
  have hr9 := HR9.out.lt
  go_wp2_with fail
  rw [rounds_succ]
  go_wp2_with fail
  refine (add_any r0 _ [1] _ _ (HR9.out.extW ((Ext.refl w9).alloc _)) (one_iv w9 1 (by omega))).mono ?_
  rintro e wA ⟨rfl, hA, xA⟩
  have XA : ExtX (fun k => k = r0) w9 wA := (((Ext.refl w9).alloc _).toX _).trans xA
  have HB0 := Lib.hid (HB0.out.extX XA (fun h => by have h : w.heap.size = r0 := h; omega))
  have HB1 := Lib.hid (HB1.out.extX XA (fun h => by have h : w1.heap.size = r0 := h; omega))
  have HRA : Hid (SetI wA r0 [3, 0, 1]) := Lib.hid hA
  have EA : Ext w wA := ((E9.toX _).trans XA).toExt (fun k hk => by have hk : k = r0 := hk; omega)
  clear E9 HR9 hA xA XA d1
  have d1 := HB1.out.cell (o := 0) rfl
  have f1 := HB0.out.frozen 0
  have d0 := HB0.out.cell (o := 0) rfl
  go_wp2_with fail
  rw [rounds_succ]
  go_wp2_with fail
  rw [rounds_succ]
  go_wp2_with fail
  have K5 := HB0.out.setCell 0 (.map (some r0))
  have g0 := K5.cell (o := 0) rfl
  have X2 : ExtX (fun k => k = w.heap.size) wA (wA.setCell ⟨w.heap.size, 0, none⟩ (.map (some r0))) := (ExtX.refl (fun k => k = w.heap.size) wA).setCell (p := ⟨w.heap.size, 0, none⟩) rfl _
  have HRB := HRA.out.extX X2 (fun h => by have h : r0 = w.heap.size := h; omega)
  refine bodyPost_ret (v := .tuple #[setV r0, .nilIface]) (by simp [results, Tryz.results22, go_sem, g0]) rfl ⟨r0, [3, 0, 1], rfl, by omega, HRB, fun x => ?_, by decide, ((EA.toX _).trans X2).toExt (fun k hk => by have hk : k = w.heap.size := hk; omega)⟩
  simp only [List.mem_cons, List.mem_nil_iff, or_false]
  omega
set_option maxRecDepth 20000 in
set_option maxHeartbeats 2000000 in
theorem cpuParse_all (w : World) : Calls Tryz.prog 8 #[.string sAll] w fun e w' => ∃ v, e = .returned (.tuple #[v, .bool true]) ∧ OwnP Rp.iv w' any w.heap.size 3 v [0, 1, 3] ∧ Ext w w' := by
  have W3 := Lib.hid wide3
  have W01 := Lib.hid wide01
  go_enter Tryz.func8, Tryz.ntmps8
  go_wp2_with fail
  refine wp_loop_rounds 7 ?_
  rw [rounds_succ]
  go_wp2_with fail
  rw [rounds_succ]
  go_wp2_with fail
  rw [show sAll.extract 0 1 = s3 from by decide]
  refine (W3.out w).mono ?_
  rintro e w1 ⟨rfl, e1⟩
  go_wp2_with fail
  rw [rounds_succ]
  go_wp2_with fail
  rw [rounds_succ]
  go_wp2_with fail
  rw [rounds_succ]
  go_wp2_with fail
  rw [rounds_succ]
  go_wp2_with fail
  rw [show sAll.extract 2 5 = s01 from by decide]
  refine (W01.out w1).mono ?_
  rintro e w2 ⟨rfl, e2⟩
  have E2 := e1.trans e2
  clear e1 e2
  go_wp2_with fail
  rw [rounds_succ]
  go_wp2_with fail
  refine (parse_all w2).mono ?_
  rintro e w3 ⟨b, ks, rfl, hb, hS, hm, hk, e3⟩
  have HS := Lib.hid hS
  have HM := Lib.hid hm
  have E3 := E2.trans e3
  clear hS hm
  go_wp2_with fail
  refine (list_any b ks _ (HS.out.extW ((Ext.refl w3).alloc _)) (by omega)).mono ?_
  rintro e w4 ⟨v, l, rfl, hO, hA, hl, e4⟩
  have hle : l = [0, 1, 3] := asc_ext hA (by unfold Asc; decide) (fun x => by rw [hl, HM.out])
  have HO := Lib.hid (hO.base (b2 := w.heap.size) (by rw [World.size_alloc]; have := E3.size; omega))
  rw [hle] at HO
  clear hO hA hl hle
  go_wp2_with fail
  refine bodyPost_ret (v := .tuple #[v, .bool true]) (by simp [results, Tryz.results8, go_sem]) rfl ?_
  exact ⟨v, rfl, HO.out, (E3.alloc _).trans e4⟩
end Go.Proofs.YtfefnflcgkanpaaGreatDoor
