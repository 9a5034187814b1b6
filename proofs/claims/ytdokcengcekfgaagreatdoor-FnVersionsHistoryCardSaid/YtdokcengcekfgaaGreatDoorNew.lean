/-
  semver.NewVersion: a version's text is read, one without a digit is refused.
-/
import Derived.Test.YtdokcengcekfgaaGreatDoorNum
namespace Go.Proofs.YtdokcengcekfgaaGreatDoor
open Go.RowKit
set_option linter.unusedSimpArgs false
set_option linter.unusedVariables false

/-- a new version -/
def NewAt (w : World) (v : VD) (e : Ending) (w' : World) : Prop :=
  ∃ b, e = .returned (.tuple #[.pointer (some ⟨b, 0, none⟩), .nilIface]) ∧ w.heap.size ≤ b ∧ V3 w' b 0 v.maj v.mnr v.pat ∧ Ext w w'
/-- no version -/
def NoVer (w : World) (e : Ending) (w' : World) : Prop := ∃ te ev, e = .returned (.tuple #[.pointer none, .iface te ev]) ∧ Ext w w'
def NvSt (s : ByteArray) (v : VD) (p q : Nat) (w wr : World) (k i : Nat) : Prop := Ext w wr ∧
  ((k = 0 ∧ i ≤ p ∧ Blk wr w.heap.size 70 [.int .i64 0, .int .i64 0, .int .i64 0]) ∨ (k = 1 ∧ p + 1 ≤ i ∧ i ≤ q ∧ Blk wr w.heap.size 70 [.int .i64 v.maj, .int .i64 0, .int .i64 0]) ∨
   (k = 2 ∧ q + 1 ≤ i ∧ i ≤ s.size ∧ Blk wr w.heap.size 70 [.int .i64 v.maj, .int .i64 v.mnr, .int .i64 0]) ∨ (k = 3 ∧ i = s.size + 1 ∧ Blk wr w.heap.size 70 [.int .i64 v.maj, .int .i64 v.mnr, .int .i64 v.pat]))
def stOf (s : ByteArray) (p q : Nat) : Nat → Nat
  | 0 => 0
  | 1 => p + 1
  | 2 => q + 1
  | _ => s.size + 1
theorem parse_any (n : Int) (h0 : 0 ≤ n) (h1 : n ≤ 9999) (w : World) : Calls Tryz.prog 60 #[.string (numS n), .int .i64 10, .int .i64 64] w fun e w' => e = .returned (.tuple #[.int .i64 n, .nilIface]) ∧ Ext w w' := by
  have hs := numS_size h1
  refine (Any.strconv_ParseInt_10_at64_ok Tryz.laysC174 (numS n) (by omega) n (parseInt_dec h0 h1) w).mono ?_
  rintro e w' ⟨rfl, h⟩
  refine ⟨rfl, ?_⟩
  rcases h with rfl | ⟨t, rfl⟩
  · exact Ext.refl _
  · exact ext_bytes w _ t
set_option maxRecDepth 20000 in
set_option maxHeartbeats 2000000 in
theorem newVersion_some (s : ByteArray) (v : VD) (h : v.ok) (hs : s = vt v) (w : World) : Calls Tryz.prog 48 #[.string s] w (NewAt w v) := by
  obtain ⟨p, q, z, P⟩ := parts_vt h
  rw [← hs] at P
  obtain rfl : s.size = z := P.hz
  obtain ⟨_, hp, hpq, hqz, hle, d0, t0, d1, t1, d2, x0, x1, x2⟩ := P
  obtain ⟨a0, a1, b0, b1, c0, c1⟩ := id h
  have D0 := Lib.hid d0; have T0 := Lib.hid t0; have D1 := Lib.hid d1; have T1 := Lib.hid t1; have D2 := Lib.hid d2; have X0 := Lib.hid x0; have X1 := Lib.hid x1; have X2 := Lib.hid x2
  clear d0 t0 d1 t1 d2 x0 x1 x2 hs
  go_enter Tryz.func48, Tryz.ntmps48
  go_wp2_with fail
  go_loopw [5, 6, 7] (fun u5 u6 u7 wr => ∃ (k i : Nat), u5 = .int .i64 k ∧ u6 = .int .i64 (stOf s p q k : Nat) ∧ u7 = .int .i64 i ∧ Hid (NvSt s v p q w wr k i)) (fun _ _ u7 _ => s.size + 1 - (intOf u7).toNat)
  case atStart => exact ⟨0, 0, rfl, rfl, rfl, Lib.hid ⟨(Ext.refl w).alloc _, .inl ⟨rfl, Nat.zero_le _, Blk.new w _ _⟩⟩⟩
  case round =>
    obtain ⟨k, i, rfl, rfl, rfl, H⟩ := hrel
    obtain ⟨hE, hc⟩ := H.out
    clear H
    rcases hc with ⟨rfl, hi, K⟩ | ⟨rfl, hi0, hi, K⟩ | ⟨rfl, hi0, hi, K⟩ | ⟨rfl, rfl, K⟩
    · by_cases hip : i < p
      · skip
        have hlt : i < s.size := by omega
        have hd := (D0.out i hlt hip)
        unfold isDig at hd
        obtain ⟨c1, c2⟩ := hd
        have e46 : ((s[i].toNat : Int) != 46) = true := by rw [bne_iff_ne]; omega
        go_wp2
        go_roundw
        case rel => exact ⟨0, i + 1, rfl, rfl, by go_num, Lib.hid ⟨hE, (.inl ⟨rfl, by omega, K⟩)⟩⟩
        case measure => simp [intOf]; omega
      · obtain rfl : i = p := by omega
        have hlt : i < s.size := by omega
        have e46 : ((s[i].toNat : Int) != 46) = false := by rw [T0.out hlt]; rfl
        simp only [stOf]
        go_wp2_with fail
        rw [show s.extract _ _ = numS v.maj from X0.out]
        refine (parse_any v.maj a0 a1 _).mono ?_
        rintro e w1 ⟨rfl, E1⟩
        replace K := K.ext E1
        replace hE := hE.trans E1
        have g0 := K.cell (o := 0) rfl
        have g1 := K.cell (o := 1) rfl
        have g2 := K.cell (o := 2) rfl
        have f0 := K.frozen 0
        have f1 := K.frozen 1
        have f2 := K.frozen 2
        go_wp2
        go_roundw
        case rel => exact ⟨1, i + 1, by go_num, by simp [stOf], by go_num, Lib.hid ⟨hE.setCell (p := ⟨w.heap.size, 0, none⟩) (Nat.le_refl _) _, (.inr (.inl ⟨rfl, by omega, by omega, K.setCell 0 _⟩))⟩⟩
        case measure => (simp [intOf] <;> omega)
    · by_cases hip : i < q
      · skip
        have hlt : i < s.size := by omega
        have hd := (D1.out i hlt (by omega) hip)
        unfold isDig at hd
        obtain ⟨c1, c2⟩ := hd
        have e46 : ((s[i].toNat : Int) != 46) = true := by rw [bne_iff_ne]; omega
        go_wp2
        go_roundw
        case rel => exact ⟨1, i + 1, rfl, rfl, by go_num, Lib.hid ⟨hE, (.inr (.inl ⟨rfl, by omega, by omega, K⟩))⟩⟩
        case measure => simp [intOf]; omega
      · obtain rfl : i = q := by omega
        have hlt : i < s.size := by omega
        have e46 : ((s[i].toNat : Int) != 46) = false := by rw [T1.out hlt]; rfl
        simp only [stOf]
        go_wp2_with fail
        rw [show s.extract _ _ = numS v.mnr from X1.out]
        refine (parse_any v.mnr b0 b1 _).mono ?_
        rintro e w1 ⟨rfl, E1⟩
        replace K := K.ext E1
        replace hE := hE.trans E1
        have g0 := K.cell (o := 0) rfl
        have g1 := K.cell (o := 1) rfl
        have g2 := K.cell (o := 2) rfl
        have f0 := K.frozen 0
        have f1 := K.frozen 1
        have f2 := K.frozen 2
        go_wp2
        go_roundw
        case rel => exact ⟨2, i + 1, by go_num, by simp [stOf], by go_num, Lib.hid ⟨hE.setCell (p := ⟨w.heap.size, 1, none⟩) (Nat.le_refl _) _, (.inr (.inr (.inl ⟨rfl, by omega, by omega, K.setCell 1 _⟩)))⟩⟩
        case measure => (simp [intOf] <;> omega)
    · by_cases hip : i < s.size
      · skip
        have hlt : i < s.size := by omega
        have hd := (D2.out i hlt (by omega))
        unfold isDig at hd
        obtain ⟨c1, c2⟩ := hd
        have e46 : ((s[i].toNat : Int) != 46) = true := by rw [bne_iff_ne]; omega
        go_wp2
        go_roundw
        case rel => exact ⟨2, i + 1, rfl, rfl, by go_num, Lib.hid ⟨hE, (.inr (.inr (.inl ⟨rfl, by omega, by omega, K⟩)))⟩⟩
        case measure => simp [intOf]; omega
      · obtain rfl : i = s.size := by omega
        simp only [stOf]
        go_wp2_with fail
        rw [show s.extract _ _ = numS v.pat from X2.out]
        refine (parse_any v.pat c0 c1 _).mono ?_
        rintro e w1 ⟨rfl, E1⟩
        replace K := K.ext E1
        replace hE := hE.trans E1
        have g0 := K.cell (o := 0) rfl
        have g1 := K.cell (o := 1) rfl
        have g2 := K.cell (o := 2) rfl
        have f0 := K.frozen 0
        have f1 := K.frozen 1
        have f2 := K.frozen 2
        go_wp2
        go_roundw
        case rel => exact ⟨3, s.size + 1, by go_num, by simp [stOf], by go_num, Lib.hid ⟨hE.setCell (p := ⟨w.heap.size, 2, none⟩) (Nat.le_refl _) _, (.inr (.inr (.inr ⟨rfl, rfl, K.setCell 2 _⟩)))⟩⟩
        case measure => (simp [intOf] <;> omega)
    · have g0 := K.cell (o := 0) rfl
      have g1 := K.cell (o := 1) rfl
      have g2 := K.cell (o := 2) rfl
      go_wp2
      go_ret2
      exact ⟨wr.heap.size, rfl, hE.size, ⟨(Blk.new wr _ _).cell (o := 0) rfl, (Blk.new wr _ _).cell (o := 1) rfl, (Blk.new wr _ _).cell (o := 2) rfl⟩, hE.alloc _⟩

theorem parse_no (s : ByteArray) (hs : s.data.toList = []) (w : World) (hw : VarsOk w) : Calls Tryz.prog 60 #[.string s, .int .i64 10, .int .i64 64] w fun e w' => ∃ te ev, e = .returned (.tuple #[.int .i64 0, .iface te ev]) ∧ Ext w w' := by
  obtain ⟨⟨tp, p, hp⟩, _⟩ := hw
  have hz : s.size = 0 := by
    have := congrArg List.length hs
    rwa [Array.length_toList] at this
  refine (Any.strconv_ParseInt_10_at64_syntax_var Tryz.laysC174 s (by omega) (by rw [hs]; rfl) tp p w hp).mono ?_
  rintro e w' ⟨N, rfl, _, _, hb⟩
  exact ⟨_, _, rfl, Ext.of hb⟩
set_option maxRecDepth 20000 in
set_option maxHeartbeats 2000000 in
theorem newVersion_none (s : ByteArray) (hn : NoDig s.data.toList) (hs : s.size ≤ 20) (w : World) (hw : VarsOk w) : Calls Tryz.prog 48 #[.string s] w (NoVer w) := by
  replace hw := Lib.hid hw
  replace hn := Lib.hid hn
  go_enter Tryz.func48, Tryz.ntmps48
  go_wp2_with fail
  go_loopw [5, 6, 7] (fun u5 u6 u7 wr => u5 = .int .i64 0 ∧ u6 = .int .i64 0 ∧ u7 = .int .i64 0 ∧ Ext w wr) (fun _ _ u7 _ => 0)
  case atStart => exact ⟨rfl, rfl, rfl, (Ext.refl w).alloc _⟩
  case round =>
    obtain ⟨rfl, rfl, rfl, hE⟩ := hrel
    by_cases hz : 0 < s.size
    · have hd : ¬ isDig s[0] := hn.out _ (by
        have : s[0] = s.data.toList[0]'(by rw [Array.length_toList]; exact hz) := rfl
        rw [this]; exact List.getElem_mem _)
      by_cases h46 : s[0] = 46
      · have e46 : ((s[0].toNat : Int) != 46) = false := by rw [h46]; rfl
        clear h46 hd
        go_wp2_with fail
        refine (parse_no _ (by simp) wr (hw.out.ext hE)).mono ?_
        rintro e w1 ⟨te, ev, rfl, E1⟩
        go_wp2
        go_ret2
        exact ⟨_, _, rfl, hE.trans E1⟩
      · have e46 : ((s[0].toNat : Int) != 46) = true := by
          rw [bne_iff_ne]
          intro h
          exact h46 (UInt8.toNat_inj.1 (show s[0].toNat = (46 : UInt8).toNat from by have e : (46 : UInt8).toNat = 46 := rfl; omega))
        clear h46
        unfold isDig at hd
        by_cases h48 : s[0].toNat < 48
        · have k1 : decide ((s[0].toNat : Int) < 48) = true := by simp; omega
          clear hd
          go_wp2
          go_ret2
          exact ⟨_, _, rfl, hE⟩
        · have k1 : decide ((s[0].toNat : Int) < 48) = false := by simp; omega
          have k2 : decide ((57 : Int) < (s[0].toNat : Int)) = true := by simp; omega
          clear hd
          go_wp2
          go_ret2
          exact ⟨_, _, rfl, hE⟩
    · have hz' : s.size = 0 := by omega
      have hl : decide ((0 : Int) < (s.size : Int)) = false := decide_eq_false (by omega)
      have hl2 : decide ((0 : Int) ≤ (s.size : Int)) = true := decide_eq_true (by omega)
      clear hz'
      go_wp2_with fail
      refine (parse_no _ (by simp) wr (hw.out.ext hE)).mono ?_
      rintro e w1 ⟨te, ev, rfl, E1⟩
      go_wp2
      go_ret2
      exact ⟨_, _, rfl, hE.trans E1⟩
end Go.Proofs.YtdokcengcekfgaaGreatDoor
