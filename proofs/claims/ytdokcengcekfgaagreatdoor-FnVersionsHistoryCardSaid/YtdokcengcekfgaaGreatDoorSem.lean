/-
  Versions: read and written by the program (spec.VerOf, spec.VerText, semver.NewVersion, semver.String).
-/
import Derived.Test.YtdokcengcekfgaaGreatDoorOwn
import Derived.Test.YtdokcengcekfgaaGreatDoorVer
import Derived.Test.YtdokcengcekfgaaGreatDoorVt
import Derived.Test.YtdokcengcekfgaaGreatDoorShelf
import Derived.Laws.AppendOwn
import Derived.Laws.IdiomStrings
import Derived.Laws.BytesArg
import Derived.Lib.ConvBytes
import Derived.IntWalk
namespace Go.Proofs.YtdokcengcekfgaaGreatDoor
open Go.RowKit
set_option linter.unusedSimpArgs false
set_option linter.unusedVariables false

/-- what the library's variables hold -/
def VarsOk (w : World) : Prop := (∃ tp p, w.var? Tryz.prog "strconv.ErrSyntax" = some #[.iface tp p]) ∧ Lib.TabIs Tryz.prog w "internal/strconv.uint64pow10" .u64 Lib.pow10Tab
theorem var_ext {w w' : World} {P : Program} {n : String} {cs : Array Value} (e : Ext w w') (h : w.var? P n = some cs) : w'.var? P n = some cs := by
  unfold World.var? at *
  cases hg : P.globalNamed n with
  | none => rw [hg] at h; cases h
  | some g =>
    rw [hg] at h
    simp only [Option.bind_some] at *
    have : w'.heap[g]? = w.heap[g]? := by
      refine e.2.2.2.2 g ?_
      cases hq : w.heap[g]? with
      | none => rw [hq] at h; cases h
      | some o => exact (Array.getElem?_eq_some_iff.1 hq).1
    rw [this]; exact h
theorem VarsOk.ext {w w' : World} (h : VarsOk w) (e : Ext w w') : VarsOk w' := by
  obtain ⟨⟨tp, p, h1⟩, h2⟩ := h
  exact ⟨⟨tp, p, var_ext e h1⟩, var_ext e h2⟩
theorem ext_grow (w : World) (k : Nat) (os : Array Obj) : Ext w (Go.Sort.grow (w.drewN k) os) := by
  refine ⟨rfl, rfl, rfl, ?_, fun i hi => ?_⟩
  · show w.heap.size ≤ (w.heap ++ os).size
    simp
  · show (w.heap ++ os)[i]? = _
    rw [Array.getElem?_append_left hi]
theorem ext_bytes (w : World) (e : TypeId) (t : ByteArray) : Ext w (Lib.bytesWorld w e t) :=
  ⟨rfl, rfl, rfl, by rw [Lib.bytesWorld_size]; omega, fun k hk => Lib.bytesWorld_at_old w e t k hk⟩

abbrev verCells (v : VD) : List Value := [.int .i64 v.maj, .int .i64 v.mnr, .int .i64 v.pat]
abbrev verV (v : VD) : Value := .agg #[.int .i64 v.maj, .int .i64 v.mnr, .int .i64 v.pat]
def zeroV : VD := ⟨0, 0, 0⟩
abbrev numCells (l : List Int) : List Value := l.map (Value.int .i64)

/-! ### spec.VerOf -/
theorem sofar_cur {p : List UInt8} {k d : Nat} {a b c : Int} (h : Sofar p k d [a, b, c]) (hd : d ≤ 4) : k ≤ 2 ∧ (k = 0 → 0 ≤ a ∧ a ≤ 9999 ∧ b = 0 ∧ c = 0) ∧ (k = 1 → 0 ≤ b ∧ b ≤ 9999 ∧ c = 0) ∧ (k = 2 → 0 ≤ c ∧ c ≤ 9999) := by
  match k, h with
  | 0, h =>
    obtain ⟨rfl, rfl, ha, h⟩ := h
    refine ⟨by omega, fun _ => ⟨ha, ?_, rfl, rfl⟩, fun h => by omega, fun h => by omega⟩
    rcases h with ⟨_, h, _⟩ | ⟨_, h2, _⟩
    · omega
    · have := lt_of_nDigits (u := a.toNat) (by omega); omega
  | 1, h =>
    obtain ⟨rfl, _, _, ha, h⟩ := h
    refine ⟨by omega, fun h => by omega, fun _ => ⟨ha, ?_, rfl⟩, fun h => by omega⟩
    rcases h with ⟨_, h, _⟩ | ⟨_, h2, _⟩
    · omega
    · have := lt_of_nDigits (u := b.toNat) (by omega); omega
  | 2, h =>
    obtain ⟨_, _, _, _, ha, h⟩ := h
    refine ⟨by omega, fun h => by omega, fun h => by omega, fun _ => ⟨ha, ?_⟩⟩
    rcases h with ⟨_, h, _⟩ | ⟨_, h2, _⟩
    · omega
    · have := lt_of_nDigits (u := c.toNat) (by omega); omega
  | k + 3, h => simp [Sofar] at h

/-- what VerOf answers -/
def VerOfAns (s : ByteArray) (w : World) (e : Ending) (w' : World) : Prop := e = .returned (.tuple #[verV ((verOfD s).getD zeroV), .bool (verOfD s).isSome]) ∧ Ext w w'
/-- the state of the reader -/
def VerSt (s : ByteArray) (w wr : World) (i k d : Nat) (a b c : Int) : Prop :=
  vgo s.data.toList 0 0 [0, 0, 0] = vgo (s.data.toList.drop i) k d [a, b, c] ∧ Sofar (s.data.toList.take i) k d [a, b, c] ∧ d ≤ 4 ∧ Ext w wr ∧
    Blk wr w.heap.size 29 [.int .i64 0, .int .i64 0, .int .i64 0] ∧ Blk wr (w.heap.size + 1) 70 [.int .i64 a, .int .i64 b, .int .i64 c]
theorem vgo_step {s : ByteArray} {i k d : Nat} {l : List Int} (hi : i < s.size) : vgo (s.data.toList.drop i) k d l = vgo (s[i] :: s.data.toList.drop (i + 1)) k d l := by
  congr 1
  have : i < s.data.toList.length := by rw [Array.length_toList]; exact hi
  rw [List.drop_eq_getElem_cons this]
  rfl
theorem take_byte {s : ByteArray} {i : Nat} (hi : i < s.size) : s.data.toList.take (i + 1) = s.data.toList.take i ++ [s[i]] := by
  have : i < s.data.toList.length := by rw [Array.length_toList]; exact hi
  rw [List.take_succ_eq_append_getElem this]
  rfl
theorem verSt_dig {s : ByteArray} {w wr w' : World} {i k d : Nat} {a b c a' b' c' : Int} (h : VerSt s w wr i k d a b c) (hi : i < s.size) (hc : isDig s[i]) (hok : ¬ (d = 4 ∨ (0 < d ∧ [a, b, c].getD k 0 = 0)))
    (hl : [a, b, c].set k (10 * [a, b, c].getD k 0 + (s[i].toNat - 48 : Nat)) = [a', b', c']) (e : Ext w w') (K0 : Blk w' w.heap.size 29 [.int .i64 0, .int .i64 0, .int .i64 0]) (K1 : Blk w' (w.heap.size + 1) 70 [.int .i64 a', .int .i64 b', .int .i64 c']) :
    VerSt s w w' (i + 1) k (d + 1) a' b' c' := by
  obtain ⟨h1, h2, h3, _⟩ := h
  refine ⟨?_, ?_, by omega, e, K0, K1⟩
  · rw [h1, vgo_step hi, vgo, if_pos hc, if_neg hok, hl]
  · rw [take_byte hi, ← hl]; exact sofar_dig h2 hc hok
theorem verSt_dot {s : ByteArray} {w wr : World} {i k d : Nat} {a b c : Int} (h : VerSt s w wr i k d a b c) (hi : i < s.size) (hc : s[i] = 46) (hd : 0 < d) (hk : k < 2) : VerSt s w wr (i + 1) (k + 1) 0 a b c := by
  obtain ⟨h1, h2, h3, h4⟩ := h
  refine ⟨?_, ?_, by omega, h4⟩
  · rw [h1, vgo_step hi, vgo, hc, if_neg (by decide), if_pos ⟨rfl, hd, hk⟩]
  · rw [take_byte hi, hc]; exact sofar_dot h2 hd h3 hk
theorem verSt_none {s : ByteArray} {w wr : World} {i k d : Nat} {a b c : Int} (h : VerSt s w wr i k d a b c) (hn : vgo (s.data.toList.drop i) k d [a, b, c] = none) : verOfD s = none := by
  unfold verOfD; rw [h.1, hn]
theorem verSt_end {s : ByteArray} {w wr : World} {k d : Nat} {a b c : Int} (h : VerSt s w wr s.size k d a b c) : verOfD s = if k = 2 ∧ d ≠ 0 then some ⟨a, b, c⟩ else none := by
  unfold verOfD
  rw [h.1, List.drop_of_length_le (by rw [Array.length_toList]; exact Nat.le_refl _), vgo]
  by_cases hk : k = 2 ∧ d ≠ 0
  · rw [if_pos hk, if_pos hk]
  · rw [if_neg hk, if_neg hk]
theorem verAns_none {s : ByteArray} {w w' : World} (h : verOfD s = none) (e : Ext w w') : VerOfAns s w (.returned (.tuple #[.agg #[.int .i64 0, .int .i64 0, .int .i64 0], .bool false])) w' := by
  refine ⟨?_, e⟩
  rw [h]; rfl
theorem verAns_some {s : ByteArray} {w w' : World} {v : VD} (h : verOfD s = some v) (e : Ext w w') : VerOfAns s w (.returned (.tuple #[verV v, .bool true])) w' := by
  refine ⟨?_, e⟩
  rw [h]; rfl
theorem ext3 {w wr : World} (e : Ext w wr) {x y z : Value} : Ext w (((wr.setCell ⟨w.heap.size, 0, none⟩ x).setCell ⟨w.heap.size, 1, none⟩ y).setCell ⟨w.heap.size, 2, none⟩ z) :=
  ((e.setCell (p := ⟨w.heap.size, 0, none⟩) (Nat.le_refl _) x).setCell (p := ⟨w.heap.size, 1, none⟩) (Nat.le_refl _) y).setCell (p := ⟨w.heap.size, 2, none⟩) (Nat.le_refl _) z
theorem verSt_dig0 {s : ByteArray} {w wr : World} {i d : Nat} {a b c : Int} (h : VerSt s w wr i 0 d a b c) (hi : i < s.size) (hc : isDig s[i]) (hok : ¬ (d = 4 ∨ (0 < d ∧ a = 0))) :
    ∀ w', Ext w w' → Blk w' w.heap.size 29 [.int .i64 0, .int .i64 0, .int .i64 0] → Blk w' (w.heap.size + 1) 70 [.int .i64 (10 * a + ((s[i].toNat : Int) - 48)), .int .i64 b, .int .i64 c] → VerSt s w w' (i + 1) 0 (d + 1) (10 * a + ((s[i].toNat : Int) - 48)) b c := fun w' e K0 K1 => by
  refine verSt_dig h hi hc hok ?_ e K0 K1
  unfold isDig at hc
  simp; omega
theorem verSt_dig1 {s : ByteArray} {w wr : World} {i d : Nat} {a b c : Int} (h : VerSt s w wr i 1 d a b c) (hi : i < s.size) (hc : isDig s[i]) (hok : ¬ (d = 4 ∨ (0 < d ∧ b = 0))) :
    ∀ w', Ext w w' → Blk w' w.heap.size 29 [.int .i64 0, .int .i64 0, .int .i64 0] → Blk w' (w.heap.size + 1) 70 [.int .i64 a, .int .i64 (10 * b + ((s[i].toNat : Int) - 48)), .int .i64 c] → VerSt s w w' (i + 1) 1 (d + 1) a (10 * b + ((s[i].toNat : Int) - 48)) c := fun w' e K0 K1 => by
  refine verSt_dig h hi hc hok ?_ e K0 K1
  unfold isDig at hc
  simp; omega
theorem verSt_dig2 {s : ByteArray} {w wr : World} {i d : Nat} {a b c : Int} (h : VerSt s w wr i 2 d a b c) (hi : i < s.size) (hc : isDig s[i]) (hok : ¬ (d = 4 ∨ (0 < d ∧ c = 0))) :
    ∀ w', Ext w w' → Blk w' w.heap.size 29 [.int .i64 0, .int .i64 0, .int .i64 0] → Blk w' (w.heap.size + 1) 70 [.int .i64 a, .int .i64 b, .int .i64 (10 * c + ((s[i].toNat : Int) - 48))] → VerSt s w w' (i + 1) 2 (d + 1) a b (10 * c + ((s[i].toNat : Int) - 48)) := fun w' e K0 K1 => by
  refine verSt_dig h hi hc hok ?_ e K0 K1
  unfold isDig at hc
  simp; omega
set_option maxHeartbeats 2000000 in
theorem verOf_any (s : ByteArray) (w : World) (hs : s.size ≤ 2147483647) : Calls Tryz.prog 25 #[.string s] w (VerOfAns s w) := by
  go_enter Tryz.func25, Tryz.ntmps25
  go_wp2_with fail
  go_loopw [5, 6, 7] (fun u5 u6 u7 wr => ∃ (i k d : Nat) (a b c : Int), u5 = .int .i64 k ∧ u6 = .int .i64 d ∧ u7 = .int .i64 i ∧ i ≤ s.size ∧ Hid (VerSt s w wr i k d a b c)) (fun _ _ u7 _ => s.size - (intOf u7).toNat)
  case atStart =>
    refine ⟨0, 0, 0, 0, 0, 0, rfl, rfl, rfl, Nat.zero_le _, Lib.hid ⟨rfl, ⟨rfl, rfl, by decide, .inl ⟨rfl, rfl, rfl⟩⟩, by decide, ((Ext.refl w).alloc _).alloc _, (Blk.new w _ _).ext ((Ext.refl _).alloc _), ?_⟩⟩
    have := Blk.new (w.alloc (.cells #[.int .i64 0, .int .i64 0, .int .i64 0] 29)) 70 [.int .i64 0, .int .i64 0, .int .i64 0]
    rwa [World.size_alloc] at this
  case round =>
    obtain ⟨i, k, d, a, b, c, rfl, rfl, rfl, hi, H⟩ := hrel
    obtain ⟨_, hsf, hd4, hE, K0, K1⟩ := id H.out
    have hcur := sofar_cur hsf hd4
    clear hsf
    have g0 := K1.cell (o := 0) rfl
    have g1 := K1.cell (o := 1) rfl
    have g2 := K1.cell (o := 2) rfl
    have z0 := K0.cell (o := 0) rfl
    have z1 := K0.cell (o := 1) rfl
    have z2 := K0.cell (o := 2) rfl
    have f0 := K0.frozen 0
    have f1 := K0.frozen 1
    have f2 := K0.frozen 2
    have e0 := K1.frozen 0
    have e1 := K1.frozen 1
    have e2 := K1.frozen 2
    have HK0 := Lib.hid K0
    have HK1 := Lib.hid K1
    have HE := Lib.hid hE
    clear K0 K1 hE
    by_cases hlt : i < s.size
    · by_cases hc : isDig s[i]
      · have hb := Lib.hid hc
        unfold isDig at hc
        obtain ⟨c1, c2⟩ := hc
        obtain rfl | rfl | rfl : k = 0 ∨ k = 1 ∨ k = 2 := by omega
        · skip
          by_cases hd : d = 4
          · subst hd
            go_wp2
            refine bodyPost_ret (by simp [results, Tryz.results25, go_sem, z0, z1, z2]; try rfl) rfl ?_
            exact verAns_none (verSt_none H.out (by rw [vgo_step hlt, vgo, if_pos hb.out, if_pos (.inl rfl)])) (ext3 HE.out)
          have hd4b : ((d : Int) == 4) = false := by simp; omega
          by_cases h0 : d = 0
          · have HS := Lib.hid (verSt_dig0 H.out hlt hb.out (by omega))
            subst h0
            go_wp2
            go_roundw
            case rel => exact ⟨i + 1, 0, 1, _, _, _, rfl, rfl, by go_num, by omega, Lib.hid (HS.out _ (HE.out.setCell (p := ⟨w.heap.size + 1, 0, none⟩) (Nat.le_succ _) _) (HK0.out.setCell_ne (p := ⟨w.heap.size + 1, 0, none⟩) (Nat.succ_ne_self _) _) (HK1.out.setCell 0 _))⟩
            case measure => simp [intOf]; omega
          have h0b : decide ((0 : Int) < (d : Int)) = true := by simp; omega
          by_cases hz : a = 0
          · have hzb : (a == 0) = true := by simpa using hz
            have HN := Lib.hid (verSt_none H.out (by rw [vgo_step hlt, vgo, if_pos hb.out, if_pos (.inr ⟨by omega, hz⟩)]))
            clear hz
            go_wp2
            refine bodyPost_ret (by simp [results, Tryz.results25, go_sem, z0, z1, z2]; try rfl) rfl ?_
            exact verAns_none HN.out (ext3 HE.out)
          have hzb : (a == 0) = false := by simpa using hz
          have HS := Lib.hid (verSt_dig0 H.out hlt hb.out (by rintro (h | ⟨_, h⟩); (exact hd h); exact hz h))
          clear hz
          go_wp2
          go_roundw
          case rel => exact ⟨i + 1, 0, d + 1, _, _, _, rfl, by go_num, by go_num, by omega, Lib.hid (HS.out _ (HE.out.setCell (p := ⟨w.heap.size + 1, 0, none⟩) (Nat.le_succ _) _) (HK0.out.setCell_ne (p := ⟨w.heap.size + 1, 0, none⟩) (Nat.succ_ne_self _) _) (HK1.out.setCell 0 _))⟩
          case measure => simp [intOf]; omega
        · skip
          by_cases hd : d = 4
          · subst hd
            go_wp2
            refine bodyPost_ret (by simp [results, Tryz.results25, go_sem, z0, z1, z2]; try rfl) rfl ?_
            exact verAns_none (verSt_none H.out (by rw [vgo_step hlt, vgo, if_pos hb.out, if_pos (.inl rfl)])) (ext3 HE.out)
          have hd4b : ((d : Int) == 4) = false := by simp; omega
          by_cases h0 : d = 0
          · have HS := Lib.hid (verSt_dig1 H.out hlt hb.out (by omega))
            subst h0
            go_wp2
            go_roundw
            case rel => exact ⟨i + 1, 1, 1, _, _, _, rfl, rfl, by go_num, by omega, Lib.hid (HS.out _ (HE.out.setCell (p := ⟨w.heap.size + 1, 1, none⟩) (Nat.le_succ _) _) (HK0.out.setCell_ne (p := ⟨w.heap.size + 1, 1, none⟩) (Nat.succ_ne_self _) _) (HK1.out.setCell 1 _))⟩
            case measure => simp [intOf]; omega
          have h0b : decide ((0 : Int) < (d : Int)) = true := by simp; omega
          by_cases hz : b = 0
          · have hzb : (b == 0) = true := by simpa using hz
            have HN := Lib.hid (verSt_none H.out (by rw [vgo_step hlt, vgo, if_pos hb.out, if_pos (.inr ⟨by omega, hz⟩)]))
            clear hz
            go_wp2
            refine bodyPost_ret (by simp [results, Tryz.results25, go_sem, z0, z1, z2]; try rfl) rfl ?_
            exact verAns_none HN.out (ext3 HE.out)
          have hzb : (b == 0) = false := by simpa using hz
          have HS := Lib.hid (verSt_dig1 H.out hlt hb.out (by rintro (h | ⟨_, h⟩); (exact hd h); exact hz h))
          clear hz
          go_wp2
          go_roundw
          case rel => exact ⟨i + 1, 1, d + 1, _, _, _, rfl, by go_num, by go_num, by omega, Lib.hid (HS.out _ (HE.out.setCell (p := ⟨w.heap.size + 1, 1, none⟩) (Nat.le_succ _) _) (HK0.out.setCell_ne (p := ⟨w.heap.size + 1, 1, none⟩) (Nat.succ_ne_self _) _) (HK1.out.setCell 1 _))⟩
          case measure => simp [intOf]; omega
        · skip
          by_cases hd : d = 4
          · subst hd
            go_wp2
            refine bodyPost_ret (by simp [results, Tryz.results25, go_sem, z0, z1, z2]; try rfl) rfl ?_
            exact verAns_none (verSt_none H.out (by rw [vgo_step hlt, vgo, if_pos hb.out, if_pos (.inl rfl)])) (ext3 HE.out)
          have hd4b : ((d : Int) == 4) = false := by simp; omega
          by_cases h0 : d = 0
          · have HS := Lib.hid (verSt_dig2 H.out hlt hb.out (by omega))
            subst h0
            go_wp2
            go_roundw
            case rel => exact ⟨i + 1, 2, 1, _, _, _, rfl, rfl, by go_num, by omega, Lib.hid (HS.out _ (HE.out.setCell (p := ⟨w.heap.size + 1, 2, none⟩) (Nat.le_succ _) _) (HK0.out.setCell_ne (p := ⟨w.heap.size + 1, 2, none⟩) (Nat.succ_ne_self _) _) (HK1.out.setCell 2 _))⟩
            case measure => simp [intOf]; omega
          have h0b : decide ((0 : Int) < (d : Int)) = true := by simp; omega
          by_cases hz : c = 0
          · have hzb : (c == 0) = true := by simpa using hz
            have HN := Lib.hid (verSt_none H.out (by rw [vgo_step hlt, vgo, if_pos hb.out, if_pos (.inr ⟨by omega, hz⟩)]))
            clear hz
            go_wp2
            refine bodyPost_ret (by simp [results, Tryz.results25, go_sem, z0, z1, z2]; try rfl) rfl ?_
            exact verAns_none HN.out (ext3 HE.out)
          have hzb : (c == 0) = false := by simpa using hz
          have HS := Lib.hid (verSt_dig2 H.out hlt hb.out (by rintro (h | ⟨_, h⟩); (exact hd h); exact hz h))
          clear hz
          go_wp2
          go_roundw
          case rel => exact ⟨i + 1, 2, d + 1, _, _, _, rfl, by go_num, by go_num, by omega, Lib.hid (HS.out _ (HE.out.setCell (p := ⟨w.heap.size + 1, 2, none⟩) (Nat.le_succ _) _) (HK0.out.setCell_ne (p := ⟨w.heap.size + 1, 2, none⟩) (Nat.succ_ne_self _) _) (HK1.out.setCell 2 _))⟩
          case measure => simp [intOf]; omega
      · have hb := Lib.hid hc
        have hcc : ¬ (48 ≤ (s[i].toNat : Int) ∧ (s[i].toNat : Int) ≤ 57) := by unfold isDig at hc; omega
        by_cases h46 : s[i] = 46
        · have e46 : ((s[i].toNat : Int) == 46) = true := by rw [h46]; rfl
          have e47 : decide ((48 : Int) ≤ (s[i].toNat : Int)) = false := by rw [h46]; rfl
          by_cases hd : 0 < d
          · have hdb : decide ((0 : Int) < (d : Int)) = true := by simp; omega
            by_cases hk : k < 2
            · have hkb : decide ((k : Int) < 2) = true := by simp; omega
              have HD := Lib.hid (verSt_dot H.out hlt h46 hd hk)
              clear h46 hcc hc
              go_wp2
              go_roundw
              case rel => exact ⟨i + 1, k + 1, 0, a, b, c, by go_num, rfl, by go_num, by omega, HD⟩
              case measure => simp [intOf]; omega
            · have hkb : decide ((k : Int) < 2) = false := by simp; omega
              have HN := Lib.hid (verSt_none H.out (by rw [vgo_step hlt, vgo, if_neg hb.out, if_neg (by omega)]))
              clear h46 hcc hc
              go_wp2
              refine bodyPost_ret (by simp [results, Tryz.results25, go_sem, z0, z1, z2]; try rfl) rfl ?_
              exact verAns_none HN.out (ext3 HE.out)
          · have hdb : decide ((0 : Int) < (d : Int)) = false := by simp; omega
            have HN := Lib.hid (verSt_none H.out (by rw [vgo_step hlt, vgo, if_neg hb.out, if_neg (by omega)]))
            clear h46 hcc hc
            go_wp2
            refine bodyPost_ret (by simp [results, Tryz.results25, go_sem, z0, z1, z2]; try rfl) rfl ?_
            exact verAns_none HN.out (ext3 HE.out)
        · have e46 : ((s[i].toNat : Int) == 46) = false := by
            rw [beq_eq_false_iff_ne]
            intro h
            exact h46 (UInt8.toNat_inj.1 (by have e : (46 : UInt8).toNat = 46 := rfl; omega))
          have HN := Lib.hid (verSt_none H.out (by rw [vgo_step hlt, vgo, if_neg hb.out, if_neg (fun h => h46 h.1)]))
          clear h46
          by_cases h48 : 48 ≤ s[i].toNat
          · have k1 : decide ((48 : Int) ≤ (s[i].toNat : Int)) = true := by simp; omega
            have k2 : decide ((s[i].toNat : Int) ≤ 57) = false := by simp; omega
            clear hcc hc
            go_wp2
            refine bodyPost_ret (by simp [results, Tryz.results25, go_sem, z0, z1, z2]; try rfl) rfl ?_
            exact verAns_none HN.out (ext3 HE.out)
          · have k1 : decide ((48 : Int) ≤ (s[i].toNat : Int)) = false := by simp; omega
            clear hcc hc
            go_wp2
            refine bodyPost_ret (by simp [results, Tryz.results25, go_sem, z0, z1, z2]; try rfl) rfl ?_
            exact verAns_none HN.out (ext3 HE.out)
    · obtain rfl : i = s.size := by omega
      have HN := Lib.hid (verSt_end H.out)
      by_cases hk : k = 2
      · subst hk
        by_cases hd : d = 0
        · subst hd
          go_wp2
          refine bodyPost_ret (by simp [results, Tryz.results25, go_sem, z0, z1, z2]; try rfl) rfl ?_
          exact verAns_none (by rw [HN.out]; simp) (ext3 HE.out)
        · have hd' : ((d : Int) == 0) = false := by simpa using hd
          go_wp2
          refine bodyPost_ret (by simp [results, Tryz.results25, go_sem, z0, z1, z2]; try rfl) rfl ?_
          exact verAns_some (v := ⟨a, b, c⟩) (by rw [HN.out]; simp [hd]) (ext3 HE.out)
      · have hk' : ((k : Int) != 2) = true := by simp; omega
        go_wp2
        refine bodyPost_ret (by simp [results, Tryz.results25, go_sem, z0, z1, z2]; try rfl) rfl ?_
        exact verAns_none (by rw [HN.out, if_neg (by omega)]) (ext3 HE.out)
end Go.Proofs.YtdokcengcekfgaaGreatDoor
