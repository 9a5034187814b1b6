/-
  The guards of the laws of responses (zzFits40, frGood).
-/
import Derived.Test.YtmimpfenlhfkiaaFrags
namespace Go.Proofs.Ytmimpfenlhfkiaa
open Go.RowKit
set_option linter.unusedSimpArgs false
set_option linter.unusedVariables false

/-- some answer, yes or no -/
def BoolAny (w : World) (e : Ending) (w' : World) : Prop := ∃ c : Bool, e = .returned (.bool c) ∧ Ext w w'
theorem fits43 (x : KVd) (w : World) : Calls Try.prog 25 #[kvV x] w (BoolAny w) := by
  go_enter Try.func25, Try.ntmps25
  go_wp2
  all_goals (go_ret; exact ⟨_, rfl, (Ext.refl w).alloc _⟩)
theorem fits42 (x : EvD) (w : World) : Calls Try.prog 19 #[evV x] w (BoolAny w) := by
  go_enter Try.func19, Try.ntmps19
  go_wp2_with fail
  refine (fits43 x.kv _).mono ?_
  rintro e w1 ⟨c, rfl, E1⟩
  have E1 := ((Ext.refl w).alloc _).trans E1
  have K := (Blk.new w 37 (evCells x)).ext (show Ext _ w1 from ‹Ext (w.alloc _) w1›)
  have g8 := K.cell (o := 8) rfl
  have g9 := K.cell (o := 9) rfl
  have g10 := K.cell (o := 10) rfl
  have g11 := K.cell (o := 11) rfl
  have g12 := K.cell (o := 12) rfl
  have g13 := K.cell (o := 13) rfl
  cases c with
  | false =>
    go_wp2
    go_ret
    exact ⟨_, rfl, E1⟩
  | true =>
    go_wp2_with fail
    refine (fits43 x.prev _).mono ?_
    rintro e w2 ⟨c, rfl, E2⟩
    go_wp2
    all_goals (go_ret; exact ⟨_, rfl, E1.trans E2⟩)

/-- the events of a row, whatever their numbers -/
theorem evx_at {w wr : World} {ok : Nat → Prop} {b o : Nat} {xs : List EvD} (h : Rp.evx.row w ok (some ⟨b, o, none⟩) xs) {k : Nat} {y : EvD} (hy : xs[k]? = some y) (hE : Ext w wr) : EvCells wr b (o + k * 14) y := by
  obtain ⟨cs, _, hK, hc⟩ := h.at rfl hy
  obtain rfl : cs = evCells y := hK
  refine ⟨hE.cellS (hc 0 (by decide)), ?_, ?_, ?_, ?_, ?_, ?_, ?_, ?_, ?_, ?_, ?_, ?_, ?_⟩ <;> refine hE.cellS (at_add (s := 14) ?_)
  · exact hc 1 (by decide)
  · exact hc 2 (by decide)
  · exact hc 3 (by decide)
  · exact hc 4 (by decide)
  · exact hc 5 (by decide)
  · exact hc 6 (by decide)
  · exact hc 7 (by decide)
  · exact hc 8 (by decide)
  · exact hc 9 (by decide)
  · exact hc 10 (by decide)
  · exact hc 11 (by decide)
  · exact hc 12 (by decide)
  · exact hc 13 (by decide)
set_option maxHeartbeats 1000000 in
theorem fits41 (xs : List EvD) (v : Value) (w : World) (h : (Rp.slice Rp.evx).K w any xs [v]) (hl : xs.length ≤ 9223372036854775807) : Calls Try.prog 13 #[v] w (BoolAny w) := by
  obtain ⟨A, cap, hv, p1, p2, p3, hrow⟩ := h
  simp only [List.cons.injEq, and_true] at hv
  subst hv
  have HR := Lib.hid hrow
  clear hrow
  go_enter Try.func13, Try.ntmps13
  go_wp2_with fail
  · go_ret
    exact ⟨_, rfl, Ext.refl w⟩
  go_loopw [10] (fun i wr => ∃ k : Nat, i = .int .i64 k ∧ k ≤ xs.length ∧ Ext w wr) (fun i _ => xs.length - (intOf i).toNat)
  case atStart => exact ⟨0, rfl, Nat.zero_le _, Ext.refl _⟩
  case round =>
    obtain ⟨k, rfl, hk, hE⟩ := hrel
    by_cases hlt : k < xs.length
    · obtain ⟨y, hy⟩ : ∃ y, xs[k]? = some y := ⟨_, List.getElem?_eq_getElem hlt⟩
      obtain ⟨ba, o, rfl, _⟩ := HR.out.addr (List.ne_nil_of_length_pos (by omega))
      obtain ⟨g0, g1, g2, g3, g4, g5, g6, g7, g8, g9, g10, g11, g12, g13⟩ := evx_at HR.out hy hE
      clear hy
      go_wp2_with fail
      refine (fits42 y _).mono ?_
      rintro e w1 ⟨c, rfl, E1⟩
      have E2 := (hE.alloc _).trans E1
      cases c with
      | false =>
        go_wp2
        go_ret
        exact ⟨_, rfl, E2⟩
      | true =>
        go_wp2
        go_roundw
        case rel => exact ⟨k + 1, by go_num, by omega, E2⟩
        case measure => simp [intOf]; omega
    · go_wp2
      go_ret
      exact ⟨_, rfl, hE⟩
set_option maxHeartbeats 1000000 in
theorem fits40 (x : RespD) (A : Option Addr) (cap : Nat) (w : World) (h : (Rp.slice Rp.evx).K w any x.events [.slice A x.events.length cap]) (hl : x.events.length ≤ 9223372036854775807) : Calls Try.prog 5 #[sentV x A cap] w (BoolAny w) := by
  have H := Lib.hid ((Rp.slice Rp.evx).ext' ((Ext.refl w).alloc (.cells (sentCells x A cap).toArray 24)) h)
  clear h
  go_enter Try.func5, Try.ntmps5
  go_wp2_with fail
  · go_ret
    exact ⟨_, rfl, (Ext.refl w).alloc _⟩
  refine (fits41 x.events _ _ H.out hl).mono ?_
  rintro e w1 ⟨c, rfl, E1⟩
  go_wp2
  all_goals (go_ret; exact ⟨_, rfl, ((Ext.refl w).alloc _).trans E1⟩)

/-- what frGood says of an event -/
def EvGood (y : EvD) : Prop := y.kv.key.size ≤ 300 ∧ y.kv.value.size ≤ 300 ∧ y.prev.key.size ≤ 300 ∧ y.prev.value.size ≤ 300 ∧ y.plain
theorem bytes_nil_of {s : ByteArray} (h : s.toList = []) : s = ⟨#[]⟩ := by
  rw [ByteArray.toList_eq] at h
  obtain ⟨⟨l⟩⟩ := s
  obtain rfl : l = [] := h
  rfl
theorem kv_zero {x : KVd} (h1 : x.key.toList = []) (h2 : x.value.toList = []) (h3 : x.create = 0) (h4 : x.mod = 0) (h5 : x.version = 0) (h6 : x.lease = 0) : x = ⟨⟨#[]⟩, ⟨#[]⟩, 0, 0, 0, 0⟩ := by
  obtain ⟨k, v, a, b, c, d⟩ := x
  simp only at *
  rw [bytes_nil_of h1, bytes_nil_of h2, h3, h4, h5, h6]
theorem good_snoc {l : List EvD} {k : Nat} {y : EvD} (h : ∀ z ∈ l.take k, EvGood z) (hy : l[k]? = some y) (g : EvGood y) : ∀ z ∈ l.take (k + 1), EvGood z := by
  rw [take_snoc hy]
  intro z hz
  rcases List.mem_append.1 hz with hz | hz
  · exact h z hz
  · rw [List.mem_singleton] at hz; exact hz ▸ g
set_option maxHeartbeats 2000000 in
set_option maxRecDepth 20000 in
theorem frGood_any (x : RespD) (A : Option Addr) (cap : Nat) (w : World) (h : (Rp.slice Rp.evx).K w any x.events [.slice A x.events.length cap]) :
    Calls Try.prog 6 #[sentV x A cap] w fun e w' => ∃ c : Bool, e = .returned (.bool c) ∧ (c = true → x.events.length ≤ 60 ∧ x.reason.size ≤ 200 ∧ ∀ y ∈ x.events, EvGood y) ∧ Ext w w' := by
  obtain ⟨A', cap', hv, p1, p2, p3, hrow⟩ := h
  simp only [List.cons.injEq, Value.slice.injEq, and_true] at hv
  obtain ⟨rfl, _, rfl⟩ := hv
  have HR := Lib.hid hrow
  clear hrow
  by_cases hn : 60 < x.events.length
  · have hd : decide ((60 : Int) < x.events.length) = true := by simp; omega
    go_enter Try.func6, Try.ntmps6
    go_wp2
    go_ret
    exact ⟨false, rfl, fun h => by simp at h, (Ext.refl w).alloc _⟩
  by_cases hr : 200 < x.reason.size
  · have hd : decide ((60 : Int) < x.events.length) = false := by simp; omega
    have hd2 : decide ((200 : Int) < x.reason.size) = true := by simp; omega
    go_enter Try.func6, Try.ntmps6
    go_wp2
    go_ret
    exact ⟨false, rfl, fun h => by simp at h, (Ext.refl w).alloc _⟩
  have hd : decide ((60 : Int) < x.events.length) = false := by simp; omega
  have hd2 : decide ((200 : Int) < x.reason.size) = false := by simp; omega
  have hd' : decide (60 < x.events.length) = false := by simp; omega
  have hd2' : decide (200 < x.reason.size) = false := by simp; omega
  go_enter Try.func6, Try.ntmps6
  go_wp2_with fail
  go_loopw [18] (fun i wr => ∃ k : Nat, i = .int .i64 k ∧ k ≤ x.events.length ∧ Hid (∀ y ∈ x.events.take k, EvGood y) ∧ Ext w wr) (fun i _ => x.events.length - (intOf i).toNat)
  case atStart => exact ⟨0, rfl, Nat.zero_le _, Lib.hid (fun y hy => by simp at hy), (Ext.refl w).alloc _⟩
  case round =>
    obtain ⟨k, rfl, hk, hg, hE⟩ := hrel
    by_cases hlt : k < x.events.length
    · obtain ⟨y, hy⟩ : ∃ y, x.events[k]? = some y := ⟨_, List.getElem?_eq_getElem hlt⟩
      obtain ⟨ba, o, rfl, _⟩ := HR.out.addr (List.ne_nil_of_length_pos (by omega))
      obtain ⟨g0, g1, g2, g3, g4, g5, g6, g7, g8, g9, g10, g11, g12, g13⟩ := evx_at HR.out hy hE
      have HY := Lib.hid hy
      clear hy
      by_cases h1 : 300 < y.kv.key.size
      · have hb1 : decide ((300 : Int) < y.kv.key.size) = true := by simp; omega
        go_wp2
        go_ret
        exact ⟨false, rfl, fun h => by simp at h, hE.alloc _⟩
      have hb1 : decide ((300 : Int) < y.kv.key.size) = false := by simp; omega
      by_cases h2 : 300 < y.kv.value.size
      · have hb2 : decide ((300 : Int) < y.kv.value.size) = true := by simp; omega
        go_wp2
        go_ret
        exact ⟨false, rfl, fun h => by simp at h, hE.alloc _⟩
      have hb2 : decide ((300 : Int) < y.kv.value.size) = false := by simp; omega
      by_cases h3 : 300 < y.prev.key.size
      · have hb3 : decide ((300 : Int) < y.prev.key.size) = true := by simp; omega
        go_wp2
        go_ret
        exact ⟨false, rfl, fun h => by simp at h, hE.alloc _⟩
      have hb3 : decide ((300 : Int) < y.prev.key.size) = false := by simp; omega
      by_cases h4 : 300 < y.prev.value.size
      · have hb4 : decide ((300 : Int) < y.prev.value.size) = true := by simp; omega
        go_wp2
        go_ret
        exact ⟨false, rfl, fun h => by simp at h, hE.alloc _⟩
      have hb4 : decide ((300 : Int) < y.prev.value.size) = false := by simp; omega
      by_cases hz : y.hasPrev = true
      · have hpl : y.plain := fun h => by rw [hz] at h; simp at h
        go_wp2
        all_goals first
          | (go_ret; exact ⟨false, rfl, fun h => by simp at h, hE.alloc _⟩)
          | (go_roundw; (case rel => exact ⟨k + 1, by go_num, by omega, Lib.hid (good_snoc hg.out HY.out ⟨by omega, by omega, by omega, by omega, hpl⟩), hE.alloc _⟩); (case measure => simp [intOf]; omega))
      · have hz2 : y.hasPrev = false := by simpa using hz
        go_wp2
        all_goals try (go_ret; exact ⟨false, rfl, fun h => by simp at h, hE.alloc _⟩)
        all_goals
          have p1 : y.prev.key.toList = [] := by assumption
          have p2 : y.prev.value.toList = [] := by assumption
          have p3 : y.prev.create = 0 := by assumption
          have p4 : y.prev.mod = 0 := by assumption
          have p5 : y.prev.version = 0 := by assumption
          have p6 : y.prev.lease = 0 := by assumption
          have hpl : y.plain := fun _ => kv_zero p1 p2 p3 p4 p5 p6
          (go_roundw; (case rel => exact ⟨k + 1, by go_num, by omega, Lib.hid (good_snoc hg.out HY.out ⟨by omega, by omega, by omega, by omega, hpl⟩), hE.alloc _⟩); (case measure => simp [intOf]; omega))
    · have hkn : Hid (k = x.events.length) := Lib.hid (by omega)
      go_wp2
      go_ret
      have := hg.out
      rw [hkn.out, List.take_length] at this
      exact ⟨true, rfl, fun _ => ⟨by omega, by omega, this⟩, hE⟩
end Go.Proofs.Ytmimpfenlhfkiaa
