/-
  Members as data (impl.Mem): how they read, and that the size guard over them returns, and what it tells.
-/
import Derived.Test.YtogojpckjamkjaaReg
namespace Go.Proofs.Ytogojpckjamkjaa
open Go.RowKit
set_option linter.unusedSimpArgs false
set_option linter.unusedVariables false

structure Mem where
  id : Int
  name : ByteArray
  peers : List ByteArray
  clients : List ByteArray
  learner : Bool
/-- five cells: ID, Name, Peers, Clients, Learner -/
def kMem : Rp Mem := ((Rp.int .u64).pair (Rp.str.pair ((Rp.slice Rp.str).pair ((Rp.slice Rp.str).pair Rp.bool)))).iso fun m => (m.id, m.name, m.peers, m.clients, m.learner)
theorem kMem_sz : kMem.sz = 5 := rfl
theorem kMem_open {w : World} {ok : Nat → Prop} {m : Mem} {cs : List Value} (h : kMem.K w ok m cs) : ∃ A2 c2 A3 c3, cs = [.int .u64 m.id, .string m.name, .slice A2 m.peers.length c2, .slice A3 m.clients.length c3, .bool m.learner] ∧
    (Lit.int .u64 m.id).wf = true ∧ m.name.size ≤ maxLen ∧ (Rp.slice Rp.str).K w ok m.peers [.slice A2 m.peers.length c2] ∧ (Rp.slice Rp.str).K w ok m.clients [.slice A3 m.clients.length c3] := by
  obtain ⟨c0, r0, rfl, ⟨rfl, h0⟩, c1, r1, rfl, ⟨rfl, h1⟩, c2, r2, rfl, h2, c3, r3, rfl, h3, h4⟩ := h
  obtain ⟨A2, k2, rfl, h2'⟩ := id h2
  obtain ⟨A3, k3, rfl, h3'⟩ := id h3
  have h4' : r3 = [.bool m.learner] := h4
  subst h4'
  exact ⟨A2, k2, A3, k3, rfl, h0, h1, h2, h3⟩
theorem kMem_mk {w : World} {ok : Nat → Prop} {m : Mem} {v2 v3 : Value} (h0 : (Lit.int .u64 m.id).wf = true) (h1 : m.name.size ≤ maxLen) (h2 : (Rp.slice Rp.str).K w ok m.peers [v2]) (h3 : (Rp.slice Rp.str).K w ok m.clients [v3]) :
    kMem.K w ok m [.int .u64 m.id, .string m.name, v2, v3, .bool m.learner] :=
  ⟨_, _, rfl, ⟨rfl, h0⟩, _, _, rfl, ⟨rfl, h1⟩, _, _, rfl, h2, _, _, rfl, h3, rfl⟩

/-- the texts of a list are no longer than the guard has it -/
def Small (n : Nat) : Prop := (n : Int) ≤ 2147483647
/-- a bool, and what it tells -/
def Tells (p : Prop) (w : World) (e : Ending) (w' : World) : Prop := ∃ b : Bool, e = .returned (.bool b) ∧ Ext w w' ∧ (b = true → p)

set_option maxHeartbeats 400000 in
theorem fits3_any (v : Value) (xs : List ByteArray) (w : World) (h : (Rp.slice Rp.str).K w any xs [v]) :
    Calls Try.prog 23 #[v] w (Tells (Small xs.length) w) := by
  obtain ⟨A, cap, hv, h1, h2, h3, hrow⟩ := h
  simp only [List.cons.injEq, and_true] at hv
  subst hv
  have hcap : xs.length ≤ 9223372036854775807 := by unfold maxLen at h2; omega
  by_cases hbig : (2147483647 : Int) < (xs.length : Int)
  · go_enter Try.func23, Try.ntmps23
    go_wp2
    go_ret
    exact ⟨false, rfl, Ext.refl _, fun h => by cases h⟩
  · go_enter Try.func23, Try.ntmps23
    go_wp2
    go_loopw [10] (fun i wr => ∃ k : Nat, k ≤ xs.length ∧ i = .int .i64 k ∧ Ext w wr) (fun i _ => xs.length - (intOf i).toNat)
    case atStart => exact ⟨0, Nat.zero_le _, rfl, Ext.refl _⟩
    case round =>
      obtain ⟨k, hk, rfl, he⟩ := hrel
      by_cases hlt : k < xs.length
      · obtain ⟨b, o, rfl, _⟩ := hrow.addr (by intro h; simp [h] at hlt)
        obtain ⟨cs, hl, ⟨rfl, hs⟩, hc⟩ := hrow.at rfl (List.getElem?_eq_getElem hlt)
        have c0 : wr.cell? ⟨b, o + k, none⟩ = some (.string xs[k]) := he.cellS (by have := hc 0 (by decide); simpa [Rp.str] using this)
        clear hc hl h3
        go_wp2
        · go_ret
          exact ⟨false, rfl, he, fun h => by cases h⟩
        · go_roundw
          case rel => exact ⟨k + 1, by omega, by go_num, he⟩
          case measure => simp [intOf]; omega
      · go_wp2
        go_ret
        exact ⟨true, rfl, he, fun _ => by unfold Small; omega⟩

abbrev memV (m : Mem) (v2 v3 : Value) : Value := .agg #[.int .u64 m.id, .string m.name, v2, v3, .bool m.learner]
/-- what a member's guard tells -/
def MemSmall (m : Mem) : Prop := Small m.peers.length ∧ Small m.clients.length

set_option maxHeartbeats 400000 in
theorem fits16_any (m : Mem) (v2 v3 : Value) (w : World) (h2 : (Rp.slice Rp.str).K w any m.peers [v2]) (h3 : (Rp.slice Rp.str).K w any m.clients [v3]) :
    Calls Try.prog 16 #[memV m v2 v3] w (Tells (MemSmall m) w) := by
  have f3 := @fits3_any
  obtain ⟨A2, k2, e2, h2'⟩ := id h2
  obtain ⟨A3, k3, e3, h3'⟩ := id h3
  simp only [List.cons.injEq, and_true] at e2 e3
  subst e2 e3
  by_cases hbig : (2147483647 : Int) < (m.name.size : Int)
  · go_enter Try.func16, Try.ntmps16
    go_wp2
    go_ret
    exact ⟨false, rfl, (Ext.refl _).alloc _, fun h => by cases h⟩
  · go_enter Try.func16, Try.ntmps16
    go_wp2_with fail
    clear f3
    refine (fits3_any _ m.peers _ ((Rp.slice Rp.str).ext' ((Ext.refl _).alloc _) h2)).mono ?_
    rintro e w1 ⟨p1, rfl, e1, t1⟩
    obtain ⟨r1, q1⟩ := e1.rules
    have z1 := e1.size
    simp only [World.size_alloc] at z1
    have T1 := Lib.hid t1
    clear t1
    cases p1 with
    | false =>
      go_wp2
      go_ret
      exact ⟨false, rfl, ((Ext.refl _).alloc _).trans e1, fun h => by cases h⟩
    | true =>
      go_wp2_with fail
      refine (fits3_any _ m.clients _ ((Rp.slice Rp.str).ext' (((Ext.refl _).alloc _).trans e1) h3)).mono ?_
      rintro e w2 ⟨p2, rfl, e2, t2⟩
      have T2 := Lib.hid t2
      clear t2
      cases p2 with
      | false =>
        go_wp2
        go_ret
        exact ⟨false, rfl, (((Ext.refl _).alloc _).trans e1).trans e2, fun h => by cases h⟩
      | true =>
        go_wp2
        go_ret
        exact ⟨true, rfl, (((Ext.refl _).alloc _).trans e1).trans e2, fun _ => ⟨T1.out (by simp), T2.out (by simp)⟩⟩

/-- what the guard of all members tells -/
def MemsSmall (l : List Mem) : Prop := Small l.length ∧ ∀ m ∈ l, MemSmall m
set_option maxHeartbeats 800000 in
theorem fits15_any (v : Value) (xs : List Mem) (w : World) (h : (Rp.slice kMem).K w any xs [v]) :
    Calls Try.prog 8 #[v] w (Tells (MemsSmall xs) w) := by
  obtain ⟨A, cap, hv, h1, h2, h3, hrow⟩ := h
  simp only [List.cons.injEq, and_true] at hv
  subst hv
  have hcap : xs.length ≤ 9223372036854775807 := by unfold maxLen at h2; omega
  by_cases hbig : (2147483647 : Int) < (xs.length : Int)
  · go_enter Try.func8, Try.ntmps8
    go_wp2
    go_ret
    exact ⟨false, rfl, Ext.refl _, fun h => by cases h⟩
  · go_enter Try.func8, Try.ntmps8
    go_wp2
    go_loopw [10] (fun i wr => ∃ k : Nat, k ≤ xs.length ∧ i = .int .i64 k ∧ Ext w wr ∧ Hid (∀ m ∈ xs.take k, MemSmall m)) (fun i _ => xs.length - (intOf i).toNat)
    case atStart => exact ⟨0, Nat.zero_le _, rfl, Ext.refl _, Lib.hid (by simp)⟩
    case round =>
      obtain ⟨k, hk, rfl, he, hdone⟩ := hrel
      by_cases hlt : k < xs.length
      · obtain ⟨b, o, rfl, _⟩ := hrow.addr (by intro h; simp [h] at hlt)
        obtain ⟨cs, hl, hK, hc⟩ := hrow.at rfl (List.getElem?_eq_getElem hlt)
        obtain ⟨A2, c2, A3, c3, rfl, w0, w1, hp, hq⟩ := kMem_open hK
        rw [kMem_sz] at hc
        have c0 : wr.cell? ⟨b, o + k * 5, none⟩ = _ := he.cellS (hc 0 (by decide))
        have c1 : wr.cell? ⟨b, o + k * 5 + 1, none⟩ = _ := he.cellS (by have := hc 1 (by decide); rwa [← Nat.add_assoc] at this)
        have c2' : wr.cell? ⟨b, o + k * 5 + 2, none⟩ = _ := he.cellS (by have := hc 2 (by decide); rwa [← Nat.add_assoc] at this)
        have c3' : wr.cell? ⟨b, o + k * 5 + 3, none⟩ = _ := he.cellS (by have := hc 3 (by decide); rwa [← Nat.add_assoc] at this)
        have c4 : wr.cell? ⟨b, o + k * 5 + 4, none⟩ = _ := he.cellS (by have := hc 4 (by decide); rwa [← Nat.add_assoc] at this)
        clear hc hl h3
        generalize hm : xs[k] = m at *
        have HM := Lib.hid hm
        clear hm
        go_wp2_with fail
        refine (fits16_any m _ _ _ ((Rp.slice Rp.str).ext' (w := w) ?_ hp) ((Rp.slice Rp.str).ext' (w := w) ?_ hq)).mono ?_
        · exact he.alloc _
        · exact he.alloc _
        rintro e w1 ⟨p1, rfl, e1, t1⟩
        have T1 := Lib.hid t1
        clear t1
        cases p1 with
        | false =>
          go_wp2
          go_ret
          exact ⟨false, rfl, (he.alloc _).trans e1, fun h => by cases h⟩
        | true =>
          go_wp2
          go_roundw
          case rel =>
            refine ⟨k + 1, by omega, by go_num, (he.alloc _).trans e1, Lib.hid ?_⟩
            rw [List.take_succ_eq_append_getElem hlt]
            intro x hx
            rcases List.mem_append.1 hx with hx | hx
            · exact hdone.out x hx
            · rw [List.mem_singleton.1 hx, HM.out]; exact T1.out (by simp)
          case measure => simp [intOf]; omega
      · go_wp2
        go_ret
        exact ⟨true, rfl, he, fun _ => ⟨by unfold Small; omega, by rw [List.take_of_length_le (by omega)] at hdone; exact hdone.out⟩⟩
end Go.Proofs.Ytogojpckjamkjaa
