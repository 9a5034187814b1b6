/-
  Lists of IDs and of revisions compared (ckIDs, ckRevs); what a checker settles (handleConsistentHash); the hashes that are known (Hashes).
-/
import Derived.Test.YthnhgfpkmbgkdaaCs
import Derived.Deep.Cut
namespace Go.Proofs.Ythnhgfpkmbgkdaa
open Go.RowKit
set_option linter.unusedSimpArgs false
set_option linter.unusedVariables false

set_option maxRecDepth 20000 in
set_option maxHeartbeats 2000000 in
theorem ckIDs_same (l : List Int) (u v : Value) (w : World) (hu : (Rp.slice Rp.u64).K w any l [u]) (hv : (Rp.slice Rp.u64).K w any l [v]) :
    Calls Try.prog 16 #[u, v] w fun e w' => e = .returned (.bool true) ∧ Ext w w' := by
  obtain ⟨A, cap, he, p1, p2, p3, hrow⟩ := hu
  simp only [List.cons.injEq, and_true] at he
  subst he
  obtain ⟨A', cap', he, p1', p2', p3', hrow'⟩ := hv
  simp only [List.cons.injEq, and_true] at he
  subst he
  have hl : l.length ≤ 9223372036854775807 := by unfold maxLen at p2; omega
  have HR := Lib.hid hrow
  have HR' := Lib.hid hrow'
  clear hrow hrow' p3 p3'
  go_enter Try.func16, Try.ntmps16
  go_wp2_with fail
  go_loopw [13] (fun i wr => ∃ k : Nat, i = .int .i64 k ∧ k ≤ l.length ∧ Ext w wr) (fun i _ => l.length - (intOf i).toNat)
  case atStart => exact ⟨0, rfl, Nat.zero_le _, Ext.refl _⟩
  case round =>
    obtain ⟨k, rfl, hk, hE⟩ := hrel
    by_cases hlt : k < l.length
    · obtain ⟨p, hp⟩ : ∃ p, l[k]? = some p := ⟨_, List.getElem?_eq_getElem hlt⟩
      obtain ⟨ba, o, rfl, _⟩ := HR.out.addr (List.ne_nil_of_length_pos (by omega))
      obtain ⟨bb, o', rfl, _⟩ := HR'.out.addr (List.ne_nil_of_length_pos (by omega))
      obtain ⟨_, hc⟩ := flat_at HR.out rfl hp hE
      obtain ⟨_, hc'⟩ := flat_at HR'.out rfl hp hE
      have c0 := hc 0 _ rfl
      have d0 := hc' 0 _ rfl
      simp only [Nat.add_zero, ← Nat.add_assoc, Nat.mul_one] at c0 d0
      clear hp hc hc'
      go_wp2_with fail
      go_quiet (fail)
      go_wp2_with fail
      go_roundw
      case rel => exact ⟨k + 1, by go_num, by omega, hE.drewN _⟩
      case measure => simp [intOf]; omega
    · have hkn : Hid (k = l.length) := Lib.hid (by omega)
      go_wp2_with fail
      go_ret
      exact ⟨rfl, hE⟩
set_option maxRecDepth 20000 in
set_option maxHeartbeats 2000000 in
theorem ckRevs_same (l : List Int) (u v : Value) (w : World) (hu : (Rp.slice Rp.i64).K w any l [u]) (hv : (Rp.slice Rp.i64).K w any l [v]) :
    Calls Try.prog 10 #[u, v] w fun e w' => e = .returned (.bool true) ∧ Ext w w' := by
  obtain ⟨A, cap, he, p1, p2, p3, hrow⟩ := hu
  simp only [List.cons.injEq, and_true] at he
  subst he
  obtain ⟨A', cap', he, p1', p2', p3', hrow'⟩ := hv
  simp only [List.cons.injEq, and_true] at he
  subst he
  have hl : l.length ≤ 9223372036854775807 := by unfold maxLen at p2; omega
  have HR := Lib.hid hrow
  have HR' := Lib.hid hrow'
  clear hrow hrow' p3 p3'
  go_enter Try.func10, Try.ntmps10
  go_wp2_with fail
  go_loopw [13] (fun i wr => ∃ k : Nat, i = .int .i64 k ∧ k ≤ l.length ∧ Ext w wr) (fun i _ => l.length - (intOf i).toNat)
  case atStart => exact ⟨0, rfl, Nat.zero_le _, Ext.refl _⟩
  case round =>
    obtain ⟨k, rfl, hk, hE⟩ := hrel
    by_cases hlt : k < l.length
    · obtain ⟨p, hp⟩ : ∃ p, l[k]? = some p := ⟨_, List.getElem?_eq_getElem hlt⟩
      obtain ⟨ba, o, rfl, _⟩ := HR.out.addr (List.ne_nil_of_length_pos (by omega))
      obtain ⟨bb, o', rfl, _⟩ := HR'.out.addr (List.ne_nil_of_length_pos (by omega))
      obtain ⟨_, hc⟩ := flat_at HR.out rfl hp hE
      obtain ⟨_, hc'⟩ := flat_at HR'.out rfl hp hE
      have c0 := hc 0 _ rfl
      have d0 := hc' 0 _ rfl
      simp only [Nat.add_zero, ← Nat.add_assoc, Nat.mul_one] at c0 d0
      clear hp hc hc'
      go_wp2_with fail
      go_quiet (fail)
      go_wp2_with fail
      go_roundw
      case rel => exact ⟨k + 1, by go_num, by omega, hE.drewN _⟩
      case measure => simp [intOf]; omega
    · have hkn : Hid (k = l.length) := Lib.hid (by omega)
      go_wp2_with fail
      go_ret
      exact ⟨rfl, hE⟩

theorem byteOf0 : byteOfCell Try.prog Try.prog.depth 81 0 = some 0 := by kernel_rfl
theorem byteOf2 : byteOfCell Try.prog Try.prog.depth 81 2 = some 24 := by kernel_rfl
theorem bytesCk : Try.prog.bytesOf 81 = 32 := by kernel_rfl
/-- where a checker's lock lies (it has no cells) -/
theorem mux_at {w : World} {c : Nat} {cs : List Value} (K : Blk w c 81 cs) : (partAt ⟨c, 0, none⟩ 2 24).run Try.prog w = .ok ⟨c, 2, none⟩ w := by
  unfold Blk at K
  have hs : w.shape? c = some (81, cs.length) := by simp [World.shape?, K]
  have hv : ∀ u v : Nat, (noView ⟨c, u, none⟩).run Try.prog w = .ok () w := fun u v => by simp [noView, viewAt, shape, getObj, Sem.run, K, hs, Result.andThen]
  have h0 : (byteOf ⟨c, 0, none⟩).run Try.prog w = .ok 0 w := by
    simp [byteOf, hv 0 0, shape, Sem.run, hs, Result.andThen, cellsCk, byteOf0, bytesCk, Sem.run_bind]
  have h2 : (byteOf ⟨c, 2, none⟩).run Try.prog w = .ok 24 w := by
    simp [byteOf, hv 2 0, shape, Sem.run, hs, Result.andThen, cellsCk, byteOf2, bytesCk, Sem.run_bind]
  simp [partAt, h0, h2, Result.andThen, Sem.run_bind]
theorem lock_any (v : Value) (w : World) : Calls Try.prog 68 #[v] w fun e w' => e = .returned (.tuple #[]) ∧ w = w' := by
  go_enter Try.func68, Try.ntmps68
  go_wp2
  go_end0
  exact ⟨rfl, rfl⟩
theorem unlock_any (v : Value) (w : World) : Calls Try.prog 69 #[v] w fun e w' => e = .returned (.tuple #[]) ∧ w = w' := by
  go_enter Try.func69, Try.ntmps69
  go_wp2
  go_end0
  exact ⟨rfl, rfl⟩
theorem rlock_any (v : Value) (w : World) : Calls Try.prog 54 #[v] w fun e w' => e = .returned (.tuple #[]) ∧ w = w' := by
  go_enter Try.func54, Try.ntmps54
  go_wp2
  go_end0
  exact ⟨rfl, rfl⟩
theorem runlock_any (v : Value) (w : World) : Calls Try.prog 55 #[v] w fun e w' => e = .returned (.tuple #[]) ∧ w = w' := by
  go_enter Try.func55, Try.ntmps55
  go_wp2
  go_end0
  exact ⟨rfl, rfl⟩
/-- what is settled, and what is known to be right -/
def latestD (latest rev : Int) (settled : Bool) : Int := if settled && decide (latest < rev) then rev else latest
def HandAns (w : World) (c b : Nat) (latest rev : Int) (x n : Int) (e : Ending) (w' : World) : Prop := e = .returned (.bool (x == n)) ∧ CkAt w' c b (latestD latest rev (x == n)) ∧ ExtX (fun k => k = c) w w'
set_option maxRecDepth 20000 in
set_option maxHeartbeats 2000000 in
theorem handle_any (c b : Nat) (latest : Int) (h : HsD) (x n : Int) (w : World) (hK : CkAt w c b latest) :
    Calls Try.prog 59 #[.pointer (some ⟨c, 0, none⟩), hsV h, .int .i64 x, .int .i64 n] w (HandAns w c b latest h.rev x n) := by
  have hcl : c < w.heap.size := Blk.lt hK
  have K : Blk w c 81 [.pointer none, .iface 69 (.pointer (some ⟨b, 0, none⟩)), .int .i64 latest] := hK
  have k2 := K.cell (o := 2) rfl
  have f2 := K.frozen 2
  have HK := Lib.hid K
  clear K hK
  obtain ⟨W, hW⟩ : ∃ W, W = w.alloc (.cells (hsCells h).toArray 55) := ⟨_, rfl⟩
  have E0 : Ext w W := by rw [hW]; exact (Ext.refl w).alloc _
  have K1 := HK.out.ext E0
  have KH : Blk W w.heap.size 55 (hsCells h) := by rw [hW]; exact Blk.new w _ _
  have hm1 := mux_at K1
  have hm2 : ∀ n, (partAt ⟨c, 0, none⟩ 2 24).run Try.prog ((W.drewN n).setCell ⟨c, 2, none⟩ (.int .i64 h.rev)) = .ok ⟨c, 2, none⟩ ((W.drewN n).setCell ⟨c, 2, none⟩ (.int .i64 h.rev)) := fun n => mux_at ((K1.drewN n).setCell 2 (.int .i64 h.rev))
  have hm3 : ∀ n, (partAt ⟨c, 0, none⟩ 2 24).run Try.prog (W.drewN n) = .ok ⟨c, 2, none⟩ (W.drewN n) := fun n => mux_at (K1.drewN n)
  have k2 := K1.cell (o := 2) rfl
  have f2 := K1.frozen 2
  have d2 := KH.cell (o := 2) rfl
  have hne : w.heap.size ≠ c := by omega
  have HK1 := Lib.hid K1
  clear K1 KH
  have HW := Lib.hid hW
  clear hW
  by_cases q1 : x = n
  · have t1 : (x == n) = true := by simp [q1]
    by_cases q2 : latest < h.rev
    · have hr : HandAns w c b latest h.rev x n = fun e w' => e = .returned (.bool true) ∧ CkAt w' c b h.rev ∧ ExtX (fun k => k = c) w w' := by unfold HandAns latestD; rw [t1]; simp [q2]
      rw [hr]
      clear hr
      replace q1 := Lib.hid q1
      go_enter Try.func59, Try.ntmps59
      go_upto_if 11 with fail
      change Code.wp _ _ _ _ (w.alloc (.cells (hsCells h).toArray 55))
      rw [← HW.out]
      go_wp2_with fail
      refine (lock_any _ _).mono ?_
      rintro e w1 ⟨rfl, rfl⟩
      go_wp2_with fail
      go_quiet (fail)
      go_wp2_with fail
      refine (unlock_any _ _).mono ?_
      rintro e w1 ⟨rfl, rfl⟩
      go_wp2_with fail
      go_ret
      have XS : ExtX (fun k => k = c) W (W.setCell ⟨c, 2, none⟩ (.int .i64 h.rev)) := ExtX.setCell (M := fun j => j = c) (ExtX.refl _ _) (p := ⟨c, 2, none⟩) rfl _
      exact ⟨rfl, Blk.drewN (HK1.out.setCell 2 (.int .i64 h.rev)) _, ((E0.toX _).trans XS).drewN _⟩
    · have hr : HandAns w c b latest h.rev x n = fun e w' => e = .returned (.bool true) ∧ CkAt w' c b latest ∧ ExtX (fun k => k = c) w w' := by unfold HandAns latestD; rw [t1]; simp [q2]
      have t2 : decide (latest < h.rev) = false := decide_eq_false q2
      rw [hr]
      clear hr
      replace q1 := Lib.hid q1
      replace q2 := Lib.hid q2
      go_enter Try.func59, Try.ntmps59
      go_upto_if 11 with fail
      change Code.wp _ _ _ _ (w.alloc (.cells (hsCells h).toArray 55))
      rw [← HW.out]
      go_wp2_with fail
      refine (lock_any _ _).mono ?_
      rintro e w1 ⟨rfl, rfl⟩
      go_wp2_with fail
      go_quiet (fail)
      go_wp2_with fail
      refine (unlock_any _ _).mono ?_
      rintro e w1 ⟨rfl, rfl⟩
      go_wp2_with fail
      go_ret
      exact ⟨rfl, Blk.drewN HK1.out _, (E0.toX _).drewN _⟩
  · have t1 : (x == n) = false := by simp [q1]
    have hr : HandAns w c b latest h.rev x n = fun e w' => e = .returned (.bool false) ∧ CkAt w' c b latest ∧ ExtX (fun k => k = c) w w' := by unfold HandAns latestD; rw [t1]; simp
    rw [hr]
    clear hr
    replace q1 := Lib.hid q1
    go_enter Try.func59, Try.ntmps59
    go_upto_if 11 with fail
    change Code.wp _ _ _ _ (w.alloc (.cells (hsCells h).toArray 55))
    rw [← HW.out]
    go_wp2_with fail
    go_ret
    exact ⟨rfl, HK1.out, E0.toX _⟩
end Go.Proofs.Ythnhgfpkmbgkdaa
