/-
  lru.Cache: its lock, and what it hands on.
-/
import Derived.Test.YtphhkphibdiahaaLh
import Derived.Handy
import Derived.Defers
namespace Go.Proofs.Ytphhkphibdiahaa
open Go.RowKit
set_option linter.unusedSimpArgs false
set_option linter.unusedVariables false

theorem lock_any (v : Value) (w : World) : Calls Try.prog 34 #[v] w fun e w' => e = .returned (.tuple #[]) ∧ w = w' := by
  go_enter Try.func34, Try.ntmps34
  go_wp2
  go_end0
  exact ⟨rfl, rfl⟩
theorem rlock_any (v : Value) (w : World) : Calls Try.prog 40 #[v] w fun e w' => e = .returned (.tuple #[]) ∧ w = w' := by
  go_enter Try.func40, Try.ntmps40
  go_wp2
  go_end0
  exact ⟨rfl, rfl⟩
theorem unlockD (v : Value) (u : FrameMode) (w : World) : CallsD Try.prog 35 #[v] u w fun e u' w' => u' = u ∧ (e = .returned (.tuple #[]) ∧ w = w') := by
  go_enter_d Try.func35, Try.ntmps35
  go_wp2
  go_end0
  exact ⟨rfl, rfl⟩
theorem runlockD (v : Value) (u : FrameMode) (w : World) : CallsD Try.prog 41 #[v] u w fun e u' w' => u' = u ∧ (e = .returned (.tuple #[]) ∧ w = w') := by
  go_enter_d Try.func41, Try.ntmps41
  go_wp2
  go_end0
  exact ⟨rfl, rfl⟩
theorem cellsLk : Try.prog.cellsOf 78 = 1 := by kernel_rfl
theorem byteOf0 : byteOfCell Try.prog Try.prog.depth 78 0 = some 0 := by kernel_rfl
theorem bytesLk : Try.prog.bytesOf 78 = 16 := by kernel_rfl
/-- where a cache's lock lies (it has no cells) -/
theorem mux_at {w : World} {c : Nat} {cs : List Value} (K : Blk w c 78 cs) : (partAt ⟨c, 0, none⟩ 1 8).run Try.prog w = .ok ⟨c, 1, some 8⟩ w := by
  unfold Blk at K
  have hs : w.shape? c = some (78, cs.length) := by simp [World.shape?, K]
  have hv : ∀ u v : Nat, (noView ⟨c, u, none⟩).run Try.prog w = .ok () w := fun u v => by simp [noView, viewAt, shape, getObj, Sem.run, K, hs, Result.andThen]
  have h0 : (byteOf ⟨c, 0, none⟩).run Try.prog w = .ok 0 w := by
    simp [byteOf, hv 0 0, shape, Sem.run, hs, Result.andThen, cellsLk, byteOf0, bytesLk, Sem.run_bind]
  have h2 : (byteOf ⟨c, 1, none⟩).run Try.prog w = .ok 16 w := by
    simp [byteOf, hv 1 0, shape, Sem.run, hs, Result.andThen, cellsLk, byteOf0, bytesLk, Sem.run_bind]
  simp [partAt, h0, h2, Result.andThen, Sem.run_bind]
def LU (w : World) (ok : Nat → Prop) (c g gb : Nat) (size : Int) (its : List It) (ps : List (Int × Int)) : Prop :=
  ok c ∧ Blk w c 78 [pv g] ∧ LR w (fun b => ok b ∧ b ≠ c) g gb size its ps
def UAns (ok : Nat → Prop) (c g gb : Nat) (size : Int) (its : List It) (ps : List (Int × Int)) (w w' : World) : Prop := LU w' ok c g gb size its ps ∧ ExtX ok w w'
theorem LU.to {w w' : World} {ok : Nat → Prop} {c g gb : Nat} {size size' : Int} {its its' : List It} {ps ps' : List (Int × Int)} (h : LU w ok c g gb size its ps) (r : RAns (fun b => ok b ∧ b ≠ c) g gb size' its' ps' w w') : UAns ok c g gb size' its' ps' w w' :=
  ⟨⟨h.1, h.2.1.extX r.2 (fun hb => hb.2 rfl), r.1⟩, r.2.mono fun _ _ hb => hb.1⟩
theorem LU.fresh {w : World} {ok : Nat → Prop} {c g gb : Nat} {size : Int} {its : List It} {ps : List (Int × Int)} (h : LU w ok c g gb size its ps) (hok : ∀ k, w.heap.size ≤ k → ok k) : ∀ k, w.heap.size ≤ k → ok k ∧ k ≠ c :=
  fun k hk => ⟨hok k hk, fun e => by have := h.2.1.lt; omega⟩
set_option maxRecDepth 20000 in
set_option maxHeartbeats 1000000 in
theorem uOld_any (ok : Nat → Prop) (c g gb : Nat) (size : Int) (its : List It) (ps : List (Int × Int)) (w : World) (h : LU w ok c g gb size its ps) (hlen : its.length ≤ 1001) (hn : ps.length ≤ 100000) (hok : ∀ k, w.heap.size ≤ k → ok k) :
    Calls Try.prog 19 #[pv c] w fun r w' => r = .returned (.tuple #[]) ∧ UAns ok c g gb size its.dropLast (ps ++ (its.getLast?.map fun x => (x.k, x.v)).toList) w w' := by
  have HR := Lib.hid (remOld_any _ g gb size its ps w h.2.2 hlen hn (h.fresh hok))
  have c0 := h.2.1.cell (o := 0) rfl
  have hm := mux_at h.2.1
  have HH := Lib.hid h
  clear h
  go_enter_defers Try.func19, Try.ntmps19
  go_wp2_with fail
  refine (lock_any _ _).mono ?_
  rintro r w1 ⟨rfl, rfl⟩
  go_wp2_with fail
  refine HR.out.mono ?_
  rintro r w2 ⟨rfl, h2⟩
  have H2 := Lib.hid h2
  clear h2 c0 hm
  go_wp2_with fail
  refine leaves_cons (f := 35) (args := #[.pointer (some ⟨c, 1, some 8⟩)]) (by simp) (by simp [go_sem]) ?_
  refine (unlockD _ .returning _).mono ?_
  rintro e u' w'' ⟨rfl, rfl, rfl⟩
  exact ⟨_, results_none rfl _ _ _, rfl, HH.out.to H2.out⟩
set_option maxRecDepth 20000 in
set_option maxHeartbeats 1000000 in
theorem uRemHit_any (ok : Nat → Prop) (c g gb : Nat) (size : Int) (X Y : List It) (x : It) (ps : List (Int × Int)) (w : World) (h : LU w ok c g gb size (X ++ x :: Y) ps) (hlen : (X ++ x :: Y).length ≤ 1001) (hn : ps.length ≤ 100000) (hok : ∀ k, w.heap.size ≤ k → ok k) :
    Calls Try.prog 18 #[pv c, kI x.k] w fun r w' => r = .returned (.tuple #[]) ∧ UAns ok c g gb size (X ++ Y) (ps ++ [(x.k, x.v)]) w w' := by
  have HR := Lib.hid (remHit_any _ g gb size X Y x ps w h.2.2 hlen hn (h.fresh hok))
  have c0 := h.2.1.cell (o := 0) rfl
  have hm := mux_at h.2.1
  have HH := Lib.hid h
  clear h
  go_enter_defers Try.func18, Try.ntmps18
  go_wp2_with fail
  refine (lock_any _ _).mono ?_
  rintro r w1 ⟨rfl, rfl⟩
  go_wp2_with fail
  refine HR.out.mono ?_
  rintro r w2 ⟨rfl, h2⟩
  have H2 := Lib.hid h2
  clear h2 c0 hm
  go_wp2_with fail
  refine leaves_cons (f := 35) (args := #[.pointer (some ⟨c, 1, some 8⟩)]) (by simp) (by simp [go_sem]) ?_
  refine (unlockD _ .returning _).mono ?_
  rintro e u' w'' ⟨rfl, rfl, rfl⟩
  exact ⟨_, (results_none rfl _ _ _), rfl, HH.out.to H2.out⟩
set_option maxRecDepth 20000 in
set_option maxHeartbeats 1000000 in
theorem uRemMiss_any (ok : Nat → Prop) (c g gb : Nat) (size : Int) (its : List It) (k : Int) (ps : List (Int × Int)) (w : World) (h : LU w ok c g gb size its ps) (hk : k ∉ its.map (·.k)) :
    Calls Try.prog 18 #[pv c, kI k] w fun r w' => r = .returned (.tuple #[]) ∧ UAns ok c g gb size its ps w w' := by
  have HR := Lib.hid ((remMiss_any _ g gb size its ps k w h.2.2 hk).mono (R' := fun r w' => r = .returned (.tuple #[]) ∧ RAns (fun b => ok b ∧ b ≠ c) g gb size its ps w w') fun _ _ hx => ⟨hx.1, hx.2 ▸ ⟨h.2.2, ExtX.refl _ _⟩⟩)
  have c0 := h.2.1.cell (o := 0) rfl
  have hm := mux_at h.2.1
  have HH := Lib.hid h
  clear h
  go_enter_defers Try.func18, Try.ntmps18
  go_wp2_with fail
  refine (lock_any _ _).mono ?_
  rintro r w1 ⟨rfl, rfl⟩
  go_wp2_with fail
  refine HR.out.mono ?_
  rintro r w2 ⟨rfl, h2⟩
  have H2 := Lib.hid h2
  clear h2 c0 hm
  go_wp2_with fail
  refine leaves_cons (f := 35) (args := #[.pointer (some ⟨c, 1, some 8⟩)]) (by simp) (by simp [go_sem]) ?_
  refine (unlockD _ .returning _).mono ?_
  rintro e u' w'' ⟨rfl, rfl, rfl⟩
  exact ⟨_, (results_none rfl _ _ _), rfl, HH.out.to H2.out⟩
set_option maxRecDepth 20000 in
set_option maxHeartbeats 1000000 in
theorem uGetHit_any (ok : Nat → Prop) (c g gb : Nat) (size : Int) (X Y : List It) (x : It) (ps : List (Int × Int)) (w : World) (h : LU w ok c g gb size (X ++ x :: Y) ps) :
    Calls Try.prog 17 #[pv c, kI x.k] w fun r w' => r = .returned (.tuple #[kI x.v, .bool true]) ∧ UAns ok c g gb size (x :: (X ++ Y)) ps w w' := by
  have HR := Lib.hid (getHit_any _ g gb size X Y x ps w h.2.2)
  have c0 := h.2.1.cell (o := 0) rfl
  have hm := mux_at h.2.1
  have HH := Lib.hid h
  clear h
  go_enter_defers Try.func17, Try.ntmps17
  go_wp2_with fail
  refine (lock_any _ _).mono ?_
  rintro r w1 ⟨rfl, rfl⟩
  go_wp2_with fail
  refine HR.out.mono ?_
  rintro r w2 ⟨rfl, h2⟩
  have H2 := Lib.hid h2
  clear h2 c0 hm
  go_wp2_with fail
  refine leaves_cons (f := 35) (args := #[.pointer (some ⟨c, 1, some 8⟩)]) (by simp) (by simp [go_sem]) ?_
  refine (unlockD _ .returning _).mono ?_
  rintro e u' w'' ⟨rfl, rfl, rfl⟩
  exact ⟨_, (results_tmp2 rfl _ _ _), rfl, HH.out.to H2.out⟩
set_option maxRecDepth 20000 in
set_option maxHeartbeats 1000000 in
theorem uGetMiss_any (ok : Nat → Prop) (c g gb : Nat) (size : Int) (its : List It) (k : Int) (ps : List (Int × Int)) (w : World) (h : LU w ok c g gb size its ps) (hk : k ∉ its.map (·.k)) :
    Calls Try.prog 17 #[pv c, kI k] w fun r w' => r = .returned (.tuple #[.nilIface, .bool false]) ∧ UAns ok c g gb size its ps w w' := by
  have HR := Lib.hid ((getMiss_any _ g gb size its ps k w h.2.2 hk).mono (R' := fun r w' => r = .returned (.tuple #[.nilIface, .bool false]) ∧ RAns (fun b => ok b ∧ b ≠ c) g gb size its ps w w') fun _ _ hx => ⟨hx.1, hx.2 ▸ ⟨h.2.2, ExtX.refl _ _⟩⟩)
  have c0 := h.2.1.cell (o := 0) rfl
  have hm := mux_at h.2.1
  have HH := Lib.hid h
  clear h
  go_enter_defers Try.func17, Try.ntmps17
  go_wp2_with fail
  refine (lock_any _ _).mono ?_
  rintro r w1 ⟨rfl, rfl⟩
  go_wp2_with fail
  refine HR.out.mono ?_
  rintro r w2 ⟨rfl, h2⟩
  have H2 := Lib.hid h2
  clear h2 c0 hm
  go_wp2_with fail
  refine leaves_cons (f := 35) (args := #[.pointer (some ⟨c, 1, some 8⟩)]) (by simp) (by simp [go_sem]) ?_
  refine (unlockD _ .returning _).mono ?_
  rintro e u' w'' ⟨rfl, rfl, rfl⟩
  exact ⟨_, (results_tmp2 rfl _ _ _), rfl, HH.out.to H2.out⟩
set_option maxRecDepth 20000 in
set_option maxHeartbeats 1000000 in
theorem uLen_any (ok : Nat → Prop) (c g gb : Nat) (size : Int) (its : List It) (ps : List (Int × Int)) (w : World) (h : LU w ok c g gb size its ps) :
    Calls Try.prog 20 #[pv c] w fun r w' => r = .returned (.int .i64 its.length) ∧ UAns ok c g gb size its ps w w' := by
  have HR := Lib.hid ((lenC_any _ g gb size its ps w h.2.2).mono (R' := fun r w' => r = .returned (.int .i64 its.length) ∧ RAns (fun b => ok b ∧ b ≠ c) g gb size its ps w w') fun _ _ hx => ⟨hx.1, hx.2 ▸ ⟨h.2.2, ExtX.refl _ _⟩⟩)
  have c0 := h.2.1.cell (o := 0) rfl
  have hm := mux_at h.2.1
  have HH := Lib.hid h
  clear h
  go_enter_defers Try.func20, Try.ntmps20
  go_wp2_with fail
  refine (rlock_any _ _).mono ?_
  rintro r w1 ⟨rfl, rfl⟩
  go_wp2_with fail
  refine HR.out.mono ?_
  rintro r w2 ⟨rfl, h2⟩
  have H2 := Lib.hid h2
  clear h2 c0 hm
  go_wp2_with fail
  refine leaves_cons (f := 41) (args := #[.pointer (some ⟨c, 1, some 8⟩)]) (by simp) (by simp [go_sem]) ?_
  refine (runlockD _ .returning _).mono ?_
  rintro e u' w'' ⟨rfl, rfl, rfl⟩
  exact ⟨_, (results_tmp rfl _ _ _), rfl, HH.out.to H2.out⟩
set_option maxRecDepth 20000 in
set_option maxHeartbeats 1000000 in
theorem uAddHit_any (ok : Nat → Prop) (c g gb : Nat) (size : Int) (X Y : List It) (x : It) (u : Int) (ps : List (Int × Int)) (w : World) (h : LU w ok c g gb size (X ++ x :: Y) ps) :
    Calls Try.prog 16 #[pv c, kI x.k, kI u] w fun r w' => r = .returned (.tuple #[]) ∧ UAns ok c g gb size (⟨x.e, x.t, x.k, u⟩ :: (X ++ Y)) ps w w' := by
  have HR := Lib.hid (addHit_any _ g gb size X Y x ps u w h.2.2)
  have c0 := h.2.1.cell (o := 0) rfl
  have hm := mux_at h.2.1
  have HH := Lib.hid h
  clear h
  go_enter_defers Try.func16, Try.ntmps16
  go_wp2_with fail
  refine (lock_any _ _).mono ?_
  rintro r w1 ⟨rfl, rfl⟩
  go_wp2_with fail
  refine HR.out.mono ?_
  rintro r w2 ⟨rfl, h2⟩
  have H2 := Lib.hid h2
  clear h2 c0 hm
  go_wp2_with fail
  refine leaves_cons (f := 35) (args := #[.pointer (some ⟨c, 1, some 8⟩)]) (by simp) (by simp [go_sem]) ?_
  refine (unlockD _ .returning _).mono ?_
  rintro e u' w'' ⟨rfl, rfl, rfl⟩
  exact ⟨_, (results_none rfl _ _ _), rfl, HH.out.to H2.out⟩
def UAdd (ok : Nat → Prop) (c g gb : Nat) (size : Int) (its : List It) (ps : List (Int × Int)) (k u : Int) (w w' : World) : Prop :=
  ∃ e t, UAns ok c g gb size (evI size (⟨e, t, k, u⟩ :: its)).1 (ps ++ (evI size (⟨e, t, k, u⟩ :: its)).2) w w'
set_option maxRecDepth 20000 in
set_option maxHeartbeats 1000000 in
theorem uAddMiss_any (ok : Nat → Prop) (c g gb : Nat) (size : Int) (its : List It) (k u : Int) (ps : List (Int × Int)) (w : World) (h : LU w ok c g gb size its ps) (hk : k ∉ its.map (·.k)) (hlen : its.length ≤ 1000) (hn : ps.length ≤ 100000) (hs0 : 0 ≤ size) (hs1 : size ≤ 1000) (hok : ∀ k, w.heap.size ≤ k → ok k) :
    Calls Try.prog 16 #[pv c, kI k, kI u] w fun r w' => r = .returned (.tuple #[]) ∧ UAdd ok c g gb size its ps k u w w' := by
  have HR := Lib.hid (addMiss_any _ g gb size its ps k u w h.2.2 hk hlen hn hs0 hs1 (h.fresh hok))
  have c0 := h.2.1.cell (o := 0) rfl
  have hm := mux_at h.2.1
  have HH := Lib.hid h
  clear h
  go_enter_defers Try.func16, Try.ntmps16
  go_wp2_with fail
  refine (lock_any _ _).mono ?_
  rintro r w1 ⟨rfl, rfl⟩
  go_wp2_with fail
  refine HR.out.mono ?_
  rintro r w2 ⟨rfl, h2⟩
  have H2 := Lib.hid h2
  clear h2 c0 hm
  go_wp2_with fail
  refine leaves_cons (f := 35) (args := #[.pointer (some ⟨c, 1, some 8⟩)]) (by simp) (by simp [go_sem]) ?_
  refine (unlockD _ .returning _).mono ?_
  rintro e u' w'' ⟨rfl, rfl, rfl⟩
  exact ⟨_, (results_none rfl _ _ _), rfl, (by obtain ⟨e, t, h3⟩ := H2.out; exact ⟨e, t, HH.out.to h3⟩)⟩
def UClr (ok : Nat → Prop) (c g gb : Nat) (size : Int) (its : List It) (ps : List (Int × Int)) (w w' : World) : Prop :=
  ∃ dI : List It, dI.Perm its ∧ UAns ok c g gb size [] (ps ++ prs dI) w w'
set_option maxRecDepth 20000 in
set_option maxHeartbeats 1000000 in
theorem uClear_any (ok : Nat → Prop) (c g gb : Nat) (size : Int) (its : List It) (ps : List (Int × Int)) (w : World) (h : LU w ok c g gb size its ps) (hlen : its.length ≤ 1001) (hn : ps.length ≤ 1000) (hok : ∀ k, w.heap.size ≤ k → ok k) :
    Calls Try.prog 21 #[pv c] w fun r w' => r = .returned (.tuple #[]) ∧ UClr ok c g gb size its ps w w' := by
  have HR := Lib.hid (clear_any _ g gb size its ps w h.2.2 hlen hn (h.fresh hok))
  have c0 := h.2.1.cell (o := 0) rfl
  have hm := mux_at h.2.1
  have HH := Lib.hid h
  clear h
  go_enter_defers Try.func21, Try.ntmps21
  go_wp2_with fail
  refine (lock_any _ _).mono ?_
  rintro r w1 ⟨rfl, rfl⟩
  go_wp2_with fail
  refine HR.out.mono ?_
  rintro r w2 ⟨rfl, h2⟩
  have H2 := Lib.hid h2
  clear h2 c0 hm
  go_wp2_with fail
  refine leaves_cons (f := 35) (args := #[.pointer (some ⟨c, 1, some 8⟩)]) (by simp) (by simp [go_sem]) ?_
  refine (unlockD _ .returning _).mono ?_
  rintro e u' w'' ⟨rfl, rfl, rfl⟩
  exact ⟨_, (results_none rfl _ _ _), rfl, (by obtain ⟨dI, hp, h3⟩ := H2.out; exact ⟨dI, hp, HH.out.to h3⟩)⟩
end Go.Proofs.Ytphhkphibdiahaa
