/-
  The server as a monitor of versions sees it (impl.guard): its methods.
-/
import Derived.Test.YtdokcengcekfgaaGreatDoorNew
import Derived.Handy
namespace Go.Proofs.YtdokcengcekfgaaGreatDoor
open Go.RowKit
set_option linter.unusedSimpArgs false
set_option linter.unusedVariables false

theorem V3.extX {M : Nat → Prop} {w w' : World} {x y : Nat} {a b c : Int} (h : V3 w x y a b c) (e : ExtX M w w') (hx : ¬ M x) : V3 w' x y a b c :=
  ⟨e.cellS hx h.1, e.cellS hx h.2.1, e.cellS hx h.2.2⟩
theorem V3.lt {w : World} {x y : Nat} {a b c : Int} (h : V3 w x y a b c) : x < w.heap.size := cell_lt h.1
theorem V3.of {w : World} {b : Nat} {T : TypeId} {x y z : Int} (h : Blk w b T [.int .i64 x, .int .i64 y, .int .i64 z]) : V3 w b 0 x y z := ⟨h.cell rfl, h.cell rfl, h.cell rfl⟩

theorem extXb {w w1 : World} {b o : Nat} {v : Value} (h : ExtX (fun k => k = b) w w1) : ExtX (fun k => k = b) w (w1.setCell ⟨b, o, none⟩ v) := h.setCell (M := fun k => k = b) (p := ⟨b, o, none⟩) rfl v
theorem var_extX {w w' : World} {P : Program} {n : String} {cs : Array Value} {b : Nat} {T : TypeId} {bs : List Value} (e : ExtX (fun k => k = b) w w') (K : Blk w b T bs) (hne : bs.length ≠ cs.size) (h : w.var? P n = some cs) : w'.var? P n = some cs := by
  unfold World.var? at *
  cases hg : P.globalNamed n with
  | none => rw [hg] at h; cases h
  | some g =>
    rw [hg] at h
    simp only [Option.bind_some] at *
    by_cases hgb : g = b
    · subst hgb
      unfold Blk at K
      rw [K] at h
      obtain rfl := Option.some.inj h
      simp at hne
    · have : w'.heap[g]? = w.heap[g]? := by
        refine e.2.2.2.2 g ?_ hgb
        cases hq : w.heap[g]? with
        | none => rw [hq] at h; cases h
        | some o => exact (Array.getElem?_eq_some_iff.1 hq).1
      rw [this]; exact h
theorem VarsOk.extX {w w' : World} {b : Nat} {T : TypeId} {bs : List Value} (h : VarsOk w) (K : Blk w b T bs) (e : ExtX (fun k => k = b) w w') (hl : bs.length = 12) : VarsOk w' := by
  obtain ⟨⟨tp, p, h1⟩, h2⟩ := h
  exact ⟨⟨tp, p, var_extX e K (by rw [hl]; simp) h1⟩, var_extX e K (by rw [hl]; simp [Lib.pow10Tab]) h2⟩
/-- what is seen -/
structure GD where
  cluster : ByteArray
  storage : ByteArray
  target : ByteArray
  down : Bool
  hasDown : Bool
  members : List ByteArray
/-- what is voted -/
structure VoteD where
  err : Int
  cluster : ByteArray
  storage : ByteArray
  cancelled : Bool
  enabled : Bool
  target : ByteArray
def noS : ByteArray := ⟨#[]⟩
def vote0 : VoteD := ⟨0, ⟨#[]⟩, ⟨#[]⟩, false, false, ⟨#[]⟩⟩
abbrev gdCells (g : GD) (A : Option Addr) (n cap : Nat) : List Value := [.string g.cluster, .string g.storage, .string g.target, .bool g.down, .bool g.hasDown, .slice A n cap]
abbrev gdV (g : GD) (A : Option Addr) (n cap : Nat) : Value := .agg #[.string g.cluster, .string g.storage, .string g.target, .bool g.down, .bool g.hasDown, .slice A n cap]
abbrev voteCells (x : VoteD) : List Value := [.int .i64 x.err, .string x.cluster, .string x.storage, .bool x.cancelled, .bool x.enabled, .string x.target]
abbrev voteV (x : VoteD) : Value := .agg #[.int .i64 x.err, .string x.cluster, .string x.storage, .bool x.cancelled, .bool x.enabled, .string x.target]
abbrev guardCells (g : GD) (A : Option Addr) (n cap : Nat) (x : VoteD) : List Value :=
  [.string g.cluster, .string g.storage, .string g.target, .bool g.down, .bool g.hasDown, .slice A n cap, .int .i64 x.err, .string x.cluster, .string x.storage, .bool x.cancelled, .bool x.enabled, .string x.target]
abbrev Grd (w : World) (b : Nat) (g : GD) (A : Option Addr) (n cap : Nat) (x : VoteD) : Prop := Blk w b 49 (guardCells g A n cap x)
/-- a text that is a version, or has no digit -/
def VTx (s : ByteArray) : Prop := VT s (verOfD s)
/-- what the laws speak of -/
structure GD.ok (g : GD) : Prop where
  c : VTx g.cluster
  s : VTx g.storage
  m : ∀ s ∈ g.members, VTx s
  d : g.down = true → g.hasDown = true ∧ ∃ v, verOfD g.target = some v
  n : g.members.length ≤ 12
  t : g.target.size ≤ 20
theorem VTx.le {s : ByteArray} (h : VTx s) : s.size ≤ 20 := by
  unfold VTx at h
  cases hv : verOfD s with
  | none => rw [hv] at h; exact h.2
  | some v => rw [hv] at h; obtain ⟨h1, rfl⟩ := h; have := vt_size h1; omega

/-- a pointer to a version, or nil -/
def PtrV (w : World) (o : Option VD) (e : Ending) (w' : World) : Prop := match o with
  | some v => ∃ c, e = .returned (.pointer (some ⟨c, 0, none⟩)) ∧ w.heap.size ≤ c ∧ V3 w' c 0 v.maj v.mnr v.pat ∧ Ext w w'
  | none => e = .returned (.pointer none) ∧ Ext w w'
/-- what NewVersion answers to such a text -/
def NvAns (w : World) (o : Option VD) (e : Ending) (w' : World) : Prop := match o with
  | some v => NewAt w v e w'
  | none => NoVer w e w'
theorem newVersion_vt (s : ByteArray) (w : World) (h : VTx s) (hw : VarsOk w) : Calls Tryz.prog 48 #[.string s] w (NvAns w (verOfD s)) := by
  unfold VTx at h
  cases hv : verOfD s with
  | none => rw [hv] at h; exact newVersion_none s h.1 h.2 w hw
  | some v => rw [hv] at h; exact newVersion_some s v h.1 h.2 w
theorem parses_any (s : ByteArray) (w : World) (h : VTx s) (hw : VarsOk w) : Calls Tryz.prog 38 #[.string s] w fun e w' => e = .returned (.bool (verOfD s).isSome) ∧ Ext w w' := by
  have hc := newVersion_vt s w h hw
  cases hv : verOfD s with
  | none =>
    rw [hv] at hc
    have HC := Lib.hid hc
    clear hv hc
    go_enter Tryz.func38, Tryz.ntmps38
    go_wp2_with fail
    refine HC.out.mono ?_
    rintro e w1 ⟨te, ev, rfl, E1⟩
    go_wp2
    go_ret
    exact ⟨rfl, E1⟩
  | some v =>
    rw [hv] at hc
    have HC := Lib.hid hc
    clear hv hc
    go_enter Tryz.func38, Tryz.ntmps38
    go_wp2_with fail
    refine HC.out.mono ?_
    rintro e w1 ⟨b, rfl, _, _, E1⟩
    go_wp2
    go_ret
    exact ⟨rfl, E1⟩
theorem getCluster_any (b : Nat) (g : GD) (A : Option Addr) (n cap : Nat) (x : VoteD) (w : World) (h : Grd w b g A n cap x) (ht : VTx g.cluster) (hw : VarsOk w) :
    Calls Tryz.prog 104 #[.pointer (some ⟨b, 0, none⟩)] w (PtrV w (verOfD g.cluster)) := by
  have g0 := h.cell (o := 0) rfl
  have hc := newVersion_vt g.cluster w ht hw
  cases hv : verOfD g.cluster with
  | none =>
    rw [hv] at hc
    have HC := Lib.hid hc
    clear hv hc
    go_enter Tryz.func104, Tryz.ntmps104
    go_wp2_with fail
    refine HC.out.mono ?_
    rintro e w1 ⟨te, ev, rfl, E1⟩
    go_wp2
    go_ret
    exact ⟨rfl, E1⟩
  | some v =>
    rw [hv] at hc
    have HC := Lib.hid hc
    clear hv hc
    go_enter Tryz.func104, Tryz.ntmps104
    go_wp2_with fail
    refine HC.out.mono ?_
    rintro e w1 ⟨c, rfl, h1, h2, E1⟩
    go_wp2
    go_ret
    exact ⟨c, rfl, h1, h2, E1⟩
theorem getStorage_any (b : Nat) (g : GD) (A : Option Addr) (n cap : Nat) (x : VoteD) (w : World) (h : Grd w b g A n cap x) (ht : VTx g.storage) (hw : VarsOk w) :
    Calls Tryz.prog 107 #[.pointer (some ⟨b, 0, none⟩)] w (PtrV w (verOfD g.storage)) := by
  have g0 := h.cell (o := 1) rfl
  have hc := newVersion_vt g.storage w ht hw
  cases hv : verOfD g.storage with
  | none =>
    rw [hv] at hc
    have HC := Lib.hid hc
    clear hv hc
    go_enter Tryz.func107, Tryz.ntmps107
    go_wp2_with fail
    refine HC.out.mono ?_
    rintro e w1 ⟨te, ev, rfl, E1⟩
    go_wp2
    go_ret
    exact ⟨rfl, E1⟩
  | some v =>
    rw [hv] at hc
    have HC := Lib.hid hc
    clear hv hc
    go_enter Tryz.func107, Tryz.ntmps107
    go_wp2_with fail
    refine HC.out.mono ?_
    rintro e w1 ⟨c, rfl, h1, h2, E1⟩
    go_wp2
    go_ret
    exact ⟨c, rfl, h1, h2, E1⟩
/-- what is known of a downgrade -/
def InfoAt (w : World) (g : GD) (e : Ending) (w' : World) : Prop :=
  (g.hasDown = false ∧ e = .returned (.pointer none) ∧ Ext w w') ∨ (g.hasDown = true ∧ ∃ c, e = .returned (.pointer (some ⟨c, 0, none⟩)) ∧ w.heap.size ≤ c ∧ Blk w' c 86 [.string g.target, .bool g.down] ∧ Ext w w')
noncomputable def ops_105_3 : Array Oper := opsAt Tryz.f105 3
theorem getDown_any (b : Nat) (g : GD) (A : Option Addr) (n cap : Nat) (x : VoteD) (w : World) (h : Grd w b g A n cap x) :
    Calls Tryz.prog 105 #[.pointer (some ⟨b, 0, none⟩)] w (InfoAt w g) := by
  have g2 := h.cell (o := 2) rfl
  have g3 := h.cell (o := 3) rfl
  have g4 := h.cell (o := 4) rfl
  cases hd : g.hasDown with
  | false =>
    rw [hd] at g4
    replace hd := Lib.hid hd
    go_enter Tryz.func105, Tryz.ntmps105
    go_wp2
    go_ret
    exact .inl ⟨hd.out, rfl, Ext.refl _⟩
  | true =>
    rw [hd] at g4
    replace hd := Lib.hid hd
    go_enter Tryz.func105, Tryz.ntmps105
    go_wp2_with fail
    refine wp_region_sched (ops := ops_105_3) Ext [] (.quiet 0 (.quiet 1 (.quiet 2 (.quiet 3 (.quiet 4 (.quiet 5 (.quiet 6 (.quiet 7 (.quiet 8 (.quiet 9 (.quiet 10 (.loud 11 (.quiet 12 (.done)) (.stop))))))))))))) (by kernel_rfl) ext_refl ext_trans (by kernel_rfl) (fun _ _ d _ _ h => by cases d <;> exact h) ?_
    refine wpS_quiet (some 9) { dst := some 9, op := Op.move (Operand.tmp 0), type := _, pos := _, after := _, guard := none } _ rfl rfl (by rfl) (fun wE hE => by (go_simp; try with_reducible rfl)) ?_; simp only [Act.put, List.setIfInBounds_toArray, List.set_cons_zero, List.set_cons_succ]
    refine wpS_quiet (some 10) { dst := some 10, op := Op.nilCheck (Operand.tmp 9), type := _, pos := _, after := _, guard := none } _ rfl rfl (by rfl) (fun wE hE => by (go_simp; try with_reducible rfl)) ?_; simp only [Act.put, List.setIfInBounds_toArray, List.set_cons_zero, List.set_cons_succ]
    refine wpS_quiet (some 11) { dst := some 11, op := Op.fieldAddr 49 (Operand.tmp 10) 0, type := _, pos := _, after := _, guard := none } _ rfl rfl (by rfl) (fun wE hE => by (go_simp; try with_reducible rfl)) ?_; simp only [Act.put, List.setIfInBounds_toArray, List.set_cons_zero, List.set_cons_succ]
    refine wpS_quiet (some 12) { dst := some 12, op := Op.fieldAddr 24 (Operand.tmp 11) 2, type := _, pos := _, after := _, guard := none } _ rfl rfl (by rfl) (fun wE hE => by (go_simp; try with_reducible rfl)) ?_; simp only [Act.put, List.setIfInBounds_toArray, List.set_cons_zero, List.set_cons_succ]
    refine wpS_quiet (some 13) { dst := some 13, op := Op.load 9 (Operand.tmp 12), type := _, pos := _, after := _, guard := none } _ rfl rfl (by rfl) (fun wE hE => by (have zk0 := hE.cellS g2; have zk1 := hE.cellS g3; go_simp; try with_reducible rfl)) ?_; simp only [Act.put, List.setIfInBounds_toArray, List.set_cons_zero, List.set_cons_succ]
    refine wpS_quiet (some 14) { dst := some 14, op := Op.move (Operand.tmp 0), type := _, pos := _, after := _, guard := none } _ rfl rfl (by rfl) (fun wE hE => by (go_simp; try with_reducible rfl)) ?_; simp only [Act.put, List.setIfInBounds_toArray, List.set_cons_zero, List.set_cons_succ]
    refine wpS_quiet (some 15) { dst := some 15, op := Op.nilCheck (Operand.tmp 14), type := _, pos := _, after := _, guard := none } _ rfl rfl (by rfl) (fun wE hE => by (go_simp; try with_reducible rfl)) ?_; simp only [Act.put, List.setIfInBounds_toArray, List.set_cons_zero, List.set_cons_succ]
    refine wpS_quiet (some 16) { dst := some 16, op := Op.fieldAddr 49 (Operand.tmp 15) 0, type := _, pos := _, after := _, guard := none } _ rfl rfl (by rfl) (fun wE hE => by (go_simp; try with_reducible rfl)) ?_; simp only [Act.put, List.setIfInBounds_toArray, List.set_cons_zero, List.set_cons_succ]
    refine wpS_quiet (some 17) { dst := some 17, op := Op.fieldAddr 24 (Operand.tmp 16) 3, type := _, pos := _, after := _, guard := none } _ rfl rfl (by rfl) (fun wE hE => by (go_simp; try with_reducible rfl)) ?_; simp only [Act.put, List.setIfInBounds_toArray, List.set_cons_zero, List.set_cons_succ]
    refine wpS_quiet (some 18) { dst := some 18, op := Op.load 4 (Operand.tmp 17), type := _, pos := _, after := _, guard := none } _ rfl rfl (by rfl) (fun wE hE => by (have zk0 := hE.cellS g2; have zk1 := hE.cellS g3; go_simp; try with_reducible rfl)) ?_; simp only [Act.put, List.setIfInBounds_toArray, List.set_cons_zero, List.set_cons_succ]
    refine wpS_quiet (some 19) { dst := some 19, op := Op.build 86 #[(0, Operand.tmp 13), (1, Operand.tmp 18)], type := _, pos := _, after := _, guard := none } _ rfl rfl (by rfl) (fun wE hE => by (go_simp; try with_reducible rfl)) ?_; simp only [Act.put, List.setIfInBounds_toArray, List.set_cons_zero, List.set_cons_succ]
    refine wpS_alloc (some 20) { dst := some 20, op := Op.box 86 (Operand.tmp 19), type := _, pos := _, after := _, guard := none } _ _ rfl rfl (by rfl) (by go_simp; try rfl) (fun _ h => h) ?_ trivial
    intro c w1 hb e1 K1
    have hcs : w.heap.size ≤ c := Nat.le_of_eq hb.symm
    clear hb
    simp only [Act.put, List.setIfInBounds_toArray, List.set_cons_zero, List.set_cons_succ]
    refine wpS_quiet (some 2) { dst := some 2, op := Op.assign (Operand.tmp 20), type := _, pos := _, after := _, guard := none } _ rfl rfl (by rfl) (fun wE hE => by (go_simp; try with_reducible rfl)) ?_; simp only [Act.put, List.setIfInBounds_toArray, List.set_cons_zero, List.set_cons_succ]
    change Exit.then _ _ _ _ _
    go_wp2
    go_ret
    exact .inr ⟨hd.out, c, rfl, hcs, K1, e1.undrew⟩
theorem readNotify_any (v u : Value) (w : World) : Calls Tryz.prog 108 #[v, u] w fun e w' => e = .returned .nilIface ∧ w = w' := by
  go_enter Tryz.func108, Tryz.ntmps108
  go_wp2
  go_ret
  exact ⟨rfl, rfl⟩
theorem updCluster_any (s : ByteArray) (b : Nat) (g : GD) (A : Option Addr) (n cap : Nat) (x : VoteD) (w : World) (h : Grd w b g A n cap x) :
    Calls Tryz.prog 109 #[.pointer (some ⟨b, 0, none⟩), .string s] w fun e w' => e = .returned (.tuple #[]) ∧ Grd w' b g A n cap { x with cluster := s } ∧ ExtX (fun k => k = b) w w' := by
  have g7 := h.cell (o := 7) rfl
  have f7 := h.frozen 7
  have H := Lib.hid h
  clear h
  go_enter Tryz.func109, Tryz.ntmps109
  go_wp2
  go_end0
  exact ⟨rfl, H.out.setCell 7 _, extXb (ExtX.refl _ w)⟩
theorem updStorage_any (v : VD) (hv : v.ok) (b : Nat) (g : GD) (A : Option Addr) (n cap : Nat) (x : VoteD) (w : World) (h : Grd w b g A n cap x) (hw : VarsOk w) :
    Calls Tryz.prog 110 #[.pointer (some ⟨b, 0, none⟩), verV v] w fun e w' => e = .returned .nilIface ∧ Grd w' b g A n cap { x with storage := vt v } ∧ ExtX (fun k => k = b) w w' := by
  have H := Lib.hid h
  have hs := h.lt
  clear h
  go_enter Tryz.func110, Tryz.ntmps110
  go_wp2_with fail
  refine (string_any v hv _ (hw.ext ((Ext.refl w).alloc _))).mono ?_
  rintro e w1 ⟨rfl, E1⟩
  replace E1 := ((Ext.refl w).alloc _).trans E1
  have K := H.out.ext E1
  have g7 := K.cell (o := 8) rfl
  have f7 := K.frozen 8
  have HK := Lib.hid K
  clear K
  go_wp2
  go_ret
  exact ⟨rfl, HK.out.setCell 8 _, extXb (E1.toX _)⟩
theorem downEnable_any (c : Nat) (v : VD) (hv : v.ok) (b : Nat) (g : GD) (A : Option Addr) (n cap : Nat) (x : VoteD) (u : Value) (w : World) (h : Grd w b g A n cap x) (hc : V3 w c 0 v.maj v.mnr v.pat) (hcb : c ≠ b) (hw : VarsOk w) :
    Calls Tryz.prog 103 #[.pointer (some ⟨b, 0, none⟩), u, .pointer (some ⟨c, 0, none⟩)] w fun e w' => e = .returned .nilIface ∧ Grd w' b g A n cap { x with enabled := true, target := vt v } ∧ ExtX (fun k => k = b) w w' := by
  have g10 := h.cell (o := 10) rfl
  have f10 := h.frozen 10
  have hvn : b ≠ 0 ∨ True := .inr trivial
  have H := Lib.hid h
  have E0 : ExtX (fun k => k = b) w (w.setCell ⟨b, 10, none⟩ (.bool true)) := extXb (ExtX.refl _ w)
  obtain ⟨q0, q1, q2⟩ := hc.extX E0 (by omega)
  clear h
  go_enter Tryz.func103, Tryz.ntmps103
  go_wp2_with fail
  refine (string_any v hv _ (hw.extX H.out E0 rfl)).mono ?_
  rintro e w1 ⟨rfl, E1⟩
  have K : Blk w1 b 49 _ := (H.out.setCell 10 (.bool true)).ext E1
  have g11 := K.cell (o := 11) rfl
  have f11 := K.frozen 11
  have HK := Lib.hid K
  clear K
  go_wp2
  go_ret
  exact ⟨rfl, HK.out.setCell 11 _, extXb (E0.trans (E1.toX _))⟩
theorem downCancel_any (b : Nat) (g : GD) (A : Option Addr) (n cap : Nat) (x : VoteD) (u : Value) (w : World) (h : Grd w b g A n cap x) :
    Calls Tryz.prog 102 #[.pointer (some ⟨b, 0, none⟩), u] w fun e w' => e = .returned .nilIface ∧ Grd w' b g A n cap { x with cancelled := true } ∧ ExtX (fun k => k = b) w w' := by
  have g7 := h.cell (o := 9) rfl
  have f7 := h.frozen 9
  have H := Lib.hid h
  clear h
  go_enter Tryz.func102, Tryz.ntmps102
  go_wp2
  go_ret
  exact ⟨rfl, H.out.setCell 9 _, extXb (ExtX.refl _ w)⟩
end Go.Proofs.YtdokcengcekfgaaGreatDoor
