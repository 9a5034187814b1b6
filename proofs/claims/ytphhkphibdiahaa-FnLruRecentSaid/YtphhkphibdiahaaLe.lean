/-
  A cache (golanglru.Cache) in memory as a row of items ('LC'): an item is taken out, the oldest one, one is asked for.
-/
import Derived.Test.YtphhkphibdiahaaLd
import Derived.Handy
import Derived.Laws.EntriesVeiled
namespace Go.Proofs.Ytphhkphibdiahaa
open Go.RowKit
set_option linter.unusedSimpArgs false
set_option linter.unusedVariables false

abbrev fnV (gb : Nat) : Value := .func (.func 15) #[] #[pv gb]
abbrev gCells (size : Int) (gb l m : Nat) : List Value := [.int .i64 size, fnV gb, pv l, .map (some m)]
structure LC (w : World) (ok : Nat → Prop) (g l m gb : Nat) (size : Int) (its : List It) (mp : List (Int × Value)) : Prop where
  G : Blk w g 73 (gCells size gb l m)
  L : LSt w l its
  E : ∀ x ∈ its, Blk w x.t 103 (enCells x.k x.v)
  M : MapL kI w m mp
  mo : ∀ k u, (k, u) ∈ mp ↔ ∃ x ∈ its, x.k = k ∧ u = pv x.e
  nk : (its.map (·.k)).Nodup
  nt : (its.map (·.t)).Nodup
  og : ok g
  ol : ok l
  om : ok m
  oi : ∀ x ∈ its, ok x.e ∧ ok x.t
/-- the blocks of a cache -/
def Mine (g l m : Nat) (its : List It) (b : Nat) : Prop := b = g ∨ b = m ∨ InR l its b ∨ ∃ x ∈ its, x.t = b
namespace LC
variable {w w' : World} {ok : Nat → Prop} {g l m gb : Nat} {size : Int} {its : List It} {mp : List (Int × Value)} {v : Value} {ps : List (Int × Int)}
theorem inR_blk (h : LC w ok g l m gb size its mp) {b : Nat} (hb : InR l its b) : ∃ T cs, Blk w b T cs ∧ (T = 127 ∨ T = 106) := by
  rcases hb with rfl | ⟨x, hx, rfl⟩
  · obtain ⟨n, p, k⟩ := h.L.lst; exact ⟨_, _, k, .inl rfl⟩
  · obtain ⟨n, p, k⟩ := h.L.elem hx; exact ⟨_, _, k, .inr rfl⟩
theorem notR (h : LC w ok g l m gb size its mp) {b : Nat} {T : TypeId} {cs : List Value} (hb : Blk w b T cs) (h1 : T ≠ 127) (h2 : T ≠ 106) : ¬ InR l its b := fun hr => by
  obtain ⟨T', cs', k, hT⟩ := h.inR_blk hr
  have := hb.inj k
  rcases hT with rfl | rfl
  · exact h1 this
  · exact h2 this
theorem notRm (h : LC w ok g l m gb size its mp) : ¬ InR l its m := fun hr => by
  obtain ⟨T', cs', k, hT⟩ := h.inR_blk hr
  exact h.M.noBlk k
theorem okR (h : LC w ok g l m gb size its mp) {b : Nat} (hb : InR l its b) : ok b := by
  rcases hb with rfl | ⟨x, hx, rfl⟩
  · exact h.ol
  · exact (h.oi x hx).1
/-- what changes nothing of its own -/
theorem keep {N : Nat → Prop} (h : LC w ok g l m gb size its mp) (x : ExtX N w w') (hN : ∀ b, Mine g l m its b → ¬ N b) : LC w' ok g l m gb size its mp :=
  { h with
    G := h.G.extX x (hN g (.inl rfl))
    L := h.L.extX x (hN l (.inr (.inr (.inl (.inl rfl))))) (fun y hy => hN _ (.inr (.inr (.inl (.inr ⟨y, hy, rfl⟩)))))
    E := fun y hy => (h.E y hy).extX x (hN _ (.inr (.inr (.inr ⟨y, hy, rfl⟩))))
    M := h.M.extX x (hN m (.inr (.inl rfl))) }
theorem notGone (h : LC w ok g l m gb size its mp) (hg : GN w ok gb v ps) : ∀ b, Mine g l m its b → ¬ (b = gb ∨ some b = v.ownBlock) := by
  have key : ∀ b, Mine g l m its b → b ≠ gb ∧ some b ≠ v.ownBlock := by
    rintro b (rfl | rfl | hr | ⟨x, hx, rfl⟩)
    · exact hg.apart h.G (by decide) (by decide)
    · exact hg.apartM h.M
    · obtain ⟨T, cs, k, hT⟩ := h.inR_blk hr
      rcases hT with rfl | rfl
      · exact hg.apart k (by decide) (by decide)
      · exact hg.apart k (by decide) (by decide)
    · exact hg.apart (h.E x hx) (by decide) (by decide)
  exact fun b hb hn => hn.elim (key b hb).1 (key b hb).2
theorem keyIn (h : LC w ok g l m gb size its mp) (k : Int) : k ∈ mp.map (·.1) ↔ k ∈ its.map (·.k) := by
  constructor
  · intro hk
    obtain ⟨p, hp, rfl⟩ := List.mem_map.1 hk
    obtain ⟨x, hx, hxk, _⟩ := (h.mo p.1 p.2).1 hp
    exact List.mem_map.2 ⟨x, hx, hxk⟩
  · intro hk
    obtain ⟨x, hx, rfl⟩ := List.mem_map.1 hk
    exact List.mem_map.2 ⟨(x.k, pv x.e), (h.mo _ _).2 ⟨x, hx, rfl, rfl⟩, rfl⟩
theorem hit (h : LC w ok g l m gb size its mp) {x : It} (hx : x ∈ its) : aget mp x.k = some (pv x.e) := by
  have hm : (x.k, pv x.e) ∈ mp := (h.mo _ _).2 ⟨x, hx, rfl, rfl⟩
  obtain ⟨j, hj⟩ := List.mem_iff_getElem?.1 hm
  exact MapL.aget_at h.M.nodup hj
theorem miss (h : LC w ok g l m gb size its mp) {k : Int} (hk : k ∉ its.map (·.k)) : aget mp k = none := MapL.aget_none (fun hm => hk ((h.keyIn k).1 hm))
/-- one item is taken out of the map -/
theorem moOut {X Y : List It} {x : It} (h : LC w ok g l m gb size (X ++ x :: Y) mp) : ∀ k u, (k, u) ∈ adel mp x.k ↔ ∃ y ∈ X ++ Y, y.k = k ∧ u = pv y.e := by
  have hnk := h.nk
  have hne : ∀ y ∈ X ++ Y, y.k ≠ x.k := by
    rw [List.map_append, List.map_cons] at hnk
    have h1 := List.nodup_append.1 hnk
    have h2 := List.nodup_cons.1 h1.2.1
    intro y hy he
    rcases List.mem_append.1 hy with h | h
    · exact h1.2.2 y.k (List.mem_map.2 ⟨y, h, rfl⟩) x.k (by simp) he
    · exact h2.1 (he ▸ List.mem_map.2 ⟨y, h, rfl⟩)
  intro k u
  unfold adel
  rw [List.mem_filter, h.mo]
  simp only [ne_eq, decide_not, Bool.not_eq_eq_eq_not, Bool.not_true, decide_eq_false_iff_not]
  constructor
  · rintro ⟨⟨y, hy, rfl, rfl⟩, hk⟩
    refine ⟨y, ?_, rfl, rfl⟩
    simp only [List.mem_append, List.mem_cons] at hy ⊢
    rcases hy with h | rfl | h
    · exact .inl h
    · exact absurd rfl hk
    · exact .inr h
  · rintro ⟨y, hy, rfl, rfl⟩
    refine ⟨⟨y, ?_, rfl, rfl⟩, hne y hy⟩
    simp only [List.mem_append, List.mem_cons] at hy ⊢
    rcases hy with h | h
    · exact .inl h
    · exact .inr (.inr h)
end LC
theorem mid_sub {α : Type} {X Y : List α} {x y : α} (h : y ∈ X ++ Y) : y ∈ X ++ x :: Y := by
  simp only [List.mem_append, List.mem_cons] at h ⊢
  rcases h with h | h
  · exact .inl h
  · exact .inr (.inr h)
theorem nodup_mid {α β : Type} {f : α → β} {X Y : List α} {x : α} (h : ((X ++ x :: Y).map f).Nodup) : ((X ++ Y).map f).Nodup :=
  h.sublist (List.Sublist.map f (List.Sublist.append (List.Sublist.refl _) (List.sublist_cons_self _ _)))

/-- what has become of a cache -/
def LAns (ok : Nat → Prop) (g l m gb : Nat) (size : Int) (its : List It) (ps : List (Int × Int)) (w w' : World) : Prop :=
  ∃ mp v, LC w' ok g l m gb size its mp ∧ GN w' ok gb v ps ∧ ExtX ok w w'
theorem taE (b : Nat) (w : World) : (Instr.typeAssert (.iface 104 (pv b)) 20 104 false).run Try.prog w = .ok (pv b) w := by kernel_rfl
theorem zeroP (w : World) : (zeroValue 99).run Try.prog w = .ok (.pointer none) w := by kernel_rfl
theorem neF (gb : Nat) (w : World) : (binOp .neq 49 (fnV gb) .nilFunc).run Try.prog w = .ok (.bool true) w := by kernel_rfl
noncomputable def ops_64_2 : Array Oper := opsAt Try.f64 2
noncomputable def ops_64_4 : Array Oper := opsAt Try.f64 4
set_option maxRecDepth 20000 in
set_option maxHeartbeats 1000000 in
theorem remEl_any (ok : Nat → Prop) (g l m gb : Nat) (size : Int) (X Y : List It) (x : It) (mp : List (Int × Value)) (v : Value) (ps : List (Int × Int)) (w : World) (h : LC w ok g l m gb size (X ++ x :: Y) mp) (hg : GN w ok gb v ps)
    (hlen : (X ++ x :: Y).length ≤ 1001) (hn : ps.length ≤ 100000) (hok : ∀ k, w.heap.size ≤ k → ok k) :
    Calls Try.prog 64 #[pv g, pv x.e] w fun r w' => r = .returned (.tuple #[]) ∧ LAns ok g l m gb size (X ++ Y) (ps ++ [(x.k, x.v)]) w w' := by
  have H := Lib.hid h
  have HG := Lib.hid hg
  have hx : x ∈ X ++ x :: Y := by simp
  have c2 := h.G.cell (o := 2) rfl
  have HR := Lib.hid (remL_any l X Y x w h.L hlen)
  have hgr := h.notR h.G (by decide) (by decide)
  have htr := h.notR (h.E x hx) (by decide) (by decide)
  have HNR : Hid (∀ b, InR l (X ++ x :: Y) b → ¬ (b = gb ∨ some b = v.ownBlock)) := Lib.hid fun b hb => h.notGone hg b (.inr (.inr (.inl hb)))
  clear h hg
  go_enter Try.func64, Try.ntmps64
  go_wp2_with fail
  refine HR.out.mono ?_
  rintro r w1 ⟨rfl, l1, ⟨u1, u2, u3, k1⟩, x1⟩
  have L1 := Lib.hid l1
  have X1 := Lib.hid x1
  have G1 : Hid (Blk w1 g _ _) := Lib.hid (H.out.G.extX x1 hgr)
  have T1 : Hid (Blk w1 x.t _ _) := Lib.hid ((H.out.E x hx).extX x1 htr)
  have M1 : Hid (MapL kI w1 m mp) := Lib.hid (H.out.M.extX x1 H.out.notRm)
  have N1 : Hid (GN w1 ok gb v ps) := Lib.hid (HG.out.keep x1 (fun hr => HNR.out gb hr (.inl rfl)) (fun b hb hr => HNR.out b hr (.inr hb)))
  have c3 := k1.cell (o := 3) rfl
  have ta := taE x.t
  clear l1 k1 x1 c2
  go_wp2_with fail
  have d1 := G1.out.cell (o := 1) rfl
  have d3 := G1.out.cell (o := 3) rfl
  have e0 := T1.out.cell (o := 0) rfl
  have e1 := T1.out.cell (o := 1) rfl
  obtain ⟨w2, hdel, M2, x2, s2⟩ := M1.out.drew.del (P := Try.prog) keyI Try.underlying71 x.k 0
  refine wp_region_schedT (ops := ops_64_2) Ext [8] (.quiet 0 (.quiet 1 (.quiet 2 (.quiet 3 (.quiet 4 (.quiet 5 (.quiet 6 (.quiet 7 (.last 8 (.done)))))))))) (by kernel_rfl) ext_refl ext_trans (by kernel_rfl) (fun _ _ d _ _ h => by cases d <;> exact h) ?_
  refine wpS_quiet (some 16) { dst := some 16, op := Op.move (Operand.tmp 0), type := _, pos := _, after := _, guard := none } _ rfl rfl (by rfl) (fun wE hE => by (go_simp; try with_reducible rfl)) ?_; simp only [Act.put, List.setIfInBounds_toArray, List.set_cons_zero, List.set_cons_succ]
  refine wpS_quiet (some 17) { dst := some 17, op := Op.nilCheck (Operand.tmp 16), type := _, pos := _, after := _, guard := none } _ rfl rfl (by rfl) (fun wE hE => by (go_simp; try with_reducible rfl)) ?_; simp only [Act.put, List.setIfInBounds_toArray, List.set_cons_zero, List.set_cons_succ]
  refine wpS_quiet (some 18) { dst := some 18, op := Op.fieldAddr 73 (Operand.tmp 17) 3, type := _, pos := _, after := _, guard := none } _ rfl rfl (by rfl) (fun wE hE => by (go_simp; try with_reducible rfl)) ?_; simp only [Act.put, List.setIfInBounds_toArray, List.set_cons_zero, List.set_cons_succ]
  refine wpS_quiet (some 19) { dst := some 19, op := Op.load 71 (Operand.tmp 18), type := _, pos := _, after := _, guard := none } _ rfl rfl (by rfl) (fun wE hE => by (have zk0 := hE.cellS d3; have zk1 := hE.cellS e0; go_simp; try with_reducible rfl)) ?_; simp only [Act.put, List.setIfInBounds_toArray, List.set_cons_zero, List.set_cons_succ]
  refine wpS_quiet (some 20) { dst := some 20, op := Op.move (Operand.tmp 4), type := _, pos := _, after := _, guard := none } _ rfl rfl (by rfl) (fun wE hE => by (go_simp; try with_reducible rfl)) ?_; simp only [Act.put, List.setIfInBounds_toArray, List.set_cons_zero, List.set_cons_succ]
  refine wpS_quiet (some 21) { dst := some 21, op := Op.nilCheck (Operand.tmp 20), type := _, pos := _, after := _, guard := none } _ rfl rfl (by rfl) (fun wE hE => by (go_simp; try with_reducible rfl)) ?_; simp only [Act.put, List.setIfInBounds_toArray, List.set_cons_zero, List.set_cons_succ]
  refine wpS_quiet (some 22) { dst := some 22, op := Op.fieldAddr 103 (Operand.tmp 21) 0, type := _, pos := _, after := _, guard := none } _ rfl rfl (by rfl) (fun wE hE => by (go_simp; try with_reducible rfl)) ?_; simp only [Act.put, List.setIfInBounds_toArray, List.set_cons_zero, List.set_cons_succ]
  refine wpS_quiet (some 23) { dst := some 23, op := Op.load 46 (Operand.tmp 22), type := _, pos := _, after := _, guard := none } _ rfl rfl (by rfl) (fun wE hE => by (have zk0 := hE.cellS d3; have zk1 := hE.cellS e0; go_simp; try with_reducible rfl)) ?_; simp only [Act.put, List.setIfInBounds_toArray, List.set_cons_zero, List.set_cons_succ]
  refine wpS_lastE none { dst := none, op := Op.call { callee := Callee.builtin Builtin.delete, args := #[Operand.tmp 19, Operand.tmp 23], argTypes := #[71, 20] }, type := _, pos := _, after := _, guard := none } rfl rfl (by rfl) ?_
  refine ⟨_, w2, exec_del (.tmp 19) (.tmp 23) 71 20 rfl rfl rfl hdel, ?_⟩
  simp only [Act.put, List.setIfInBounds_toArray, List.set_cons_zero, List.set_cons_succ]
  change Exit.then _ _ _ _ _
  have hgm : g ≠ m := fun e => H.out.M.noBlk (e ▸ H.out.G)
  have htm : x.t ≠ m := fun e => H.out.M.noBlk (e ▸ H.out.E x hx)
  have G2 : Hid (Blk w2 g _ _) := Lib.hid (G1.out.drew.extX x2 hgm)
  have T2 : Hid (Blk w2 x.t _ _) := Lib.hid (T1.out.drew.extX x2 htm)
  have L2 : Hid (LSt w2 l (X ++ Y)) := Lib.hid (by
    have hl : LSt w1.drew l (X ++ Y) := L1.out
    refine hl.extX x2 (fun e => ?_) (fun y hy e => ?_)
    · exact H.out.notRm (e ▸ .inl rfl)
    · exact H.out.notRm (.inr ⟨y, mid_sub hy, e⟩))
  have hN2 := N1.out.apartM M1.out
  have N2 : Hid (GN w2 ok gb v ps) := Lib.hid (GN.keep (w := w1.drew) N1.out x2 (fun e => hN2.1 e.symm) (fun b hb e => hN2.2 (e ▸ hb)))
  have X2 := Lib.hid x2
  have HM2 := Lib.hid M2
  clear d1 d3 e0 e1 c3 x2 M2 hdel
  have d1 := G2.out.cell (o := 1) rfl
  have e0 := T2.out.cell (o := 0) rfl
  have e1 := T2.out.cell (o := 1) rfl
  have qf := neF gb w2
  go_wp2_with fail
  clear qf
  have hsz : w.heap.size ≤ w2.heap.size := Nat.le_trans X1.out.size X2.out.size
  have hgo := N2.out.apart G2.out (by decide) (by decide)
  have hto := N2.out.apart T2.out (by decide) (by decide)
  refine wp_region_sched (ops := ops_64_4) (ExtX (fun b => b = gb ∨ some b = v.ownBlock)) [] (.quiet 0 (.quiet 1 (.quiet 2 (.quiet 3 (.quiet 4 (.quiet 5 (.quiet 6 (.quiet 7 (.quiet 8 (.quiet 9 (.quiet 10 (.quiet 11 (.loud 12 (.done) (.stop)))))))))))))) (by kernel_rfl) (ExtX.refl (fun b => b = gb ∨ some b = v.ownBlock)) (fun _ _ _ => ExtX.trans) (by kernel_rfl) (fun _ _ d _ _ h => by cases d <;> exact h) ?_
  refine wpS_quiet (some 29) { dst := some 29, op := Op.move (Operand.tmp 0), type := _, pos := _, after := _, guard := none } _ rfl rfl (by rfl) (fun wE hE => by (go_simp; try with_reducible rfl)) ?_; simp only [Act.put, List.setIfInBounds_toArray, List.set_cons_zero, List.set_cons_succ]
  refine wpS_quiet (some 30) { dst := some 30, op := Op.nilCheck (Operand.tmp 29), type := _, pos := _, after := _, guard := none } _ rfl rfl (by rfl) (fun wE hE => by (go_simp; try with_reducible rfl)) ?_; simp only [Act.put, List.setIfInBounds_toArray, List.set_cons_zero, List.set_cons_succ]
  refine wpS_quiet (some 31) { dst := some 31, op := Op.fieldAddr 73 (Operand.tmp 30) 1, type := _, pos := _, after := _, guard := none } _ rfl rfl (by rfl) (fun wE hE => by (go_simp; try with_reducible rfl)) ?_; simp only [Act.put, List.setIfInBounds_toArray, List.set_cons_zero, List.set_cons_succ]
  refine wpS_quiet (some 32) { dst := some 32, op := Op.load 49 (Operand.tmp 31), type := _, pos := _, after := _, guard := none } _ rfl rfl (by rfl) (fun wE hE => by (have zk0 := hE.cellS (by first | exact fun h => h.elim hgo.1 hgo.2 | exact fun h => h.elim hto.1 hto.2) d1; have zk1 := hE.cellS (by first | exact fun h => h.elim hgo.1 hgo.2 | exact fun h => h.elim hto.1 hto.2) e0; have zk2 := hE.cellS (by first | exact fun h => h.elim hgo.1 hgo.2 | exact fun h => h.elim hto.1 hto.2) e1; go_simp; try with_reducible rfl)) ?_; simp only [Act.put, List.setIfInBounds_toArray, List.set_cons_zero, List.set_cons_succ]
  refine wpS_quiet (some 33) { dst := some 33, op := Op.move (Operand.tmp 4), type := _, pos := _, after := _, guard := none } _ rfl rfl (by rfl) (fun wE hE => by (go_simp; try with_reducible rfl)) ?_; simp only [Act.put, List.setIfInBounds_toArray, List.set_cons_zero, List.set_cons_succ]
  refine wpS_quiet (some 34) { dst := some 34, op := Op.nilCheck (Operand.tmp 33), type := _, pos := _, after := _, guard := none } _ rfl rfl (by rfl) (fun wE hE => by (go_simp; try with_reducible rfl)) ?_; simp only [Act.put, List.setIfInBounds_toArray, List.set_cons_zero, List.set_cons_succ]
  refine wpS_quiet (some 35) { dst := some 35, op := Op.fieldAddr 103 (Operand.tmp 34) 0, type := _, pos := _, after := _, guard := none } _ rfl rfl (by rfl) (fun wE hE => by (go_simp; try with_reducible rfl)) ?_; simp only [Act.put, List.setIfInBounds_toArray, List.set_cons_zero, List.set_cons_succ]
  refine wpS_quiet (some 36) { dst := some 36, op := Op.load 46 (Operand.tmp 35), type := _, pos := _, after := _, guard := none } _ rfl rfl (by rfl) (fun wE hE => by (have zk0 := hE.cellS (by first | exact fun h => h.elim hgo.1 hgo.2 | exact fun h => h.elim hto.1 hto.2) d1; have zk1 := hE.cellS (by first | exact fun h => h.elim hgo.1 hgo.2 | exact fun h => h.elim hto.1 hto.2) e0; have zk2 := hE.cellS (by first | exact fun h => h.elim hgo.1 hgo.2 | exact fun h => h.elim hto.1 hto.2) e1; go_simp; try with_reducible rfl)) ?_; simp only [Act.put, List.setIfInBounds_toArray, List.set_cons_zero, List.set_cons_succ]
  refine wpS_quiet (some 37) { dst := some 37, op := Op.move (Operand.tmp 4), type := _, pos := _, after := _, guard := none } _ rfl rfl (by rfl) (fun wE hE => by (go_simp; try with_reducible rfl)) ?_; simp only [Act.put, List.setIfInBounds_toArray, List.set_cons_zero, List.set_cons_succ]
  refine wpS_quiet (some 38) { dst := some 38, op := Op.nilCheck (Operand.tmp 37), type := _, pos := _, after := _, guard := none } _ rfl rfl (by rfl) (fun wE hE => by (go_simp; try with_reducible rfl)) ?_; simp only [Act.put, List.setIfInBounds_toArray, List.set_cons_zero, List.set_cons_succ]
  refine wpS_quiet (some 39) { dst := some 39, op := Op.fieldAddr 103 (Operand.tmp 38) 1, type := _, pos := _, after := _, guard := none } _ rfl rfl (by rfl) (fun wE hE => by (go_simp; try with_reducible rfl)) ?_; simp only [Act.put, List.setIfInBounds_toArray, List.set_cons_zero, List.set_cons_succ]
  refine wpS_quiet (some 40) { dst := some 40, op := Op.load 20 (Operand.tmp 39), type := _, pos := _, after := _, guard := none } _ rfl rfl (by rfl) (fun wE hE => by (have zk0 := hE.cellS (by first | exact fun h => h.elim hgo.1 hgo.2 | exact fun h => h.elim hto.1 hto.2) d1; have zk1 := hE.cellS (by first | exact fun h => h.elim hgo.1 hgo.2 | exact fun h => h.elim hto.1 hto.2) e0; have zk2 := hE.cellS (by first | exact fun h => h.elim hgo.1 hgo.2 | exact fun h => h.elim hto.1 hto.2) e1; go_simp; try with_reducible rfl)) ?_; simp only [Act.put, List.setIfInBounds_toArray, List.set_cons_zero, List.set_cons_succ]
  refine wpS_call (some 41) { dst := some 41, op := Op.call { callee := Callee.value (Operand.tmp 32), args := #[Operand.tmp 36, Operand.tmp 40], argTypes := #[46, 20] }, type := _, pos := _, after := _, guard := none } _ _ rfl rfl (by rfl) (by go_simp; try first | with_reducible rfl | exact ⟨rfl, rfl⟩) ?_
  refine (gone_any ok gb v ps x.k x.v w2.drew N2.out hn (fun q hq => hok q (Nat.le_trans hsz hq))).mono ?_; rintro e w3 ⟨rfl, v3, n3, x3⟩; refine ⟨_, rfl, x3, ?_⟩; simp only [Act.put, List.setIfInBounds_toArray, List.set_cons_zero, List.set_cons_succ]
  unfold wpS
  have N3 := Lib.hid n3
  have X3 := Lib.hid x3
  clear n3 x3 d1 e0 e1
  go_end0
  have h1 := N3.out
  have hmine : ∀ b, Mine g l m (X ++ Y) b → ¬ (b = gb ∨ some b = v.ownBlock) := fun b hb => H.out.notGone HG.out b (by
    rcases hb with h | h | h | ⟨y, hy, h⟩
    · exact .inl h
    · exact .inr (.inl h)
    · rcases h with h | ⟨y, hy, h⟩
      · exact .inr (.inr (.inl (.inl h)))
      · exact .inr (.inr (.inl (.inr ⟨y, mid_sub hy, h⟩)))
    · exact .inr (.inr (.inr ⟨y, mid_sub hy, h⟩)))
  have XA : ExtX (fun b => InR l (X ++ x :: Y) b ∨ b = m) w w2 := (X1.out.mono fun _ _ h => .inl h).trans (X2.out.mono fun _ _ h => .inr h)
  have C2 : LC w2 ok g l m gb size (X ++ Y) (adel mp x.k) :=
    { G := G2.out
      L := L2.out
      E := fun y hy => (H.out.E y (mid_sub hy)).extX XA (fun hr => hr.elim (H.out.notR (H.out.E y (mid_sub hy)) (by decide) (by decide)) (fun e => H.out.M.noBlk (e ▸ H.out.E y (mid_sub hy))))
      M := HM2.out
      mo := H.out.moOut
      nk := nodup_mid H.out.nk
      nt := nodup_mid H.out.nt
      og := H.out.og
      ol := H.out.ol
      om := H.out.om
      oi := fun y hy => H.out.oi y (mid_sub hy) }
  refine ⟨rfl, _, _, LC.keep (w := w2.drew) { C2 with } X3.out hmine, h1, ?_⟩
  refine (XA.mono fun b _ hb => hb.elim (fun h => H.out.okR h) (fun e => e ▸ H.out.om)).trans ((ExtX.undrew X3.out).mono fun b _ hb => ?_)
  rcases hb with e | e
  · exact e ▸ HG.out.1
  · exact (HG.out.2.2.1 b e.symm).1
end Go.Proofs.Ytphhkphibdiahaa
