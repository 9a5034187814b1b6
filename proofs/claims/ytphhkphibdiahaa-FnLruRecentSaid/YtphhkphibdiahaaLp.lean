/-
  Slices of pairs that a call owns: a copy, one taken out, where a key stands (slices.Clone, Delete, IndexFunc).
-/
import Derived.Test.YtphhkphibdiahaaLo
import Derived.Handy
import Derived.Laws.EntriesVeiled
namespace Go.Proofs.Ytphhkphibdiahaa
open Go.RowKit Go.Shelf
set_option linter.unusedSimpArgs false
set_option linter.unusedVariables false

theorem flat_len (L : PL) : (L.flatMap prCells).length = L.length * 2 := by
  induction L with
  | nil => rfl
  | cons p L ih => rw [List.flatMap_cons, List.length_append, ih, List.length_cons]; show 2 + L.length * 2 = (L.length + 1) * 2; omega
theorem flat_get {L : PL} : ∀ {i : Nat} {p : Int × Int} (rest : List Value), L[i]? = some p → ((L.flatMap prCells ++ rest).drop (i * 2)).take 2 = prCells p := by
  induction L with
  | nil => intro i p rest h; simp at h
  | cons q L ih =>
    intro i p rest h
    cases i with
    | zero => simp at h; subst h; simp [List.flatMap_cons]
    | succ i =>
      simp at h
      rw [List.flatMap_cons, List.append_assoc, show (i + 1) * 2 = (prCells q).length + i * 2 by show _ = 2 + i * 2; omega, ← List.drop_drop, List.drop_left' rfl]
      exact ih rest h
/-- what a slice of pairs looks like in its block -/
theorem pr_blk {w : World} {ok : Nat → Prop} {base : Nat} {e : TypeId} {g cap : Nat} {L : PL} (h : OwnP Rp.pr w ok base e (.slice (some ⟨g, 0, none⟩) L.length cap) L) :
    ∃ rest, Blk w g e (L.flatMap prCells ++ rest) ∧ L.length * 2 + rest.length = cap * 2 ∧ L.length ≤ cap ∧ cap ≤ maxLen ∧ base ≤ g ∧ ok g := by
  obtain ⟨h0, cells, ⟨hc1, hc2⟩, hK⟩ := h
  rcases hc2 with ⟨hv, _⟩ | ⟨g', cap', cur, hv, hb, hg, hc, hm, hs, ht⟩
  · cases hv
  · simp only [Value.slice.injEq, Option.some.injEq, Addr.mk.injEq, and_true, true_and] at hv
    obtain ⟨rfl, rfl⟩ := hv
    have hsz : Rp.pr.sz = 2 := rfl
    rw [hsz] at hc1 hs ht hK
    have hcells : cells = L.flatMap prCells := by
      apply List.ext_getElem?
      intro t
      by_cases hlt : t < L.length * 2
      · obtain ⟨p, hp⟩ : ∃ p, L[t / 2]? = some p := ⟨_, List.getElem?_eq_getElem (by omega)⟩
        have h1 := (hK (t / 2) p hp).1
        have h2 := flat_get [] hp
        rw [List.append_nil] at h2
        have h3 := congrArg (·[t % 2]?) (h1.trans h2.symm)
        simp only [List.getElem?_take_of_lt (Nat.mod_lt t (by omega : 0 < 2)), List.getElem?_drop] at h3
        rw [show t / 2 * 2 + t % 2 = t by omega] at h3
        exact h3
      · rw [List.getElem?_eq_none (by omega), List.getElem?_eq_none (by rw [flat_len]; omega)]
    refine ⟨cur.toList.drop (L.length * 2), ?_, ?_, hc, hm, hb, h0 g rfl⟩
    · have : L.flatMap prCells ++ cur.toList.drop (L.length * 2) = cur.toList := by rw [← hcells, ← ht, List.take_append_drop]
      rw [this]
      unfold Blk
      simpa using hg
    · rw [List.length_drop, show cur.toList.length = cur.size from Array.length_toList, hs]; omega
theorem pr_own {w : World} {ok : Nat → Prop} {base : Nat} {e : TypeId} {g cap : Nat} {L : PL} {rest : List Value} (hb : Blk w g e (L.flatMap prCells ++ rest)) (hl : L.length * 2 + rest.length = cap * 2) (hc : L.length ≤ cap) (hm : cap ≤ maxLen) (hg : base ≤ g) (ho : ok g) :
    OwnP Rp.pr w ok base e (.slice (some ⟨g, 0, none⟩) L.length cap) L := by
  refine ⟨fun q hq => by simp only [Value.ownBlock, Option.some.injEq] at hq; exact hq ▸ ho, L.flatMap prCells, ⟨flat_len L, .inr ⟨g, cap, _, rfl, hg, hb, hc, hm, ?_, ?_⟩⟩, fun i p hp => ⟨?_, trivial⟩⟩
  · show (L.flatMap prCells ++ rest).toArray.size = cap * 2
    rw [List.size_toArray, List.length_append, flat_len]; exact hl
  · show (L.flatMap prCells ++ rest).take (L.length * 2) = _
    exact List.take_left' (flat_len L)
  · have := flat_get [] hp
    rwa [List.append_nil] at this
theorem infoEn : (Try.prog.info? 59).map (fun i => (i.zero, i.size, i.bytes)) = some (some (.agg #[.int .i64 0, .int .i64 0]), 2, 16) := by kernel_rfl
/-- slices.Clone at entries -/
theorem cloneEn_any (ok : Nat → Prop) (v : Value) (L : PL) (w : World) (h : OwnP Rp.pr w ok 0 59 v L) (hn : L.length ≤ 2000) (hne : L ≠ []) :
    Calls Try.prog 26 #[v] w fun e w' => ∃ v', e = .returned v' ∧ OwnP Rp.pr w' (fun q => w.heap.size ≤ q) w.heap.size 59 v' L ∧ Ext w w' := by
  rcases h.form with ⟨rfl, rfl⟩ | ⟨g, cap, rfl, _, _, _⟩
  · exact absurd rfl hne
  · obtain ⟨rest, hb, hl, hc, hm, _⟩ := pr_blk h
    obtain ⟨i0, hi, hz0, hz1, hz2⟩ := info_parts3 infoEn
    refine (AnyE.slices_Clone Try.laysCEn i0 _ 2 16 hi hz0 hz1 hz2 rfl (by decide) Try.sizeOf59 g 0 L.length cap (L.flatMap prCells) w (flat_len L) (by unfold maxLen; omega) (by omega) (fun j u hj => ?_) (fun u hu => ?_)).mono ?_
    · rw [Nat.zero_add]
      exact hb.cell (by rw [List.getElem?_append_left (List.getElem?_eq_some_iff.1 hj).1]; exact hj)
    · obtain ⟨p, _, hp⟩ := List.mem_flatMap.1 hu
      simp [prCells] at hp
      rcases hp with rfl | rfl <;> rfl
    · rintro e w' ⟨v', rfl, ho, _, hbel⟩
      refine ⟨v', rfl, ⟨fun q hq => (ho.lt q hq).1, L.flatMap prCells, ho, fun i p hp => ⟨?_, trivial⟩⟩, Ext.of hbel⟩
      have := flat_get [] hp
      rwa [List.append_nil] at this
theorem run_sliceAt_mid {P : Program} {t e : TypeId} (hu : P.underlying t = some (.slice e)) {sz : Nat} (hsz : (P.info? e).map (·.size) = some sz) (A : Option Addr) (n c lo hi : Nat) (h : lo ≤ hi) (h2 : hi ≤ c) (w : World) :
    (Instr.sliceAt t (.slice A n c) (some (.int .i64 lo)) (some (.int .i64 hi)) none).run P w = .ok (.slice (if c = lo then A else A.map (·.add (lo * sz))) (hi - lo) (c - lo)) w := by
  rw [run_sliceAt hu]
  cases hq : P.info? e with
  | none => simp [hq] at hsz
  | some i =>
    have hs : i.size = sz := by simpa [hq] using hsz
    have hb : (0 : Int) ≤ (lo : Int) ∧ (lo : Int) ≤ (hi : Int) := by omega
    have hb2 : (0 : Int) ≤ (hi : Int) ∧ (hi : Int) ≤ (c : Int) := by omega
    simp [Instr.slice, underlying, typeInfo, sizeOf, Instr.sliceBounds, Instr.sliceBound, asIntOf, hu, hq, h, h2, hs]
theorem run_sliceAt_3 {P : Program} {t e : TypeId} (hu : P.underlying t = some (.slice e)) {sz : Nat} (hsz : (P.info? e).map (·.size) = some sz) (A : Option Addr) (n c lo hi m : Nat) (h : lo ≤ hi) (h2 : hi ≤ m) (h3 : m ≤ c) (w : World) :
    (Instr.sliceAt t (.slice A n c) (some (.int .i64 lo)) (some (.int .i64 hi)) (some (.int .i64 m))).run P w = .ok (.slice (if m = lo then A else A.map (·.add (lo * sz))) (hi - lo) (m - lo)) w := by
  rw [run_sliceAt hu]
  cases hq : P.info? e with
  | none => simp [hq] at hsz
  | some i =>
    have hs : i.size = sz := by simpa [hq] using hsz
    have hb : (0 : Int) ≤ (lo : Int) ∧ (lo : Int) ≤ (hi : Int) := by omega
    have hb2 : (0 : Int) ≤ (hi : Int) ∧ (hi : Int) ≤ (m : Int) := by omega
    have hb3 : (0 : Int) ≤ (m : Int) ∧ (m : Int) ≤ (c : Int) := by omega
    simp [Instr.slice, underlying, typeInfo, sizeOf, Instr.sliceBounds, Instr.sliceBound, asIntOf, hu, hq, h, h2, h3, hs]
theorem zeroEn (w : World) : (zeroValue 59).run Try.prog w = .ok (.agg #[.int .i64 0, .int .i64 0]) w := by kernel_rfl
theorem run_clear1 {w : World} {g off c : Nat} {T : TypeId} {A R : List Value} (hb : Blk w g T (A ++ R)) (ho : off = A.length) (hr : 2 ≤ R.length) :
    ∃ w', (∀ ty, (Builtin.clear_ #[28] ty #[.slice (some ⟨g, off, none⟩) 1 c]).run Try.prog w = .ok (.tuple #[]) w') ∧ Blk w' g T (A ++ (.int .i64 0 :: .int .i64 0 :: R.drop 2)) ∧ ExtX (fun k => k = g) w w' := by
  have hrun := run_storeCells_at (P := Try.prog) g off T [.int .i64 0, .int .i64 0] 0 (A ++ R).toArray w hb (by simp; omega) (by simp [Value.oneCell'])
  rw [Nat.add_zero] at hrun
  refine ⟨w.setRow g ((A ++ R).toArray.toList.take off ++ [Value.int .i64 0, Value.int .i64 0] ++ (A ++ R).toArray.toList.drop (off + 2)).toArray, fun ty => ?_, ?_, ⟨rfl, rfl, rfl, by simp [World.setRow], fun k hk hm => setRow_other w g k _ hm⟩⟩
  · have hz : (Builtin.zeroCells (Value.agg #[.int .i64 0, .int .i64 0]).cells 1).toList = [.int .i64 0, .int .i64 0] := by
      simp [Builtin.zeroCells, Value.cells, List.range_succ]
    simp [Builtin.clear_, run_underlying Try.underlying28, zeroEn, hz, hrun, Result.andThen]
  · have h := setRow_heap w g _ ((A ++ R).toArray.toList.take off ++ [Value.int .i64 0, Value.int .i64 0] ++ (A ++ R).toArray.toList.drop (off + 2)).toArray T (0, 0) hb
    unfold Blk
    rw [h]
    subst ho
    simp [List.take_left', List.drop_append]
noncomputable def ops_25_5 : Array Oper := opsAt Try.f25 5
set_option maxRecDepth 20000 in
set_option maxHeartbeats 1000000 in
/-- slices.Delete of one entry -/
theorem delEn_any (ok : Nat → Prop) (base : Nat) (v : Value) (X Y : PL) (p : Int × Int) (w : World) (h : OwnP Rp.pr w ok base 59 v (X ++ p :: Y)) (hn : (X ++ p :: Y).length ≤ 2000) :
    Calls Try.prog 25 #[v, .int .i64 X.length, .int .i64 (X.length + 1 : Nat)] w fun e w' => ∃ v', e = .returned v' ∧ OwnP Rp.pr w' ok base 59 v' (X ++ Y) ∧ v'.ownBlock = v.ownBlock ∧ ExtX (fun q => some q = v.ownBlock) w w' := by
  rcases h.form with ⟨rfl, hnil⟩ | ⟨g, cap, rfl, _, _, _⟩
  · simp at hnil
  obtain ⟨rest, hb, hl, hc, hm, hbg, hog⟩ := pr_blk h
  have hlen : (X ++ p :: Y).length = X.length + Y.length + 1 := by simp; omega
  rw [hlen] at hn hl hc
  have hcm : cap ≤ 9223372036854775807 := by unfold maxLen at hm; omega
  have hsz : (Try.prog.info? 59).map (·.size) = some 2 := by kernel_rfl
  have hfl : (X ++ p :: Y).flatMap prCells = X.flatMap prCells ++ (prCells p ++ Y.flatMap prCells) := by simp
  rw [hfl] at hb
  obtain ⟨i0, hi, hz0, hz1, hz2⟩ := info_parts3 infoEn
  obtain ⟨j, hj⟩ : ∃ j, j = X.length + 1 := ⟨_, rfl⟩
  obtain ⟨n, hnn⟩ : ∃ n, n = X.length + Y.length + 1 := ⟨_, rfl⟩
  obtain ⟨m, hmm⟩ : ∃ m, m = X.length + Y.length := ⟨_, rfl⟩
  have s1 := run_sliceAt_3 (P := Try.prog) Try.underlying28 hsz (some ⟨g, 0, none⟩) n cap X.length j n (by omega) (by omega) (by omega) w
  have s2 := run_sliceAt_to (P := Try.prog) Try.underlying28 hsz (some ⟨g, 0, none⟩) n cap X.length (by omega)
  have s3 := run_sliceAt_from (P := Try.prog) Try.underlying28 hsz (some ⟨g, 0, none⟩) n cap j (by omega)
  have htot : (X.flatMap prCells ++ (prCells p ++ Y.flatMap prCells) ++ rest).length = cap * 2 := by rw [← hfl, List.length_append, flat_len, hlen]; exact hl
  -- what is moved down
  obtain ⟨A3, hA3, hn3⟩ : ∃ A3, (if cap = X.length + 1 then some (⟨g, 0, none⟩ : Addr) else (some (⟨g, 0, none⟩ : Addr)).map (·.add ((X.length + 1) * 2))) = some A3 ∧ ∀ j u, (Y.flatMap prCells)[j]? = some u → w.drew.cell? (A3.add j) = some u := by
    by_cases h1 : cap = X.length + 1
    · refine ⟨_, if_pos h1, fun j u hu => ?_⟩
      have hY : Y = [] := List.eq_nil_of_length_eq_zero (by omega)
      subst hY
      simp at hu
    · refine ⟨_, if_neg h1, fun j u hu => ?_⟩
      have h2 : ((⟨g, 0, none⟩ : Addr).add ((X.length + 1) * 2)).add j = ⟨g, (X.length + 1) * 2 + j, none⟩ := by simp [Addr.add_lit]
      rw [h2]
      refine hb.cell ?_
      have h3 := (List.getElem?_eq_some_iff.1 hu).1
      have h4 : (X.flatMap prCells ++ prCells p).length = (X.length + 1) * 2 := by rw [List.length_append, flat_len]; show X.length * 2 + 2 = _; omega
      rw [show X.flatMap prCells ++ (prCells p ++ Y.flatMap prCells) ++ rest = (X.flatMap prCells ++ prCells p) ++ (Y.flatMap prCells ++ rest) by simp, List.getElem?_append_right (by omega), h4, Nat.add_sub_cancel_left, List.getElem?_append_left h3]
      exact hu
  have happ := run_append_room (P := Try.prog) w.drew 28 28 59 i0 Try.underlying28 hi g X.length cap (X.flatMap prCells ++ (prCells p ++ Y.flatMap prCells) ++ rest).toArray hb A3 Y.length (cap - (X.length + 1)) (Y.flatMap prCells) (by rw [hz1]; exact flat_len Y) hn3
    (fun u hu => by obtain ⟨q, _, hq⟩ := List.mem_flatMap.1 hu; simp [prCells] at hq; rcases hq with rfl | rfl <;> rfl) (by omega) (by rw [hz1, flat_len, List.size_toArray, htot]; omega)
  rw [hz1] at happ
  have hnew : ((X.flatMap prCells ++ (prCells p ++ Y.flatMap prCells) ++ rest).toArray.toList.take (X.length * 2) ++ Y.flatMap prCells ++ (X.flatMap prCells ++ (prCells p ++ Y.flatMap prCells) ++ rest).toArray.toList.drop (X.length * 2 + (Y.flatMap prCells).length)) =
      (X ++ Y).flatMap prCells ++ (prCells p ++ Y.flatMap prCells ++ rest).drop (Y.length * 2) := by
    simp only [List.append_assoc]
    rw [List.take_left' (flat_len X), flat_len Y, ← List.drop_drop, List.drop_left' (flat_len X)]
    simp
  obtain ⟨w1, hw1⟩ : ∃ w1, w1 = w.drew.setRow g ((X.flatMap prCells ++ (prCells p ++ Y.flatMap prCells) ++ rest).toArray.toList.take (X.length * 2) ++ Y.flatMap prCells ++ (X.flatMap prCells ++ (prCells p ++ Y.flatMap prCells) ++ rest).toArray.toList.drop (X.length * 2 + (Y.flatMap prCells).length)).toArray := ⟨_, rfl⟩
  have K1 : Blk w1 g 59 ((X ++ Y).flatMap prCells ++ (prCells p ++ Y.flatMap prCells ++ rest).drop (Y.length * 2)) := by
    have h1 := setRow_heap w.drew g _ ((X.flatMap prCells ++ (prCells p ++ Y.flatMap prCells) ++ rest).toArray.toList.take (X.length * 2) ++ Y.flatMap prCells ++ (X.flatMap prCells ++ (prCells p ++ Y.flatMap prCells) ++ rest).toArray.toList.drop (X.length * 2 + (Y.flatMap prCells).length)).toArray 59 (0, 0) hb
    rw [← hw1] at h1
    unfold Blk
    rw [h1, hnew]
  have X1 : ExtX (fun k => k = g) w w1 := by rw [hw1]; exact ⟨rfl, rfl, rfl, by simp [World.setRow], fun k hk hm => setRow_other w.drew g k _ hm⟩
  rw [← hw1] at happ
  have hL : (X ++ Y).length = X.length + Y.length := by simp
  have hrl : ((prCells p ++ Y.flatMap prCells ++ rest).drop (Y.length * 2)).length = 2 + rest.length := by
    rw [List.length_drop, List.length_append, List.length_append, flat_len]; show 2 + Y.length * 2 + rest.length - Y.length * 2 = _; omega
  obtain ⟨w2, hclr, K2, X2⟩ := run_clear1 (c := cap - (X.length + Y.length)) K1 (off := (X.length + Y.length) * 2) (by rw [flat_len, hL]) (by rw [hrl]; omega)
  have hadd : (⟨g, 0, none⟩ : Addr).add ((X.length + Y.length) * 2) = ⟨g, (X.length + Y.length) * 2, none⟩ := by simp [Addr.add_lit]
  have s4 := run_sliceAt_mid (P := Try.prog) Try.underlying28 hsz (some ⟨g, 0, none⟩) m cap m n (by omega) (by omega) w1
  rw [if_neg (by omega), Option.map_some, hmm, hadd, ← hmm, show n - m = 1 by omega] at s4
  have s3' : ∀ w, (Instr.sliceAt 28 (.slice (some ⟨g, 0, none⟩) n cap) (some (.int .i64 j)) none none).run Try.prog w = .ok (.slice (some A3) Y.length (cap - j)) w := fun w => by
    rw [s3 w, hj, hA3, ← hj, show n - j = Y.length by omega]
  rw [← hmm] at happ hclr
  rw [← hj] at happ
  have hfin : OwnP Rp.pr w2 ok base 59 (.slice (some ⟨g, 0, none⟩) (X ++ Y).length cap) (X ++ Y) :=
    pr_own K2 (by simp only [List.length_cons, List.length_drop, hrl]; omega) (by omega) hm hbg hog
  rw [hL, ← hmm] at hfin
  have HF := Lib.hid hfin
  have HX := Lib.hid (X1.trans X2)
  have HV := Lib.hid hlen
  rw [hlen, ← hj, ← hnn]
  have hij : X.length ≤ j := by omega
  have hjn : j ≤ n := by omega
  have hmn : m ≤ n := by omega
  have hnc : n ≤ cap := by omega
  have hne : ¬ X.length = j := by omega
  have hneI : ((X.length : Int) == (j : Int)) = false := by rw [beq_eq_false_iff_ne]; omega
  have hcap : cap ≤ 9223372036854775807 := hcm
  replace hj := Lib.hid hj
  replace hnn := Lib.hid hnn
  replace hmm := Lib.hid hmm
  clear hb hfl K1 K2 X1 X2 hn3 hA3 hnew hw1 hfin hlen h hrl hadd hL s3 htot hz1 hz2 hz0 hi hl
  go_enter Try.func25, Try.ntmps25
  go_wp2_with fail
  refine wp_region_schedT (ops := ops_25_5) Ext [6] (.quiet 0 (.quiet 1 (.quiet 2 (.quiet 3 (.quiet 4 (.quiet 5 (.last 6 (.quiet 7 (.done))))))))) (by kernel_rfl) ext_refl ext_trans (by kernel_rfl) (fun _ _ d _ _ h => by cases d <;> exact h) ?_
  refine wpS_quiet (some 20) { dst := some 20, op := Op.move (Operand.tmp 0), type := _, pos := _, after := _, guard := none } _ rfl rfl (by rfl) (fun wE hE => by (go_simp; try with_reducible rfl)) ?_; simp only [Act.put, List.setIfInBounds_toArray, List.set_cons_zero, List.set_cons_succ]
  refine wpS_quiet (some 21) { dst := some 21, op := Op.move (Operand.tmp 1), type := _, pos := _, after := _, guard := none } _ rfl rfl (by rfl) (fun wE hE => by (go_simp; try with_reducible rfl)) ?_; simp only [Act.put, List.setIfInBounds_toArray, List.set_cons_zero, List.set_cons_succ]
  refine wpS_quiet (some 22) { dst := some 22, op := Op.slice 28 (Operand.tmp 20) none (some (Operand.tmp 21)) none, type := _, pos := _, after := _, guard := none } _ rfl rfl (by rfl) (fun wE hE => by (go_simp; try with_reducible rfl)) ?_; simp only [Act.put, List.setIfInBounds_toArray, List.set_cons_zero, List.set_cons_succ]
  refine wpS_quiet (some 23) { dst := some 23, op := Op.move (Operand.tmp 0), type := _, pos := _, after := _, guard := none } _ rfl rfl (by rfl) (fun wE hE => by (go_simp; try with_reducible rfl)) ?_; simp only [Act.put, List.setIfInBounds_toArray, List.set_cons_zero, List.set_cons_succ]
  refine wpS_quiet (some 24) { dst := some 24, op := Op.move (Operand.tmp 2), type := _, pos := _, after := _, guard := none } _ rfl rfl (by rfl) (fun wE hE => by (go_simp; try with_reducible rfl)) ?_; simp only [Act.put, List.setIfInBounds_toArray, List.set_cons_zero, List.set_cons_succ]
  refine wpS_quiet (some 25) { dst := some 25, op := Op.slice 28 (Operand.tmp 23) (some (Operand.tmp 24)) none none, type := _, pos := _, after := _, guard := none } _ rfl rfl (by rfl) (fun wE hE => by (go_simp; try with_reducible rfl)) ?_; simp only [Act.put, List.setIfInBounds_toArray, List.set_cons_zero, List.set_cons_succ]
  refine wpS_lastE (some 26) { dst := some 26, op := Op.call { callee := Callee.builtin Builtin.append, args := #[Operand.tmp 22, Operand.tmp 25], argTypes := #[28, 28] }, type := _, pos := _, after := _, guard := none } rfl rfl (by rfl) ?_
  refine ⟨_, w1, exec_app (.tmp 22) (.tmp 25) 28 rfl rfl rfl happ, ?_⟩
  simp only [Act.put, List.setIfInBounds_toArray, List.set_cons_zero, List.set_cons_succ]
  refine wpS_quiet (some 0) { dst := some 0, op := Op.assign (Operand.tmp 26), type := _, pos := _, after := _, guard := none } _ rfl rfl (by rfl) (fun wE hE => by (go_simp; try with_reducible rfl)) ?_; simp only [Act.put, List.setIfInBounds_toArray, List.set_cons_zero, List.set_cons_succ]
  change Exit.then _ _ _ _ _
  clear happ s1 s2 s3'
  go_wp2_with fail
  go_ret
  exact ⟨_, rfl, HF.out, rfl, HX.out.mono fun q _ hq => by rw [hq]; rfl⟩
end Go.Proofs.Ytphhkphibdiahaa
