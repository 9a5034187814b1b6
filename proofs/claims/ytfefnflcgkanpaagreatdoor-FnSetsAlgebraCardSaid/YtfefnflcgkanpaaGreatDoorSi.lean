/-
  cpuset.String, impl.CPUText.
-/
import Derived.Test.YtfefnflcgkanpaaGreatDoorSe
import Derived.Test.YtfefnflcgkanpaaGreatDoorSh
import Derived.Test.YtfefnflcgkanpaaGreatDoorSj
import Derived.Shelf.Bytes.BufferK
import Derived.Shelf.Bytes.String
namespace Go.Proofs.YtfefnflcgkanpaaGreatDoor
open Go.RowKit Go.Lib
set_option linter.unusedSimpArgs false
set_option linter.unusedVariables false

/-- what the library's table holds -/
def TabOk (w : World) : Prop := Lib.TabIs Tryz.prog w "internal/strconv.uint64pow10" .u64 Lib.pow10Tab
theorem var_ext {w w' : World} {P : Program} {n : String} {cs : Array Value} (e : Ext w w') (h : w.var? P n = some cs) : w'.var? P n = some cs := by
  unfold World.var? at *
  cases hg : P.globalNamed n with
  | none => rw [hg] at h; cases h
  | some g =>
    rw [hg] at h
    simp only [Option.bind_some] at *
    have : w'.heap[g]? = w.heap[g]? := by
      refine e.2.2.2.2 g ?_
      cases hq : w.heap[g]? with
      | none => rw [hq] at h; cases h
      | some o => exact (Array.getElem?_eq_some_iff.1 hq).1
    rw [this]; exact h
theorem TabOk.ext {w w' : World} (h : TabOk w) (e : Ext w w') : TabOk w' := var_ext e h
theorem itoa_any (n : Int) (h0 : -1099511627776 ≤ n) (h1 : n ≤ 1099511627776) (w : World) (hw : TabOk w) : Calls Tryz.prog 39 #[.int .i64 n] w fun e w' => e = .returned (.string (strS (itoa n))) ∧ Ext w w' := by
  refine (Any.strconv_Itoa Tryz.laysM171 n (by omega) (by omega) w hw).mono ?_
  rintro e w' ⟨rfl, k, os, rfl⟩
  exact ⟨rfl, ext_grow w k os⟩
theorem isBuf_ext {T e : TypeId} {B b : Nat} {bs : List Value} {w w' : World} (h : Lib.IsBuffer T e B b bs w) (x : Ext w w') : Lib.IsBuffer T e B b bs w' := by
  have hlt := h.lt
  obtain ⟨h1, v, lr, h2, h3, h4⟩ := h
  exact ⟨h1, v, lr, (x.2.2.2.2 b hlt).trans h2, h3.kept x.grownBy (by cases hv : v.ownBlock <;> simp), h4⟩
theorem ext_below {w w' : World} {B : Nat} (h : Ext w w') (hB : B ≤ w.heap.size) : Below B w w' := ⟨h.1, h.2.1, h.2.2.1, h.2.2.2.1, fun k hk => h.2.2.2.2 k (by omega)⟩
theorem below_ext' {w w' : World} {B : Nat} (h : Below B w w') (hB : w.heap.size ≤ B) : Ext w w' := ⟨h.os, h.tape, h.output, h.size, fun k hk => h.block k (by omega)⟩
/-- a run of neighbours -/
def Rp.rg : Rp (Int × Int) := Rp.flat (fun r => [.int .i64 r.1, .int .i64 r.2]) 2 (by decide) (fun _ => rfl) (fun _ => rfl) (fun _ => True)
theorem infoRg : (Tryz.prog.info? 61).map (fun i => (i.zero, i.size, i.bytes)) = some (some (.agg #[.int .i64 0, .int .i64 0]), 2, 16) := by kernel_rfl
/-- the cells of runs -/
def rgCells (rs : List (Int × Int)) : List Value := rs.flatMap fun r => [.int .i64 r.1, .int .i64 r.2]
theorem rg_own {w : World} {base : Nat} {e : TypeId} {rs : List (Int × Int)} {g cap : Nat} (K : ∃ cur : Array Value, w.heap[g]? = some (.cells cur e (0, 0)) ∧ cur.size = cap * 2 ∧ cur.toList.take (rs.length * 2) = rgCells rs) (hb : base ≤ g) (h1 : rs.length ≤ cap) (h2 : cap ≤ maxLen) :
    OwnP Rp.rg w any base e (.slice (some ⟨g, 0, none⟩) rs.length cap) rs := by
  obtain ⟨cur, k1, k2, k3⟩ := K
  have hlen : ∀ rs : List (Int × Int), (rgCells rs).length = rs.length * 2 := by
    intro rs
    induction rs with
    | nil => rfl
    | cons r rs ih => simp only [rgCells, List.flatMap_cons, List.length_append, List.length_cons, List.length_nil] at ih ⊢; omega
  have hat : ∀ (rs : List (Int × Int)) (i : Nat) (x : Int × Int), rs[i]? = some x → ((rgCells rs).drop (i * 2)).take 2 = [.int .i64 x.1, .int .i64 x.2] := by
    intro rs
    induction rs with
    | nil => intro i x h; simp at h
    | cons r rs ih =>
      intro i x h
      cases i with
      | zero => simp at h; subst h; rfl
      | succ i => simpa [rgCells, Nat.add_mul] using ih i x (by simpa using h)
  exact ⟨fun _ _ => trivial, rgCells rs, ⟨hlen rs, .inr ⟨g, cap, cur, rfl, hb, k1, h1, h2, k2, k3⟩⟩, fun i x hx => ⟨hat rs i x hx, trivial⟩⟩
/-- the last run grows -/
theorem rg_last {w : World} {base : Nat} {e : TypeId} {ps : List (Int × Int)} {r : Int × Int} {g cap n : Nat} (h : OwnP Rp.rg w any base e (.slice (some ⟨g, 0, none⟩) n cap) (ps ++ [r])) (y : Int) :
    OwnP Rp.rg (w.setCell ⟨g, ps.length * 2 + 1, none⟩ (.int .i64 y)) any base e (.slice (some ⟨g, 0, none⟩) n cap) (ps ++ [(r.1, y)]) ∧ ExtX (fun k => k = g) w (w.setCell ⟨g, ps.length * 2 + 1, none⟩ (.int .i64 y)) ∧
    w.cell? ⟨g, ps.length * 2, none⟩ = some (.int .i64 r.1) ∧ w.cell? ⟨g, ps.length * 2 + 1, none⟩ = some (.int .i64 r.2) ∧ w.frozen? ⟨g, ps.length * 2 + 1, none⟩ = false := by
  obtain ⟨A, c, hv, _, _⟩ := h.shape
  obtain ⟨_, cells, h1, h2⟩ := h
  simp only [Value.slice.injEq] at hv
  obtain ⟨rfl, hn, rfl⟩ := hv
  rw [hn]
  rw [hn] at h1
  obtain ⟨s1, s2⟩ := h1.stored (ps.length * 2 + 1) (.int .i64 y)
  have hl : cells.length = (ps ++ [r]).length * 2 := h1.1
  have hr := (h2 ps.length r (by simp)).1
  have hr' : ((cells.drop (ps.length * 2)).take 2) = [.int .i64 r.1, .int .i64 r.2] := hr
  have g0 : cells[ps.length * 2]? = some (.int .i64 r.1) := by
    have := congrArg (fun l => l[0]?) hr'
    simpa [List.getElem?_take, List.getElem?_drop] using this
  have g1 : cells[ps.length * 2 + 1]? = some (.int .i64 r.2) := by
    have := congrArg (fun l => l[1]?) hr'
    simpa [List.getElem?_take, List.getElem?_drop] using this
  refine ⟨⟨fun _ _ => trivial, cells.set (ps.length * 2 + 1) (.int .i64 y), by simpa using s1, fun i x hx => ⟨?_, trivial⟩⟩, ⟨s2.os, s2.tape, s2.output, s2.size, fun k hk hm => s2.block k hk (fun e => hm (Option.some.inj e))⟩, ?_, ?_, h1.frozenAt _⟩
  · show ((cells.set (ps.length * 2 + 1) (.int .i64 y)).drop (i * 2)).take 2 = [.int .i64 x.1, .int .i64 x.2]
    have hil : i < ps.length + 1 := by have := (List.getElem?_eq_some_iff.1 hx).1; simpa using this
    by_cases hi : i < ps.length
    · have hx' : (ps ++ [r])[i]? = some x := by rw [List.getElem?_append_left hi] at hx ⊢; exact hx
      have h9 : ((cells.drop (i * 2)).take 2) = [.int .i64 x.1, .int .i64 x.2] := (h2 i x hx').1
      rw [← h9]
      apply List.ext_getElem?
      intro j
      by_cases hj : j < 2
      · rw [List.getElem?_take_of_lt hj, List.getElem?_take_of_lt hj, List.getElem?_drop, List.getElem?_drop, List.getElem?_set_ne (by omega)]
      · rw [List.getElem?_eq_none (by rw [List.length_take]; omega), List.getElem?_eq_none (by rw [List.length_take]; omega)]
    · obtain rfl : i = ps.length := by omega
      rw [List.getElem?_append_right (Nat.le_refl _)] at hx
      simp at hx
      subst hx
      apply List.ext_getElem?
      intro j
      simp only [List.length_append, List.length_cons, List.length_nil] at hl
      match j with
      | 0 => rw [List.getElem?_take_of_lt (by omega), List.getElem?_drop, List.getElem?_set_ne (by omega)]; simpa using g0
      | 1 => rw [List.getElem?_take_of_lt (by omega), List.getElem?_drop, List.getElem?_set_self (by omega)]; rfl
      | j + 2 => rw [List.getElem?_eq_none (by rw [List.length_take]; omega)]; rfl
  · rw [h1.cellAt _ (by show ps.length * 2 < (ps ++ [r]).length * 2; rw [List.length_append, List.length_singleton]; omega)]; exact g0
  · rw [h1.cellAt _ (by show ps.length * 2 + 1 < (ps ++ [r]).length * 2; rw [List.length_append, List.length_singleton]; omega)]; exact g1
theorem write_any {B : Nat} (l t : List UInt8) (w : World) (h : Lib.IsBuffer 68 5 B B (Lib.byteCells l) w) (hl : l.length + t.length ≤ 100000) :
    Calls Tryz.prog 38 #[.pointer (some ⟨B, 0, none⟩), .string (strS t)] w fun e w' => e = .returned (.tuple #[.int .i64 (strS t).size, .nilIface]) ∧ Lib.IsBuffer 68 5 B B (Lib.byteCells (l ++ t)) w' ∧ Below B w w' ∧ ∀ c cs, Blk w c 61 cs → c ≠ B → w'.heap[c]? = w.heap[c]? := by
  refine (Any.Buffer_WriteString_k Tryz.laysM178 B B (Lib.byteCells l) (strS t) w h (Nat.le_of_lt h.lt) (Lib.byteCells_one _) (by rw [strS_size]; simp only [Lib.byteCells, List.length_map]; omega)).mono ?_
  rintro e w' ⟨rfl, h2, h3, h4⟩
  refine ⟨rfl, ?_, h3, fun c cs K hc => (h4 c _ K (fun h => hc (Option.some.inj h)) (fun _ _ h => by cases h)).trans K.symm⟩
  rw [Lib.byteCells_append]
  exact h2
theorem Ext.trans' {a b c : World} (h : Ext a b) (k : Below a.heap.size b c) : Ext a c := ⟨k.os.trans h.1, k.tape.trans h.2.1, k.output.trans h.2.2.1, Nat.le_trans h.size k.size, fun i hi => (k.block i hi).trans (h.2.2.2.2 i hi)⟩
theorem write_extX {w w' : World} {B s c : Nat} {cs : List Value} (h : Below B w w') (hk : ∀ c cs, Blk w c 61 cs → c ≠ B → w'.heap[c]? = w.heap[c]?) (K : Blk w c 61 cs) (hc : c ≠ B) (hs : s = B) : ExtX (fun q => s ≤ q ∧ q ≠ c) w w' := by
  subst hs
  refine ⟨h.os, h.tape, h.output, h.size, fun j hj hm => ?_⟩
  by_cases hjs : j < s
  · exact h.block j hjs
  · obtain rfl : j = c := Classical.byContradiction fun h2 => hm ⟨by omega, h2⟩
    exact hk _ _ K hc
noncomputable def ops_25_4 : Array Oper := opsAt Tryz.f25 4
noncomputable def ops_25_11 : Array Oper := opsAt Tryz.f25 11
noncomputable def ops_25_18 : Array Oper := opsAt Tryz.f25 18
set_option maxRecDepth 20000 in
set_option maxHeartbeats 4000000 in
theorem string_any (b : Nat) (ks L : List Int) (w : World) (H : SetI w b ks) (hn : ks.length ≤ 600) (hb : ∀ x ∈ ks, -1099511627776 ≤ x ∧ x ≤ 1099511627776) (hLa : Asc L) (hLm : ∀ x, x ∈ L ↔ x ∈ ks) (hT : TabOk w) :
    Calls Tryz.prog 25 #[setV b] w fun e w' => e = .returned (.string (strS (cpuT (runs L)))) ∧ Ext w w' := by
  have E0 := (Ext.refl w).alloc (.cells #[.map (some b)] 41)
  have HS := Lib.hid (H.extW E0)
  have HK := Lib.hid (Blk.new w 41 [.map (some b)])
  have HT := Lib.hid hT
  have HLm := Lib.hid hLm
  have HLa := Lib.hid hLa
  have HB := Lib.hid (fun x (hx : x ∈ L) => hb x ((hLm x).1 hx))
  have hln : L.length ≤ 600 := Nat.le_trans (nodup_le (asc_nodup hLa) fun x hx => (hLm x).1 hx) hn
  have HND := Lib.hid H.nodup
  clear H hT hLm hLa hb
  go_enter Tryz.func25, Tryz.ntmps25
  go_wp2_with fail
  refine (isEmpty_any b ks _ HS.out).mono ?_
  rintro e w1 ⟨rfl, e1⟩
  have E1 := E0.trans e1
  by_cases h0 : ks.length = 0
  · have hL0 : Hid (L = []) := Lib.hid (List.eq_nil_iff_forall_not_mem.2 fun x hx => by
      have := (HLm.out x).1 hx
      rw [List.eq_nil_of_length_eq_zero h0] at this
      simp at this)
    rw [show decide (ks.length = 0) = true by simp [h0]]
    replace h0 := Lib.hid h0
    go_wp2_with fail
    go_ret
    exact ⟨by rw [hL0.out]; rfl, E1⟩
  rw [show decide (ks.length = 0) = false by simp [h0]]
  have c0 := (HK.out.ext e1).cell (o := 0) rfl
  replace h0 := Lib.hid h0
  go_wp2_with fail
  refine (list_any b ks _ (HS.out.extW e1) (by omega)).mono ?_
  rintro e w2 ⟨v2, l, rfl, hO, hA, hl, e2⟩
  obtain rfl : L = l := (asc_ext hA HLa.out (fun x => by rw [hl, HLm.out])).symm
  have HO := Lib.hid hO.slice
  obtain ⟨A2, c2, rfl, _, _, hA2⟩ := slice_shape hO.slice
  have E2 := E1.trans e2
  have hlp : 0 < L.length := by
    refine Nat.pos_of_ne_zero fun hz => h0.out ?_
    have : ks = [] := List.eq_nil_iff_forall_not_mem.2 fun x hx => by
      have := (HLm.out x).2 hx
      rw [List.eq_nil_of_length_eq_zero hz] at this
      simp at this
    rw [this]; rfl
  obtain ⟨ba, o, rfl⟩ := hA2 (List.ne_nil_of_length_pos hlp)
  have HC := Lib.hid (cells_of hO.slice).2
  clear hO hA hl hA2 c0
  have cz : w2.cell? ⟨ba, o, none⟩ = some (.int .i64 (L.getD 0 0)) := HC.out 0 hlp
  generalize hx0 : L.getD 0 0 = x0 at cz
  replace hx0 := Lib.hid hx0
  go_wp2_with fail
  refine wp_region_sched (ops := ops_25_4) Ext [] (.quiet 0 (.quiet 1 (.quiet 2 (.quiet 3 (.quiet 4 (.quiet 5 (.quiet 6 (.loud 7 (.quiet 8 (.done)) (.stop))))))))) (by kernel_rfl) ext_refl ext_trans (by kernel_rfl) (fun _ _ d _ _ h => by cases d <;> exact h) ?_
  refine wpS_quiet (some 14) { dst := some 14, op := Op.move (Operand.tmp 3), type := _, pos := _, after := _, guard := none } _ rfl rfl (by rfl) (fun wE hE => by (go_simp; try with_reducible rfl)) ?_; simp only [Act.put, List.setIfInBounds_toArray, List.set_cons_zero, List.set_cons_succ]
  refine wpS_quiet (some 15) { dst := some 15, op := Op.indexAddr 22 (Operand.tmp 14) (Operand.const (Value.int IntKind.i64 0)), type := _, pos := _, after := _, guard := none } _ rfl rfl (by rfl) (fun wE hE => by (go_simp; try with_reducible rfl)) ?_; simp only [Act.put, List.setIfInBounds_toArray, List.set_cons_zero, List.set_cons_succ]
  refine wpS_quiet (some 16) { dst := some 16, op := Op.load 3 (Operand.tmp 15), type := _, pos := _, after := _, guard := none } _ rfl rfl (by rfl) (fun wE hE => by (have zk0 := hE.cellS cz; go_simp; try with_reducible rfl)) ?_; simp only [Act.put, List.setIfInBounds_toArray, List.set_cons_zero, List.set_cons_succ]
  refine wpS_quiet (some 17) { dst := some 17, op := Op.move (Operand.tmp 3), type := _, pos := _, after := _, guard := none } _ rfl rfl (by rfl) (fun wE hE => by (go_simp; try with_reducible rfl)) ?_; simp only [Act.put, List.setIfInBounds_toArray, List.set_cons_zero, List.set_cons_succ]
  refine wpS_quiet (some 18) { dst := some 18, op := Op.indexAddr 22 (Operand.tmp 17) (Operand.const (Value.int IntKind.i64 0)), type := _, pos := _, after := _, guard := none } _ rfl rfl (by rfl) (fun wE hE => by (go_simp; try with_reducible rfl)) ?_; simp only [Act.put, List.setIfInBounds_toArray, List.set_cons_zero, List.set_cons_succ]
  refine wpS_quiet (some 19) { dst := some 19, op := Op.load 3 (Operand.tmp 18), type := _, pos := _, after := _, guard := none } _ rfl rfl (by rfl) (fun wE hE => by (have zk0 := hE.cellS cz; go_simp; try with_reducible rfl)) ?_; simp only [Act.put, List.setIfInBounds_toArray, List.set_cons_zero, List.set_cons_succ]
  refine wpS_quiet (some 20) { dst := some 20, op := Op.build 61 #[(0, Operand.tmp 16), (1, Operand.tmp 19)], type := _, pos := _, after := _, guard := none } _ rfl rfl (by rfl) (fun wE hE => by (go_simp; try with_reducible rfl)) ?_; simp only [Act.put, List.setIfInBounds_toArray, List.set_cons_zero, List.set_cons_succ]
  refine wpS_make (some 21) { dst := some 21, op := Op.buildSlice 62 1 #[(0, Operand.tmp 20)], type := _, pos := _, after := _, guard := none } rfl rfl (by rfl) 61 [.int .i64 x0, .int .i64 x0] 1 (by go_simp; try rfl) (fun w' h => h) ?_ trivial
  intro g w3 hg e3 KB
  replace hg := Lib.hid hg
  simp only [Act.put, List.setIfInBounds_toArray, List.set_cons_zero, List.set_cons_succ]
  refine wpS_quiet (some 4) { dst := some 4, op := Op.assign (Operand.tmp 21), type := _, pos := _, after := _, guard := none } _ rfl rfl (by rfl) (fun wE hE => by (go_simp; try with_reducible rfl)) ?_; simp only [Act.put, List.setIfInBounds_toArray, List.set_cons_zero, List.set_cons_succ]
  change Exit.then _ _ _ _ _
  have e3 := e3.undrew
  have hgl : w2.heap.size ≤ g := by rw [hg.out]; exact Nat.le_refl _
  have hO3 := Lib.hid (rg_own (base := w2.heap.size) (e := 61) (rs := [(x0, x0)]) (cap := 1) ⟨_, KB, rfl, rfl⟩ hgl (Nat.le_refl _) (by decide))
  have hr1 : Hid (runs (L.take 1) = [(x0, x0)]) := Lib.hid (by rw [runs_take hlp, ← hx0.out]; simp [runs, addRun, hlp])
  rw [← hr1.out] at hO3
  have hO3 : Hid (OwnP Rp.rg w3 any w2.heap.size 61 (.slice (some ⟨g, 0, none⟩) 1 1) (runs (L.take 1))) := Lib.hid (by have := hO3.out; rw [hr1.out] at this ⊢; exact this)
  clear KB hg cz
  go_wp2_with fail
  go_loopw [4, 5] (fun u4 u5 wr => ∃ i : Nat, u5 = .int .i64 i ∧ 1 ≤ i ∧ i ≤ L.length ∧ Hid (OwnP Rp.rg wr any w2.heap.size 61 u4 (runs (L.take i))) ∧ Hid (Ext w2 wr)) (fun _ i _ => L.length - (intOf i).toNat)
  case atStart => exact ⟨1, rfl, Nat.le_refl _, hlp, hO3, Lib.hid e3⟩
  case round =>
    rename_i u4 u5
    obtain ⟨i, rfl, hi1, hi, hO, hE⟩ := hrel
    by_cases hlt : i < L.length
    · have ce := hE.out.cellS (HC.out i hlt)
      generalize hx : L.getD i 0 = x at ce
      have hxb : -1099511627776 ≤ x ∧ x ≤ 1099511627776 := HB.out x (by rw [← hx]; simp [hlt])
      obtain ⟨ps, r, hps⟩ : ∃ ps r, runs (L.take i) = ps ++ [r] := by
        rcases List.eq_nil_or_concat (runs (L.take i)) with h | ⟨ps, r, h⟩
        · have : runs (L.take (i - 1 + 1)) = addRun (runs (L.take (i - 1))) (L[i - 1]'(by omega)) := runs_take (by omega)
          rw [show i - 1 + 1 = i by omega, h] at this
          exact absurd this.symm (addRun_ne _ _)
        · exact ⟨ps, r, by rw [h, List.concat_eq_append]⟩
      have hrb := (runs_mem_b HB.out i r (by rw [hps]; simp)).2
      have hpl : ps.length ≤ 600 := by have h1 := runs_length (L.take i); rw [hps, List.length_append, List.length_take] at h1; simp at h1; omega
      have hnx : Hid (runs (L.take (i + 1)) = addRun (ps ++ [r]) x) := Lib.hid (by rw [runs_take hlt, hps, show L[i] = x by rw [← hx]; simp [hlt]])
      rw [hps] at hO
      obtain ⟨s, e⟩ := r
      rcases hO.out.form with ⟨_, h⟩ | ⟨g4, cap4, rfl, hg4, hc4, hm4⟩
      · simp at h
      obtain ⟨hO9, X9, r0, r1, rf⟩ := rg_last hO.out x
      have hgl4 := (hO.out.own g4 rfl).2
      have HO4 := Lib.hid hO.out
      have hln4 : (ps ++ [(s, e)]).length = ps.length + 1 := by simp
      rw [hln4] at HO4 hO9 ⊢
      have HO9 := Lib.hid hO9
      have HX9 := Lib.hid X9
      have wx : IntKind.i64.wrap (e + 1) = e + 1 := by rw [IntKind.wrap_i64]; have := hrb; simp only at this; omega
      replace hx := Lib.hid hx
      replace hps := Lib.hid hps
      clear hO hO9 X9 hln4
      have hbag : ¬ ba = g4 := by have h1 : ba < w2.heap.size := cell_lt (HC.out i hlt); omega
      by_cases hxe : x = e + 1
      · have t1 : (x == e + 1) = true := by simp [hxe]
        have t2 : (x = e + 1) = True := by simp [hxe]
        have hn2 : Hid (runs (L.take (i + 1)) = ps ++ [(s, x)]) := Lib.hid (by rw [hnx.out, hxe]; exact addRun_grow ps s e)
        replace hxe := Lib.hid hxe
        go_wp2_with fail
        go_quiet (fail)
        go_wp2_with fail
        go_roundw
        case rel =>
          have ED : Ext (wr.setCell ⟨g4, ps.length * 2 + 1, none⟩ (.int .i64 x)) ((wr.drewN nq).setCell ⟨g4, ps.length * 2 + 1, none⟩ (.int .i64 x)) := ⟨rfl, rfl, rfl, Nat.le_refl _, fun _ _ => rfl⟩
          exact ⟨i + 1, by go_num, by omega, by omega, Lib.hid (by rw [hn2.out]; exact HO9.out.ext ED), Lib.hid ((((hE.out.toX _).trans HX9.out).toExt (fun k hk => by have hk : k = g4 := hk; omega)).trans ED)⟩
        case measure => simp [intOf]; omega
      · have t1 : (x == e + 1) = false := by simp [hxe]
        have t2 : (x = e + 1) = False := by simp [hxe]
        have hn2 : Hid (runs (L.take (i + 1)) = ps ++ [(s, e)] ++ [(x, x)]) := Lib.hid (by rw [hnx.out]; exact addRun_new ps s e x hxe)
        replace hxe := Lib.hid hxe
        clear HO9 HX9
        go_wp2_with fail
        go_quiet (fail)
        go_wp2_with fail
        have HO5 := Lib.hid (HO4.out.ext ((Ext.refl wr).drewN nq))
        have ce5 : (wr.drewN nq).cell? ⟨ba, o + i, none⟩ = some (.int .i64 x) := ce
        have hE5 := Lib.hid (hE.out.drewN nq)
        have hgl5 : g4 < (wr.drewN nq).heap.size := hgl4
        have hw5 : w2.heap.size ≤ (wr.drewN nq).heap.size := hE.out.size
        generalize wr.drewN nq = wq at HO5 ce5 hE5 hgl5 hw5 ⊢
        clear HO4 ce hE hgl4 r0 r1 rf t1 t2 wx
        obtain ⟨i0, hi, hz0, hz1, hz2⟩ := info_parts3 infoRg
        refine wp_region_sched (ops := ops_25_11) (ExtX (fun q => q = g4)) [] (.quiet 0 (.quiet 1 (.quiet 2 (.quiet 3 (.quiet 4 (.quiet 5 (.quiet 6 (.quiet 7 (.quiet 8 (.quiet 9 (.loud 10 (.loud 11 (.quiet 12 (.done)) (.stop)) (.stop)))))))))))) (by kernel_rfl) (ExtX.refl (fun q => q = g4)) (fun _ _ _ => ExtX.trans) (by kernel_rfl) (fun _ _ d _ _ h => by cases d <;> exact h) ?_
        refine wpS_quiet (some 50) { dst := some 50, op := Op.move (Operand.tmp 4), type := _, pos := _, after := _, guard := none } _ rfl rfl (by rfl) (fun wE hE => by (go_simp; try with_reducible rfl)) ?_; simp only [Act.put, List.setIfInBounds_toArray, List.set_cons_zero, List.set_cons_succ]
        refine wpS_quiet (some 51) { dst := some 51, op := Op.move (Operand.tmp 3), type := _, pos := _, after := _, guard := none } _ rfl rfl (by rfl) (fun wE hE => by (go_simp; try with_reducible rfl)) ?_; simp only [Act.put, List.setIfInBounds_toArray, List.set_cons_zero, List.set_cons_succ]
        refine wpS_quiet (some 52) { dst := some 52, op := Op.move (Operand.tmp 5), type := _, pos := _, after := _, guard := none } _ rfl rfl (by rfl) (fun wE hE => by (go_simp; try with_reducible rfl)) ?_; simp only [Act.put, List.setIfInBounds_toArray, List.set_cons_zero, List.set_cons_succ]
        refine wpS_quiet (some 53) { dst := some 53, op := Op.indexAddr 22 (Operand.tmp 51) (Operand.tmp 52), type := _, pos := _, after := _, guard := none } _ rfl rfl (by rfl) (fun wE hE => by (go_simp; try with_reducible rfl)) ?_; simp only [Act.put, List.setIfInBounds_toArray, List.set_cons_zero, List.set_cons_succ]
        refine wpS_quiet (some 54) { dst := some 54, op := Op.load 3 (Operand.tmp 53), type := _, pos := _, after := _, guard := none } _ rfl rfl (by rfl) (fun wE hE => by (have zk0 := hE.cellS hbag ce5; go_simp; try with_reducible rfl)) ?_; simp only [Act.put, List.setIfInBounds_toArray, List.set_cons_zero, List.set_cons_succ]
        refine wpS_quiet (some 55) { dst := some 55, op := Op.move (Operand.tmp 3), type := _, pos := _, after := _, guard := none } _ rfl rfl (by rfl) (fun wE hE => by (go_simp; try with_reducible rfl)) ?_; simp only [Act.put, List.setIfInBounds_toArray, List.set_cons_zero, List.set_cons_succ]
        refine wpS_quiet (some 56) { dst := some 56, op := Op.move (Operand.tmp 5), type := _, pos := _, after := _, guard := none } _ rfl rfl (by rfl) (fun wE hE => by (go_simp; try with_reducible rfl)) ?_; simp only [Act.put, List.setIfInBounds_toArray, List.set_cons_zero, List.set_cons_succ]
        refine wpS_quiet (some 57) { dst := some 57, op := Op.indexAddr 22 (Operand.tmp 55) (Operand.tmp 56), type := _, pos := _, after := _, guard := none } _ rfl rfl (by rfl) (fun wE hE => by (go_simp; try with_reducible rfl)) ?_; simp only [Act.put, List.setIfInBounds_toArray, List.set_cons_zero, List.set_cons_succ]
        refine wpS_quiet (some 58) { dst := some 58, op := Op.load 3 (Operand.tmp 57), type := _, pos := _, after := _, guard := none } _ rfl rfl (by rfl) (fun wE hE => by (have zk0 := hE.cellS hbag ce5; go_simp; try with_reducible rfl)) ?_; simp only [Act.put, List.setIfInBounds_toArray, List.set_cons_zero, List.set_cons_succ]
        refine wpS_quiet (some 59) { dst := some 59, op := Op.build 61 #[(0, Operand.tmp 54), (1, Operand.tmp 58)], type := _, pos := _, after := _, guard := none } _ rfl rfl (by rfl) (fun wE hE => by (go_simp; try with_reducible rfl)) ?_; simp only [Act.put, List.setIfInBounds_toArray, List.set_cons_zero, List.set_cons_succ]
        refine wpS_make (some 60) { dst := some 60, op := Op.buildSlice 62 1 #[(0, Operand.tmp 59)], type := _, pos := _, after := _, guard := none } rfl rfl (by rfl) 61 [.int .i64 x, .int .i64 x] 1 (by go_simp; try rfl) (fun w' h => h.toX _) ?_ trivial
        intro b5 w5 hb5 e5 KB5
        replace hb5 := Lib.hid hb5
        simp only [Act.put, List.setIfInBounds_toArray, List.set_cons_zero, List.set_cons_succ]
        obtain ⟨v9, w9, hr9, O9, G9⟩ := run_app_own (P := Tryz.prog) (d := Rp.rg) (w := w5) 62 62 61 i0 _ 16 Tryz.underlying62 hi hz0 hz1 hz2 rfl (HO5.out.ext e5.undrew) (slice_of_blk (d := Rp.rg) (ok := fun k => k = b5) (cap := 1) (xs := [(x, x)]) KB5 rfl (show 1 * 2 ≤ 2 by decide) (fun i y hy => by
          obtain ⟨hi, rfl⟩ := List.getElem?_eq_some_iff.1 hy
          obtain rfl : i = 0 := by simp at hi; omega
          exact ⟨rfl, trivial⟩) (Nat.le_refl _) (by decide)) (fun k hk he => by
            simp only [Value.ownBlock, Option.some.injEq] at he
            have h8 : b5 = wq.heap.size := hb5.out
            omega) (by simp [maxLen]; omega) (by simp; omega) (by have := e5.undrew.size; omega)
        have X9 : ExtX (fun q => q = g4) w5 w9 := ((Ext.refl w5).toX _).grown G9 (fun q h => by simpa [Value.ownBlock] using h.symm)
        refine wpS_upd (some 61) { dst := some 61, op := Op.call { callee := Callee.builtin Builtin.append, args := #[Operand.tmp 50, Operand.tmp 60], argTypes := #[62, 62] }, type := _, pos := _, after := _, guard := none } rfl rfl (by rfl) ?_ trivial
        refine ⟨_, w9, exec_app (.tmp 50) (.tmp 60) 62 rfl rfl rfl hr9, X9, ?_⟩
        simp only [Act.put, List.setIfInBounds_toArray, List.set_cons_zero, List.set_cons_succ]
        refine wpS_quiet (some 4) { dst := some 4, op := Op.assign (Operand.tmp 61), type := _, pos := _, after := _, guard := none } _ rfl rfl (by rfl) (fun wE hE => by (go_simp; try with_reducible rfl)) ?_; simp only [Act.put, List.setIfInBounds_toArray, List.set_cons_zero, List.set_cons_succ]
        change Exit.inBlock _ _ _ _ _
        have O9 := Lib.hid O9
        clear hr9 G9
        go_wp2_with fail
        go_roundw
        case rel => exact ⟨i + 1, by go_num, by omega, by omega, Lib.hid (by rw [hn2.out]; exact O9.out), Lib.hid ((((hE5.out.trans e5.undrew).toX _).trans X9).toExt (fun k hk => by have hk : k = g4 := hk; omega))⟩
        case measure => simp [intOf]; omega
    · obtain rfl : i = L.length := by omega
      have hTL : Hid (L.take L.length = L) := Lib.hid List.take_length
      obtain ⟨RS, hRS⟩ : ∃ RS, RS = runs L := ⟨_, rfl⟩
      have hO' := hO.out
      rw [hTL.out, ← hRS] at hO'
      have hrb := Lib.hid (by have := runs_mem_b HB.out L.length; rw [hTL.out, ← hRS] at this; exact this)
      have hRn : RS.length ≤ 600 := by rw [hRS]; exact Nat.le_trans (runs_length L) hln
      have hRne : Hid (RS ≠ []) := Lib.hid (by
        intro h
        have : runs (L.take (L.length - 1 + 1)) = addRun (runs (L.take (L.length - 1))) (L[L.length - 1]'(by omega)) := runs_take (by omega)
        rw [show L.length - 1 + 1 = L.length by omega, hTL.out, ← hRS, h] at this
        exact absurd this.symm (addRun_ne _ _))
      obtain ⟨A4, n4, cap4, rfl⟩ := own_shape hO'
      obtain ⟨A5, c5, hv5, _, _, hA5⟩ := slice_shape hO'.slice
      simp only [Value.slice.injEq] at hv5
      obtain ⟨rfl, rfl, rfl⟩ := hv5
      obtain ⟨g4, o4, rfl⟩ := hA5 hRne.out
      have hrow := Lib.hid hO'.slice
      have hgl : g4 < wr.heap.size := (hO'.own g4 rfl).2
      replace hRS := Lib.hid hRS
      have hws := hE.out.size
      have HT3 := Lib.hid (HT.out.ext (E2.trans hE.out))
      clear hO hO' hA5 hTL
      have hBf := Lib.hid (Lib.fresh_isBuffer 68 5 wr)
      have hEb := (Ext.refl wr).alloc (.cells #[.slice none 0 0, .int .i64 0, .int .i8 0] 68)
      obtain ⟨wo, rfl⟩ : ∃ wo : World, wo = wr := ⟨_, rfl⟩
      go_wp2_with fail
      go_loopw [64] (fun u64 wx => ∃ k : Nat, u64 = .int .i64 k ∧ k ≤ RS.length ∧ Hid (Lib.IsBuffer 68 5 wo.heap.size wo.heap.size (Lib.byteCells (flat (RS.take k))) wx) ∧ Hid (Ext wo wx)) (fun u64 _ => RS.length - (intOf u64).toNat)
      case atStart => exact ⟨0, rfl, Nat.zero_le _, hBf, Lib.hid hEb⟩
      case round =>
        rename_i u64
        obtain ⟨k, rfl, hk, hI, hX⟩ := hrel
        have hIl := hI.out.lt
        have hfl := flat_len (RS.take k) (fun r hr => hrb.out r (List.mem_of_mem_take hr))
        rw [List.length_take] at hfl
        by_cases hkl : k < RS.length
        · obtain ⟨s, e, hr⟩ : ∃ s e, RS[k]? = some (s, e) := ⟨RS[k].1, RS[k].2, List.getElem?_eq_getElem hkl⟩
          obtain ⟨A6, c6, hv6, _, _, _, hrw⟩ := hrow.out
          simp only [List.cons.injEq, Value.slice.injEq, and_true] at hv6
          obtain ⟨rfl, _, rfl⟩ := hv6
          obtain ⟨_, hcc⟩ := flat_at hrw rfl hr hX.out
          have q0 := hcc 0 _ rfl
          have q1 := hcc 1 _ rfl
          simp only [Nat.add_zero, ← Nat.add_assoc] at q0 q1
          have hbd := hrb.out (s, e) (List.mem_of_getElem? hr)
          have hsn : Hid (flat (RS.take (k + 1)) = flat (RS.take k) ++ (rtext (s, e) ++ [44])) := Lib.hid (by rw [take_snoc' hr, flat_snoc])
          have zs : (strS (itoa s)).size ≤ 14 := itoa_len s hbd.1.1 hbd.1.2
          have ze : (strS (itoa e)).size ≤ 14 := itoa_len e hbd.2.1 hbd.2.2
          have K9 := Blk.new wr 61 [.int .i64 s, .int .i64 e]
          have EX := (Ext.refl wr).alloc (.cells #[.int .i64 s, .int .i64 e] 61)
          clear hcc hrw hr
          by_cases hse : s = e
          · have hrt : Hid (rtext (s, e) = itoa s) := Lib.hid (by simp [rtext, hse])
            have t1 : (s == e) = true := by simp [hse]
            have t2 : (s = e) = True := by simp [hse]
            replace hse := Lib.hid hse
            go_wp2_with fail
            refine (itoa_any s hbd.1.1 hbd.1.2 _ (HT3.out.ext (hX.out.trans EX))).mono ?_
            rintro e' w5 ⟨rfl, e5⟩
            have hI5 := Lib.hid (isBuf_ext hI.out (EX.trans e5))
            have E5 := Lib.hid (hX.out.trans (EX.trans e5))
            clear q0 q1 K9 EX e5
            go_wp2_with fail
            refine (write_any (flat (RS.take k)) (itoa s) _ hI5.out (by have : (itoa s).length ≤ 14 := zs; omega)).mono ?_
            rintro e' w6 ⟨rfl, hI6', b6, _⟩
            have hI6 := Lib.hid hI6'
            have E6 := Lib.hid (E5.out.trans' b6)
            rw [← hrt.out] at hI6
            clear hI6' b6
            go_wp2_with fail
            refine (write_any (flat (RS.take k) ++ rtext (s, e)) [44] _ hI6.out (by have : (itoa s).length ≤ 14 := zs; have : (itoa e).length ≤ 14 := ze; rw [hrt.out]; simp; omega)).mono ?_
            rintro e' w7 ⟨rfl, hI7', b7, _⟩
            have hI7 : Hid (Lib.IsBuffer 68 5 wo.heap.size wo.heap.size (Lib.byteCells (flat (RS.take (k + 1)))) w7) := Lib.hid (by rw [hsn.out, ← List.append_assoc]; exact hI7')
            have E7 := Lib.hid (E6.out.trans' b7)
            clear hI7' b7
            go_wp2_with fail
            go_roundw
            case rel => exact ⟨k + 1, by go_num, by omega, hI7, E7⟩
            case measure => simp [intOf]; omega
          · have hrt : Hid (rtext (s, e) = itoa s ++ 45 :: itoa e) := Lib.hid (by simp [rtext, hse])
            have t1 : (s == e) = false := by simp [hse]
            have t2 : (s = e) = False := by simp [hse]
            replace hse := Lib.hid hse
            go_wp2_with fail
            obtain ⟨wq, hwq⟩ : ∃ wq, wq = wr.alloc (.cells [Value.int .i64 s, .int .i64 e].toArray 61) := ⟨_, rfl⟩
            change Code.wp _ _ _ _ (wr.alloc (.cells [Value.int .i64 s, .int .i64 e].toArray 61))
            rw [← hwq] at K9 ⊢
            have EX : Ext wr wq := by rw [hwq]; exact EX
            have d0 := K9.cell (o := 0) rfl
            have d1 := K9.cell (o := 1) rfl
            have hbig := EX.size
            have hIq := Lib.hid (isBuf_ext hI.out EX)
            have E4 := Lib.hid (hX.out.trans EX)
            obtain ⟨sB, hsB⟩ : ∃ sB, sB = wo.heap.size := ⟨_, rfl⟩
            have hsl : sB ≤ wq.drew.heap.size := by show sB ≤ wq.heap.size; omega
            have k1 : ¬ 9223372036854775807 < (strS (itoa s)).size + 1 := by omega
            have k2 : ¬ 9223372036854775807 < (strS (itoa s)).size + 1 + (strS (itoa e)).size := by omega
            replace hsB := Lib.hid hsB
            have hd9 : wr.heap.size < wq.heap.size := K9.lt
            clear hwq q0 q1
            obtain ⟨c9, hc9⟩ : ∃ c9, c9 = wr.heap.size := ⟨_, rfl⟩
            rw [← hc9] at K9 d0 d1 hd9 ⊢
            have hc9s : sB < c9 := by have := hIl; have := hsB.out; omega
            have hnM : ¬ (sB ≤ c9 ∧ c9 ≠ c9) := fun h => h.2 rfl
            replace hc9 := Lib.hid hc9
            have hq9 := Lib.hid K9
            clear K9
            refine wp_region_sched (ops := ops_25_18) (ExtX (fun q => sB ≤ q ∧ q ≠ c9)) [] (.quiet 0 (.quiet 1 (.quiet 4 (.quiet 5 (.loud 2 (.quiet 3 (.loud 6 (.quiet 7 (.loud 8 (.done) (.stop))) (.stop))) (.stop)))))) (by kernel_rfl) (ExtX.refl (fun q => sB ≤ q ∧ q ≠ c9)) (fun _ _ _ => ExtX.trans) (by kernel_rfl) (fun _ _ d _ _ h => by cases d <;> exact h) ?_
            refine wpS_quiet (some 77) { dst := some 77, op := Op.fieldAddr 61 (Operand.tmp 9) 0, type := _, pos := _, after := _, guard := none } _ rfl rfl (by rfl) (fun wE hE => by (go_simp; try with_reducible rfl)) ?_; simp only [Act.put, List.setIfInBounds_toArray, List.set_cons_zero, List.set_cons_succ]
            refine wpS_quiet (some 78) { dst := some 78, op := Op.load 3 (Operand.tmp 77), type := _, pos := _, after := _, guard := none } _ rfl rfl (by rfl) (fun wE hE => by (have zk0 := hE.cellS hnM d0; have zk1 := hE.cellS hnM d1; go_simp; try with_reducible rfl)) ?_; simp only [Act.put, List.setIfInBounds_toArray, List.set_cons_zero, List.set_cons_succ]
            refine wpS_quiet (some 81) { dst := some 81, op := Op.fieldAddr 61 (Operand.tmp 9) 1, type := _, pos := _, after := _, guard := none } _ rfl rfl (by rfl) (fun wE hE => by (go_simp; try with_reducible rfl)) ?_; simp only [Act.put, List.setIfInBounds_toArray, List.set_cons_zero, List.set_cons_succ]
            refine wpS_quiet (some 82) { dst := some 82, op := Op.load 3 (Operand.tmp 81), type := _, pos := _, after := _, guard := none } _ rfl rfl (by rfl) (fun wE hE => by (have zk0 := hE.cellS hnM d0; have zk1 := hE.cellS hnM d1; go_simp; try with_reducible rfl)) ?_; simp only [Act.put, List.setIfInBounds_toArray, List.set_cons_zero, List.set_cons_succ]
            refine wpS_call (some 79) { dst := some 79, op := Op.call { callee := Callee.value (Operand.func 39), args := #[Operand.tmp 78], argTypes := #[3] }, type := _, pos := _, after := _, guard := none } 39 _ rfl rfl (by rfl) (by go_simp; try first | with_reducible rfl | exact ⟨rfl, rfl⟩) ?_
            refine (itoa_any s hbd.1.1 hbd.1.2 _ ((HT3.out.ext E4.out).ext ((Ext.refl wq).drew))).mono ?_; rintro e' w5 ⟨rfl, e5⟩; refine ⟨_, rfl, (e5.toX _), ?_⟩; simp only [Act.put, List.setIfInBounds_toArray, List.set_cons_zero, List.set_cons_succ]
            refine wpS_quiet (some 80) { dst := some 80, op := Op.binOp BinOp.add 9 (Operand.tmp 79) (Operand.const (Value.string { data := #[45] })) 9, type := _, pos := _, after := _, guard := none } _ rfl rfl (by rfl) (fun wE hE => by (go_simp; try with_reducible rfl)) ?_; simp only [Act.put, List.setIfInBounds_toArray, List.set_cons_zero, List.set_cons_succ]
            refine wpS_call (some 83) { dst := some 83, op := Op.call { callee := Callee.value (Operand.func 39), args := #[Operand.tmp 82], argTypes := #[3] }, type := _, pos := _, after := _, guard := none } 39 _ rfl rfl (by rfl) (by go_simp; try first | with_reducible rfl | exact ⟨rfl, rfl⟩) ?_
            refine (itoa_any e hbd.2.1 hbd.2.2 _ (HT3.out.ext (E4.out.trans e5.undrew))).mono ?_; rintro e' w6 ⟨rfl, e6⟩; refine ⟨_, rfl, (e6.toX _), ?_⟩; simp only [Act.put, List.setIfInBounds_toArray, List.set_cons_zero, List.set_cons_succ]
            refine wpS_quiet (some 84) { dst := some 84, op := Op.binOp BinOp.add 9 (Operand.tmp 80) (Operand.tmp 83) 9, type := _, pos := _, after := _, guard := none } _ rfl rfl (by rfl) (fun wE hE => by (go_simp; try with_reducible rfl)) ?_; simp only [Act.put, List.setIfInBounds_toArray, List.set_cons_zero, List.set_cons_succ]
            have hcat : Hid (strS (itoa s) ++ ({ data := #[45] } : ByteArray) ++ strS (itoa e) = strS (rtext (s, e))) := Lib.hid (by
              rw [hrt.out, show (({ data := #[45] } : ByteArray)) = strS [45] from rfl, strS_add, strS_add]
              simp)
            have hI6 := Lib.hid (isBuf_ext hIq.out (e5.undrew.trans e6))
            have hrl : Hid ((rtext (s, e)).length ≤ 29) := Lib.hid (by rw [hrt.out, List.length_append, List.length_cons]; have : (itoa s).length ≤ 14 := zs; have : (itoa e).length ≤ 14 := ze; omega)
            refine wpS_call (some 85) { dst := some 85, op := Op.call { callee := Callee.value (Operand.func 38), args := #[Operand.tmp 7, Operand.tmp 84], argTypes := #[68, 9] }, type := _, pos := _, after := _, guard := none } 38 _ rfl rfl (by rfl) (by go_simp; try first | with_reducible rfl | exact ⟨rfl, rfl⟩) ?_
            rw [hcat.out]; refine (write_any (flat (RS.take k)) (rtext (s, e)) _ hI6.out (by have := hrl.out; omega)).mono ?_; rintro e' w7 ⟨rfl, hI7', b7, hk7⟩; refine ⟨_, rfl, (write_extX b7 hk7 (hq9.out.ext (e5.undrew.trans e6)) (by have := hsB.out; omega) hsB.out), ?_⟩; simp only [Act.put, List.setIfInBounds_toArray, List.set_cons_zero, List.set_cons_succ]
            change Exit.then _ _ _ _ _
            have E6 := Lib.hid (((E4.out.trans e5.undrew).trans e6).trans' b7)
            have hI6 := Lib.hid hI7'
            clear hI7' b7 hk7 e5 e6
            go_wp2_with fail
            refine (write_any (flat (RS.take k) ++ rtext (s, e)) [44] _ hI6.out (by have : (itoa s).length ≤ 14 := zs; have : (itoa e).length ≤ 14 := ze; rw [hrt.out]; simp; omega)).mono ?_
            rintro e' w7 ⟨rfl, hI7', b7, _⟩
            have hI7 : Hid (Lib.IsBuffer 68 5 wo.heap.size wo.heap.size (Lib.byteCells (flat (RS.take (k + 1)))) w7) := Lib.hid (by rw [hsn.out, ← List.append_assoc]; exact hI7')
            have E7 := Lib.hid (E6.out.trans' b7)
            clear hI7' b7
            go_wp2_with fail
            go_roundw
            case rel => exact ⟨k + 1, by go_num, by omega, hI7, E7⟩
            case measure => simp [intOf]; omega
        · obtain rfl : k = RS.length := by omega
          have hTL : Hid (RS.take RS.length = RS) := Lib.hid List.take_length
          have hI9 := hI.out
          rw [hTL.out] at hI9
          have hI9 := Lib.hid hI9
          have hfe := Lib.hid (flat_eq RS hRne.out)
          go_wp2_with fail
          refine (Any.Buffer_String Tryz.laysM182 wo.heap.size wo.heap.size (flat RS) _ hI9.out).mono ?_
          rintro e' w5 ⟨rfl, nn, rfl⟩
          go_wp2_with fail
          have hcl : (cpuT RS).length ≤ 100000 := by
            have h1 : (cpuT RS).length ≤ (flat RS).length := by
              unfold cpuT
              rw [List.length_dropLast]
              omega
            have h2 := flat_len RS (fun r hr => hrb.out r hr)
            omega
          have htr := trim_any (cpuT RS) (cpuT_ne RS hRne.out) (cpuT_last RS) hcl (wr.drewN nn)
          rw [← hfe.out] at htr
          refine htr.mono ?_
          rintro e' w6 ⟨rfl, e6⟩
          go_wp2_with fail
          go_ret
          refine ⟨?_, ((E2.trans hE.out).trans hX.out).trans (((Ext.refl wr).drewN nn).trans e6)⟩
          show _ = Ending.returned (.string (strS (cpuT (runs L))))
          rw [← hRS.out]
          rfl
set_option maxRecDepth 20000 in
theorem cpuText_any (xs : List Int) (v : Value) (w : World) (h : (Rp.slice Rp.iv).K w any xs [v]) (hn : xs.length ≤ 300) (hb : ∀ x ∈ xs, -1099511627776 ≤ x ∧ x ≤ 1099511627776) (hT : TabOk w) :
    Calls Tryz.prog 9 #[v] w fun e w' => e = .returned (.string (strS (cpuT (runs (rising xs))))) ∧ Ext w w' := by
  have HX := Lib.hid h
  have HT := Lib.hid hT
  have HB := Lib.hid hb
  clear h hT hb
  go_enter Tryz.func9, Tryz.ntmps9
  go_wp2_with fail
  refine (new_any xs v _ HX.out).mono ?_
  rintro e w1 ⟨b, rfl, hbl, hS, e1⟩
  have HS := Lib.hid hS
  have hmi : ∀ x, x ∈ insAll [] xs ↔ x ∈ xs := fun x => by rw [mem_insAll]; simp
  have hln : (insAll [] xs).length ≤ 300 := Nat.le_trans (nodup_le hS.nodup fun x hx => (hmi x).1 hx) hn
  clear hS
  go_wp2_with fail
  refine (string_any b _ (rising xs) _ HS.out (by omega) (fun x hx => HB.out x ((hmi x).1 hx)) (rising_asc xs) (fun x => by rw [mem_rising, hmi]) (HT.out.ext e1)).mono ?_
  rintro e w2 ⟨rfl, e2⟩
  go_wp2_with fail
  go_ret
  exact ⟨rfl, e1.trans e2⟩
end Go.Proofs.YtfefnflcgkanpaaGreatDoor
