/-
  A stable sort of few hashes (insertion sort alone).
-/
import Derived.Test.YthnhgfpkmbgkdaaCv
import Derived.Deep.Cut
namespace Go.Proofs.Ythnhgfpkmbgkdaa
open Go.RowKit
set_option linter.unusedSimpArgs false
set_option linter.unusedVariables false

noncomputable def ops_71_4 : Array Oper := opsAt Try.f71 4
noncomputable def ops_71_6 : Array Oper := opsAt Try.f71 6
/-- put into a list that stands the other way round -/
def insR (x : HsD) : List HsD → List HsD
  | [] => [x]
  | y :: ys => if y.rev < x.rev then y :: insR x ys else x :: y :: ys
def sortR (l : List HsD) : List HsD := l.foldl (fun r x => insR x r) []
/-- the hashes, later revisions first -/
def sortD (l : List HsD) : List HsD := (sortR l).reverse
theorem insR_len (x : HsD) : ∀ l, (insR x l).length = l.length + 1
  | [] => rfl
  | y :: ys => by unfold insR; split <;> simp [insR_len x ys]
theorem sortR_snoc (l : List HsD) (x : HsD) : sortR (l ++ [x]) = insR x (sortR l) := by unfold sortR; rw [List.foldl_append]; rfl
theorem foldR_len (l : List HsD) : ∀ r : List HsD, (l.foldl (fun r x => insR x r) r).length = r.length + l.length := by
  induction l with
  | nil => intro r; rfl
  | cons x l ih => intro r; rw [List.foldl_cons, ih, insR_len, List.length_cons]; omega
theorem sortR_len (l : List HsD) : (sortR l).length = l.length := by unfold sortR; rw [foldR_len]; simp
theorem sortD_len (l : List HsD) : (sortD l).length = l.length := by unfold sortD; rw [List.length_reverse, sortR_len]
def flC (l : List HsD) : List Value := l.flatMap hsCells
theorem flC_len (l : List HsD) : (flC l).length = l.length * 3 := by
  induction l with
  | nil => rfl
  | cons x l ih => simp [flC] at ih ⊢; omega
theorem flC_append (l m : List HsD) : flC (l ++ m) = flC l ++ flC m := by simp [flC]
theorem flC_split {l : List HsD} {j : Nat} {x : HsD} (h : l[j]? = some x) : l = l.take j ++ x :: l.drop (j + 1) ∧ (flC (l.take j)).length = j * 3 := by
  obtain ⟨hj, rfl⟩ := List.getElem?_eq_some_iff.1 h
  refine ⟨by rw [← List.drop_eq_getElem_cons hj, List.take_append_drop], ?_⟩
  rw [flC_len, List.length_take]; omega
theorem flC_get {l : List HsD} {rest : List Value} {j : Nat} {x : HsD} (h : l[j]? = some x) {k : Nat} {v : Value} (hv : (hsCells x)[k]? = some v) : (flC l ++ rest)[j * 3 + k]? = some v := by
  obtain ⟨h1, h2⟩ := flC_split h
  have hk : k < 3 := (List.getElem?_eq_some_iff.1 hv).1
  rw [h1, flC_append, List.append_assoc, List.getElem?_append_right (by omega), h2, Nat.add_sub_cancel_left]
  have : flC (x :: l.drop (j + 1)) = hsCells x ++ flC (l.drop (j + 1)) := rfl
  rw [this, List.append_assoc, List.getElem?_append_left (by simpa using hk)]
  exact hv
theorem flC_over {l : List HsD} {rest : List Value} {j : Nat} (x : HsD) (h : j < l.length) : over (j * 3) (hsCells x) (flC l ++ rest) = flC (l.set j x) ++ rest := by
  obtain ⟨y, hy⟩ : ∃ y, l[j]? = some y := ⟨_, List.getElem?_eq_getElem h⟩
  obtain ⟨h1, h2⟩ := flC_split hy
  have h3 : l.set j x = l.take j ++ x :: l.drop (j + 1) := by rw [List.set_eq_take_append_cons_drop]; simp [h]
  have h4 : flC l ++ rest = flC (l.take j) ++ (hsCells y ++ (flC (l.drop (j + 1)) ++ rest)) := by
    conv => lhs; rw [h1]
    simp [flC, List.append_assoc]
  rw [h3, h4]
  unfold over
  rw [List.take_append_of_le_length (by omega), List.take_of_length_le (by omega)]
  have h5 : (flC (l.take j) ++ (hsCells y ++ (flC (l.drop (j + 1)) ++ rest))).drop (j * 3 + (hsCells x).length) = flC (l.drop (j + 1)) ++ rest := by
    have h6 : (flC (l.take j) ++ hsCells y).length = j * 3 + (hsCells x).length := by rw [List.length_append, h2]; rfl
    rw [← List.append_assoc, ← h6, List.drop_left]
  rw [h5]
  simp [flC, List.append_assoc]
set_option maxRecDepth 20000 in
set_option maxHeartbeats 2000000 in
theorem ins_any (l : List HsD) (g cap : Nat) (rest : List Value) (w : World) (K : Blk w g 55 (flC l ++ rest)) (hl : l.length ≤ 1000) :
    Calls Try.prog 71 #[.slice (some ⟨g, 0, none⟩) l.length cap, .int .i64 0, .int .i64 l.length, .func (.func 57) #[] #[]] w fun e w' => e = .returned (.tuple #[]) ∧ Blk w' g 55 (flC (sortD l) ++ rest) ∧ ExtX (fun k => k = g) w w' := by
  have HK := Lib.hid K
  clear K
  go_enter Try.func71, Try.ntmps71
  go_wp2_with fail
  go_loopw [8] (fun i wr => ∃ k : Nat, i = .int .i64 k ∧ 1 ≤ k ∧ k ≤ l.length + 1 ∧ Hid (Blk wr g 55 (flC ((sortR (l.take k)).reverse ++ l.drop k) ++ rest)) ∧ ExtX (fun k => k = g) w wr) (fun i _ => l.length + 1 - (intOf i).toNat)
  case atStart =>
    refine ⟨1, rfl, Nat.le_refl _, by omega, Lib.hid ?_, ExtX.refl _ _⟩
    have : (sortR (l.take 1)).reverse ++ l.drop 1 = l := by cases l <;> rfl
    rw [this]; exact HK.out
  case round =>
    obtain ⟨k, rfl, hk1, hk2, HB, hE⟩ := hrel
    by_cases hlt : k < l.length
    · obtain ⟨x, hx⟩ : ∃ x, l[k]? = some x := ⟨_, List.getElem?_eq_getElem hlt⟩
      have hx := Lib.hid hx
      go_wp2_with fail
      go_loopw [9] (fun jv wi => ∃ P S : List HsD, jv = .int .i64 P.length ∧ P.length + S.length = k ∧ Hid (insR x (sortR (l.take k)) = S.reverse ++ insR x P.reverse) ∧ Hid (Blk wi g 55 (flC (P ++ x :: (S ++ l.drop (k + 1))) ++ rest)) ∧ ExtX (fun k => k = g) w wi) (fun j _ => (intOf j).toNat)
      case atStart =>
        refine ⟨(sortR (l.take k)).reverse, [], ?_, ?_, Lib.hid ?_, Lib.hid ?_, hE⟩
        · rw [List.length_reverse, sortR_len, List.length_take, Nat.min_eq_left (by omega)]
        · rw [List.length_reverse, sortR_len, List.length_take, Nat.min_eq_left (by omega)]; rfl
        · rw [List.reverse_reverse]; rfl
        · have := HB.out
          rw [List.drop_eq_getElem_cons hlt] at this
          have h9 := (List.getElem?_eq_some_iff.1 hx.out).2
          rw [h9] at this
          exact this
      case round =>
        obtain ⟨P, S, rfl, hPS, hI, HBi, hEi⟩ := hrel
        rcases List.eq_nil_or_concat P with rfl | ⟨P', y, rfl⟩
        · go_wp2_with fail
          refine wp_region_sched (ops := ops_71_4) Ext [] (.quiet 0 (.quiet 1 (.quiet 2 (.quiet 3 (.quiet 4 (.quiet 5 (.quiet 6 (.quiet 7 (.quiet 8 (.quiet 9 (.quiet 10 (.quiet 11 (.quiet 12 (.quiet 13 (.loud 14 (.quiet 15 (.quiet 16 (.done))) (.stop)))))))))))))))) (by kernel_rfl) ext_refl ext_trans (by kernel_rfl) (fun _ _ d _ _ h => by cases d <;> exact h) ?_
          refine wpS_quiet (some 18) { dst := some 18, op := Op.move (Operand.tmp 9), type := _, pos := _, after := _, guard := none } _ rfl rfl (by rfl) (fun wE hE => by (go_simp; try with_reducible rfl)) ?_; simp only [Act.put, List.setIfInBounds_toArray, List.set_cons_zero, List.set_cons_succ]
          refine wpS_quiet (some 19) { dst := some 19, op := Op.move (Operand.tmp 1), type := _, pos := _, after := _, guard := none } _ rfl rfl (by rfl) (fun wE hE => by (go_simp; try with_reducible rfl)) ?_; simp only [Act.put, List.setIfInBounds_toArray, List.set_cons_zero, List.set_cons_succ]
          refine wpS_quiet (some 20) { dst := some 20, op := Op.binOp BinOp.gtr 3 (Operand.tmp 18) (Operand.tmp 19) 3, type := _, pos := _, after := _, guard := none } _ rfl rfl (by rfl) (fun wE hE => by (go_simp; try with_reducible rfl)) ?_; simp only [Act.put, List.setIfInBounds_toArray, List.set_cons_zero, List.set_cons_succ]
          refine wpS_quiet (some 21) { dst := some 21, op := Op.move (Operand.tmp 20), type := _, pos := _, after := _, guard := none } _ rfl rfl (by rfl) (fun wE hE => by (go_simp; try with_reducible rfl)) ?_; simp only [Act.put, List.setIfInBounds_toArray, List.set_cons_zero, List.set_cons_succ]
          (first | refine wpS_quiet (some 22) { dst := some 22, op := Op.move (Operand.tmp 3), type := _, pos := _, after := _, guard := some (3, true) } _ rfl rfl (by rfl) (fun wE hE => by (go_simp; try with_reducible rfl)) ?_ | refine wpS_pass (some 22) _ rfl rfl (by rfl) ?_); simp only [Act.put, List.setIfInBounds_toArray, List.set_cons_zero, List.set_cons_succ]
          (first | refine wpS_quiet (some 23) { dst := some 23, op := Op.move (Operand.tmp 0), type := _, pos := _, after := _, guard := some (3, true) } _ rfl rfl (by rfl) (fun wE hE => by (go_simp; try with_reducible rfl)) ?_ | refine wpS_pass (some 23) _ rfl rfl (by rfl) ?_); simp only [Act.put, List.setIfInBounds_toArray, List.set_cons_zero, List.set_cons_succ]
          (first | refine wpS_quiet (some 24) { dst := some 24, op := Op.move (Operand.tmp 9), type := _, pos := _, after := _, guard := some (3, true) } _ rfl rfl (by rfl) (fun wE hE => by (go_simp; try with_reducible rfl)) ?_ | refine wpS_pass (some 24) _ rfl rfl (by rfl) ?_); simp only [Act.put, List.setIfInBounds_toArray, List.set_cons_zero, List.set_cons_succ]
          (first | refine wpS_quiet (some 25) { dst := some 25, op := Op.indexAddr 53 (Operand.tmp 23) (Operand.tmp 24), type := _, pos := _, after := _, guard := some (3, true) } _ rfl rfl (by rfl) (fun wE hE => by (go_simp; try with_reducible rfl)) ?_ | refine wpS_pass (some 25) _ rfl rfl (by rfl) ?_); simp only [Act.put, List.setIfInBounds_toArray, List.set_cons_zero, List.set_cons_succ]
          (first | refine wpS_quiet (some 26) { dst := some 26, op := Op.load 55 (Operand.tmp 25), type := _, pos := _, after := _, guard := some (3, true) } _ rfl rfl (by rfl) (fun wE hE => by (go_simp; try with_reducible rfl)) ?_ | refine wpS_pass (some 26) _ rfl rfl (by rfl) ?_); simp only [Act.put, List.setIfInBounds_toArray, List.set_cons_zero, List.set_cons_succ]
          (first | refine wpS_quiet (some 27) { dst := some 27, op := Op.move (Operand.tmp 0), type := _, pos := _, after := _, guard := some (3, true) } _ rfl rfl (by rfl) (fun wE hE => by (go_simp; try with_reducible rfl)) ?_ | refine wpS_pass (some 27) _ rfl rfl (by rfl) ?_); simp only [Act.put, List.setIfInBounds_toArray, List.set_cons_zero, List.set_cons_succ]
          (first | refine wpS_quiet (some 28) { dst := some 28, op := Op.move (Operand.tmp 9), type := _, pos := _, after := _, guard := some (3, true) } _ rfl rfl (by rfl) (fun wE hE => by (go_simp; try with_reducible rfl)) ?_ | refine wpS_pass (some 28) _ rfl rfl (by rfl) ?_); simp only [Act.put, List.setIfInBounds_toArray, List.set_cons_zero, List.set_cons_succ]
          (first | refine wpS_quiet (some 29) { dst := some 29, op := Op.binOp BinOp.sub 3 (Operand.tmp 28) (Operand.const (Value.int IntKind.i64 1)) 3, type := _, pos := _, after := _, guard := some (3, true) } _ rfl rfl (by rfl) (fun wE hE => by (go_simp; try with_reducible rfl)) ?_ | refine wpS_pass (some 29) _ rfl rfl (by rfl) ?_); simp only [Act.put, List.setIfInBounds_toArray, List.set_cons_zero, List.set_cons_succ]
          (first | refine wpS_quiet (some 30) { dst := some 30, op := Op.indexAddr 53 (Operand.tmp 27) (Operand.tmp 29), type := _, pos := _, after := _, guard := some (3, true) } _ rfl rfl (by rfl) (fun wE hE => by (go_simp; try with_reducible rfl)) ?_ | refine wpS_pass (some 30) _ rfl rfl (by rfl) ?_); simp only [Act.put, List.setIfInBounds_toArray, List.set_cons_zero, List.set_cons_succ]
          (first | refine wpS_quiet (some 31) { dst := some 31, op := Op.load 55 (Operand.tmp 30), type := _, pos := _, after := _, guard := some (3, true) } _ rfl rfl (by rfl) (fun wE hE => by (go_simp; try with_reducible rfl)) ?_ | refine wpS_pass (some 31) _ rfl rfl (by rfl) ?_); simp only [Act.put, List.setIfInBounds_toArray, List.set_cons_zero, List.set_cons_succ]
          refine wpS_loud_pass (ext_refl _) (some 32) _ rfl rfl (by rfl) ?_; simp only [Act.put, List.setIfInBounds_toArray, List.set_cons_zero, List.set_cons_succ]
          (first | refine wpS_quiet (some 33) { dst := some 33, op := Op.binOp BinOp.lss 3 (Operand.tmp 32) (Operand.const (Value.int IntKind.i64 0)) 3, type := _, pos := _, after := _, guard := some (3, true) } _ rfl rfl (by rfl) (fun wE hE => by (go_simp; try with_reducible rfl)) ?_ | refine wpS_pass (some 33) _ rfl rfl (by rfl) ?_); simp only [Act.put, List.setIfInBounds_toArray, List.set_cons_zero, List.set_cons_succ]
          refine wpS_quiet (some 34) { dst := some 34, op := Op.pick (Operand.tmp 21) (Operand.tmp 33) (Operand.const (Value.bool false)), type := _, pos := _, after := _, guard := none } _ rfl rfl (by rfl) (fun wE hE => by (go_simp; try with_reducible rfl)) ?_; simp only [Act.put, List.setIfInBounds_toArray, List.set_cons_zero, List.set_cons_succ]
          change Exit.then _ _ _ _ _
          go_wp2_with fail
          go_roundw
          case rel =>
            refine ⟨k + 1, by go_num, by omega, by omega, Lib.hid ?_, hEi⟩
            have : (sortR (l.take (k + 1))).reverse ++ l.drop (k + 1) = [] ++ x :: (S ++ l.drop (k + 1)) := by
              rw [take_snoc' hx.out, sortR_snoc, hI.out]; simp [insR]
            rw [this]; exact HBi.out.drew
          case measure => simp [intOf]; omega
        · obtain ⟨m, hm⟩ : ∃ m, m = P'.length := ⟨_, rfl⟩
          have hml : m < l.length := by simp at hPS; omega
          have hPl : (P'.concat y).length = m + 1 := by simp [hm]
          have hxat : (P'.concat y ++ x :: (S ++ l.drop (k + 1)))[m + 1]? = some x := by rw [List.getElem?_append_right (by omega), hPl]; simp
          have hyat : (P'.concat y ++ x :: (S ++ l.drop (k + 1)))[m]? = some y := by rw [List.getElem?_append_left (by omega), hm]; simp
          have x0 := HBi.out.cell (flC_get (rest := rest) hxat (k := 0) rfl)
          have x1 := HBi.out.cell (flC_get (rest := rest) hxat (k := 1) rfl)
          have x2 := HBi.out.cell (flC_get (rest := rest) hxat (k := 2) rfl)
          have y0 := HBi.out.cell (flC_get (rest := rest) hyat (k := 0) rfl)
          have y1 := HBi.out.cell (flC_get (rest := rest) hyat (k := 1) rfl)
          have y2 := HBi.out.cell (flC_get (rest := rest) hyat (k := 2) rfl)
          simp only [Nat.add_zero] at x0 y0
          have hcast : ((m + 1 : Nat) : Int) = (m : Int) + 1 := by omega
          rw [hPl, hcast]
          have b0 : ¬ ((m : Int) + 1 < 0) := by omega
          have b1 : (m : Int) + 1 < (l.length : Int) := by omega
          have b2 : ((m : Int) + 1).toNat = m + 1 := by omega
          have b3 : (m : Int) + 1 - 1 = (m : Int) := by omega
          have b4 : (m : Int) < (l.length : Int) := by omega
          have b5 : IntKind.i64.wrap (m : Int) = m := IntWalk.i64_in _ (by omega)
          have b6 : ¬ ((m : Int) < 0) := by omega
          have hxat := Lib.hid hxat
          have hyat := Lib.hid hyat
          have hmm := Lib.hid hm
          clear hm
          by_cases hq : y.rev < x.rev
          · have hc : cmpInt y.rev x.rev < 0 := by unfold cmpInt; rw [if_pos hq]; decide
            replace hq := Lib.hid hq
            go_wp2_with fail
            refine wp_region_sched (ops := ops_71_4) Ext [] (.quiet 0 (.quiet 1 (.quiet 2 (.quiet 3 (.quiet 4 (.quiet 5 (.quiet 6 (.quiet 7 (.quiet 8 (.quiet 9 (.quiet 10 (.quiet 11 (.quiet 12 (.quiet 13 (.loud 14 (.quiet 15 (.quiet 16 (.done))) (.stop)))))))))))))))) (by kernel_rfl) ext_refl ext_trans (by kernel_rfl) (fun _ _ d _ _ h => by cases d <;> exact h) ?_
            refine wpS_quiet (some 18) { dst := some 18, op := Op.move (Operand.tmp 9), type := _, pos := _, after := _, guard := none } _ rfl rfl (by rfl) (fun wE hE => by (go_simp; try with_reducible rfl)) ?_; simp only [Act.put, List.setIfInBounds_toArray, List.set_cons_zero, List.set_cons_succ]
            refine wpS_quiet (some 19) { dst := some 19, op := Op.move (Operand.tmp 1), type := _, pos := _, after := _, guard := none } _ rfl rfl (by rfl) (fun wE hE => by (go_simp; try with_reducible rfl)) ?_; simp only [Act.put, List.setIfInBounds_toArray, List.set_cons_zero, List.set_cons_succ]
            refine wpS_quiet (some 20) { dst := some 20, op := Op.binOp BinOp.gtr 3 (Operand.tmp 18) (Operand.tmp 19) 3, type := _, pos := _, after := _, guard := none } _ rfl rfl (by rfl) (fun wE hE => by (go_simp; try with_reducible rfl)) ?_; simp only [Act.put, List.setIfInBounds_toArray, List.set_cons_zero, List.set_cons_succ]
            refine wpS_quiet (some 21) { dst := some 21, op := Op.move (Operand.tmp 20), type := _, pos := _, after := _, guard := none } _ rfl rfl (by rfl) (fun wE hE => by (go_simp; try with_reducible rfl)) ?_; simp only [Act.put, List.setIfInBounds_toArray, List.set_cons_zero, List.set_cons_succ]
            (first | refine wpS_quiet (some 22) { dst := some 22, op := Op.move (Operand.tmp 3), type := _, pos := _, after := _, guard := some (3, true) } _ rfl rfl (by rfl) (fun wE hE => by (go_simp; try with_reducible rfl)) ?_ | refine wpS_pass (some 22) _ rfl rfl (by rfl) ?_); simp only [Act.put, List.setIfInBounds_toArray, List.set_cons_zero, List.set_cons_succ]
            (first | refine wpS_quiet (some 23) { dst := some 23, op := Op.move (Operand.tmp 0), type := _, pos := _, after := _, guard := some (3, true) } _ rfl rfl (by rfl) (fun wE hE => by (go_simp; try with_reducible rfl)) ?_ | refine wpS_pass (some 23) _ rfl rfl (by rfl) ?_); simp only [Act.put, List.setIfInBounds_toArray, List.set_cons_zero, List.set_cons_succ]
            (first | refine wpS_quiet (some 24) { dst := some 24, op := Op.move (Operand.tmp 9), type := _, pos := _, after := _, guard := some (3, true) } _ rfl rfl (by rfl) (fun wE hE => by (go_simp; try with_reducible rfl)) ?_ | refine wpS_pass (some 24) _ rfl rfl (by rfl) ?_); simp only [Act.put, List.setIfInBounds_toArray, List.set_cons_zero, List.set_cons_succ]
            (first | refine wpS_quiet (some 25) { dst := some 25, op := Op.indexAddr 53 (Operand.tmp 23) (Operand.tmp 24), type := _, pos := _, after := _, guard := some (3, true) } _ rfl rfl (by rfl) (fun wE hE => by (go_simp; try with_reducible rfl)) ?_ | refine wpS_pass (some 25) _ rfl rfl (by rfl) ?_); simp only [Act.put, List.setIfInBounds_toArray, List.set_cons_zero, List.set_cons_succ]
            (first | refine wpS_quiet (some 26) { dst := some 26, op := Op.load 55 (Operand.tmp 25), type := _, pos := _, after := _, guard := some (3, true) } _ rfl rfl (by rfl) (fun wE hE => by (have zk0 := hE.cellS x0; have zk1 := hE.cellS x1; have zk2 := hE.cellS x2; have zk3 := hE.cellS y0; have zk4 := hE.cellS y1; have zk5 := hE.cellS y2; go_simp; try with_reducible rfl)) ?_ | refine wpS_pass (some 26) _ rfl rfl (by rfl) ?_); simp only [Act.put, List.setIfInBounds_toArray, List.set_cons_zero, List.set_cons_succ]
            (first | refine wpS_quiet (some 27) { dst := some 27, op := Op.move (Operand.tmp 0), type := _, pos := _, after := _, guard := some (3, true) } _ rfl rfl (by rfl) (fun wE hE => by (go_simp; try with_reducible rfl)) ?_ | refine wpS_pass (some 27) _ rfl rfl (by rfl) ?_); simp only [Act.put, List.setIfInBounds_toArray, List.set_cons_zero, List.set_cons_succ]
            (first | refine wpS_quiet (some 28) { dst := some 28, op := Op.move (Operand.tmp 9), type := _, pos := _, after := _, guard := some (3, true) } _ rfl rfl (by rfl) (fun wE hE => by (go_simp; try with_reducible rfl)) ?_ | refine wpS_pass (some 28) _ rfl rfl (by rfl) ?_); simp only [Act.put, List.setIfInBounds_toArray, List.set_cons_zero, List.set_cons_succ]
            (first | refine wpS_quiet (some 29) { dst := some 29, op := Op.binOp BinOp.sub 3 (Operand.tmp 28) (Operand.const (Value.int IntKind.i64 1)) 3, type := _, pos := _, after := _, guard := some (3, true) } _ rfl rfl (by rfl) (fun wE hE => by (go_simp; try with_reducible rfl)) ?_ | refine wpS_pass (some 29) _ rfl rfl (by rfl) ?_); simp only [Act.put, List.setIfInBounds_toArray, List.set_cons_zero, List.set_cons_succ]
            (first | refine wpS_quiet (some 30) { dst := some 30, op := Op.indexAddr 53 (Operand.tmp 27) (Operand.tmp 29), type := _, pos := _, after := _, guard := some (3, true) } _ rfl rfl (by rfl) (fun wE hE => by (go_simp; try with_reducible rfl)) ?_ | refine wpS_pass (some 30) _ rfl rfl (by rfl) ?_); simp only [Act.put, List.setIfInBounds_toArray, List.set_cons_zero, List.set_cons_succ]
            (first | refine wpS_quiet (some 31) { dst := some 31, op := Op.load 55 (Operand.tmp 30), type := _, pos := _, after := _, guard := some (3, true) } _ rfl rfl (by rfl) (fun wE hE => by (have zk0 := hE.cellS x0; have zk1 := hE.cellS x1; have zk2 := hE.cellS x2; have zk3 := hE.cellS y0; have zk4 := hE.cellS y1; have zk5 := hE.cellS y2; go_simp; try with_reducible rfl)) ?_ | refine wpS_pass (some 31) _ rfl rfl (by rfl) ?_); simp only [Act.put, List.setIfInBounds_toArray, List.set_cons_zero, List.set_cons_succ]
            refine wpS_call (some 32) { dst := some 32, op := Op.call { callee := Callee.value (Operand.tmp 22), args := #[Operand.tmp 26, Operand.tmp 31], argTypes := #[55, 55] }, type := _, pos := _, after := _, guard := some (3, true) } _ _ rfl rfl (by rfl) (by go_simp; try first | with_reducible rfl | exact ⟨rfl, rfl⟩) ?_
            refine (clo57 x y _).mono ?_; rintro e w5 ⟨rfl, e5⟩; refine ⟨_, rfl, e5, ?_⟩; simp only [Act.put, List.setIfInBounds_toArray, List.set_cons_zero, List.set_cons_succ]
            (first | refine wpS_quiet (some 33) { dst := some 33, op := Op.binOp BinOp.lss 3 (Operand.tmp 32) (Operand.const (Value.int IntKind.i64 0)) 3, type := _, pos := _, after := _, guard := some (3, true) } _ rfl rfl (by rfl) (fun wE hE => by (go_simp; try with_reducible rfl)) ?_ | refine wpS_pass (some 33) _ rfl rfl (by rfl) ?_); simp only [Act.put, List.setIfInBounds_toArray, List.set_cons_zero, List.set_cons_succ]
            refine wpS_quiet (some 34) { dst := some 34, op := Op.pick (Operand.tmp 21) (Operand.tmp 33) (Operand.const (Value.bool false)), type := _, pos := _, after := _, guard := none } _ rfl rfl (by rfl) (fun wE hE => by (go_simp; try with_reducible rfl)) ?_; simp only [Act.put, List.setIfInBounds_toArray, List.set_cons_zero, List.set_cons_succ]
            change Exit.then _ _ _ _ _
            have E5 : Ext wr w5 := e5.undrew
            have K5 := HBi.out.ext E5
            have K5 := Lib.hid K5
            replace x0 := E5.cellS x0
            replace x1 := E5.cellS x1
            replace x2 := E5.cellS x2
            replace y0 := E5.cellS y0
            replace y1 := E5.cellS y1
            replace y2 := E5.cellS y2
            clear e5
            go_wp2_with fail
            refine wp_region_sched (ops := ops_71_6) (ExtX (fun k => k = g)) [17] (.quiet 0 (.quiet 1 (.quiet 2 (.quiet 3 (.quiet 4 (.quiet 5 (.quiet 6 (.quiet 7 (.quiet 8 (.quiet 10 (.quiet 11 (.quiet 12 (.loud 9 (.loud 13 (.quiet 14 (.loud 15 (.quiet 16 (.last 17 (.done))) (.stop))) (.stop)) (.loud 13 (.loud 9 (.quiet 14 (.loud 15 (.quiet 16 (.last 17 (.done))) (.stop))) (.stop)) (.stop))))))))))))))) (by kernel_rfl) (ExtX.refl (fun k => k = g)) (fun _ _ _ => ExtX.trans) (by kernel_rfl) (fun _ _ d _ _ h => by cases d <;> exact h) ?_
            obtain ⟨Z, hZ⟩ : ∃ Z, Z = P'.concat y ++ x :: (S ++ l.drop (k + 1)) := ⟨_, rfl⟩
            have K5 : Hid (Blk w5 g 55 (flC Z ++ rest)) := Lib.hid (by rw [hZ]; exact K5.out)
            have hZl : m + 1 < Z.length := by rw [hZ, List.length_append, hPl]; simp
            have hfx : (m + 1) * 3 + (hsCells y).length ≤ (flC Z ++ rest).length := by rw [List.length_append, flC_len]; simp; omega
            have hfy : m * 3 + (hsCells x).length ≤ (flC (Z.set (m + 1) y) ++ rest).length := by rw [List.length_append, flC_len, List.length_set]; simp; omega
            have hov := flC_over (rest := rest) (l := Z) (j := m + 1) y hZl
            have hov2 := flC_over (rest := rest) (l := Z.set (m + 1) y) (j := m) x (by rw [List.length_set]; omega)
            have hset : (Z.set (m + 1) y).set m x = P' ++ x :: ((y :: S) ++ l.drop (k + 1)) := by
              rw [hZ, hmm.out]; simp [List.set_append]
            have hIns : insR x (sortR (l.take k)) = (y :: S).reverse ++ insR x P'.reverse := by
              rw [hI.out]
              have : (P'.concat y).reverse = y :: P'.reverse := by simp
              rw [this]; simp only [insR]; rw [if_pos hq.out]; simp
            have hPS2 : P'.length + (y :: S).length = k := by have hPS' := hPS; rw [hPl] at hPS'; have := hmm.out; simp only [List.length_cons]; omega
            rw [hset] at hov2
            replace hov := Lib.hid hov
            replace hov2 := Lib.hid hov2
            replace hZ := Lib.hid hZ
            clear hset
            refine wpS_quiet (some 37) { dst := some 37, op := Op.move (Operand.tmp 0), type := _, pos := _, after := _, guard := none } _ rfl rfl (by rfl) (fun wE hE => by (go_simp; try with_reducible rfl)) ?_; simp only [Act.put, List.setIfInBounds_toArray, List.set_cons_zero, List.set_cons_succ]
            refine wpS_quiet (some 38) { dst := some 38, op := Op.move (Operand.tmp 9), type := _, pos := _, after := _, guard := none } _ rfl rfl (by rfl) (fun wE hE => by (go_simp; try with_reducible rfl)) ?_; simp only [Act.put, List.setIfInBounds_toArray, List.set_cons_zero, List.set_cons_succ]
            refine wpS_quiet (some 39) { dst := some 39, op := Op.move (Operand.tmp 0), type := _, pos := _, after := _, guard := none } _ rfl rfl (by rfl) (fun wE hE => by (go_simp; try with_reducible rfl)) ?_; simp only [Act.put, List.setIfInBounds_toArray, List.set_cons_zero, List.set_cons_succ]
            refine wpS_quiet (some 40) { dst := some 40, op := Op.move (Operand.tmp 9), type := _, pos := _, after := _, guard := none } _ rfl rfl (by rfl) (fun wE hE => by (go_simp; try with_reducible rfl)) ?_; simp only [Act.put, List.setIfInBounds_toArray, List.set_cons_zero, List.set_cons_succ]
            refine wpS_quiet (some 41) { dst := some 41, op := Op.binOp BinOp.sub 3 (Operand.tmp 40) (Operand.const (Value.int IntKind.i64 1)) 3, type := _, pos := _, after := _, guard := none } _ rfl rfl (by rfl) (fun wE hE => by (go_simp; try with_reducible rfl)) ?_; simp only [Act.put, List.setIfInBounds_toArray, List.set_cons_zero, List.set_cons_succ]
            refine wpS_quiet (some 42) { dst := some 42, op := Op.move (Operand.tmp 0), type := _, pos := _, after := _, guard := none } _ rfl rfl (by rfl) (fun wE hE => by (go_simp; try with_reducible rfl)) ?_; simp only [Act.put, List.setIfInBounds_toArray, List.set_cons_zero, List.set_cons_succ]
            refine wpS_quiet (some 43) { dst := some 43, op := Op.move (Operand.tmp 9), type := _, pos := _, after := _, guard := none } _ rfl rfl (by rfl) (fun wE hE => by (go_simp; try with_reducible rfl)) ?_; simp only [Act.put, List.setIfInBounds_toArray, List.set_cons_zero, List.set_cons_succ]
            refine wpS_quiet (some 44) { dst := some 44, op := Op.binOp BinOp.sub 3 (Operand.tmp 43) (Operand.const (Value.int IntKind.i64 1)) 3, type := _, pos := _, after := _, guard := none } _ rfl rfl (by rfl) (fun wE hE => by (go_simp; try with_reducible rfl)) ?_; simp only [Act.put, List.setIfInBounds_toArray, List.set_cons_zero, List.set_cons_succ]
            refine wpS_quiet (some 45) { dst := some 45, op := Op.indexAddr 53 (Operand.tmp 42) (Operand.tmp 44), type := _, pos := _, after := _, guard := none } _ rfl rfl (by rfl) (fun wE hE => by (go_simp; try with_reducible rfl)) ?_; simp only [Act.put, List.setIfInBounds_toArray, List.set_cons_zero, List.set_cons_succ]
            refine wpS_quiet (some 47) { dst := some 47, op := Op.move (Operand.tmp 0), type := _, pos := _, after := _, guard := none } _ rfl rfl (by rfl) (fun wE hE => by (go_simp; try with_reducible rfl)) ?_; simp only [Act.put, List.setIfInBounds_toArray, List.set_cons_zero, List.set_cons_succ]
            refine wpS_quiet (some 48) { dst := some 48, op := Op.move (Operand.tmp 9), type := _, pos := _, after := _, guard := none } _ rfl rfl (by rfl) (fun wE hE => by (go_simp; try with_reducible rfl)) ?_; simp only [Act.put, List.setIfInBounds_toArray, List.set_cons_zero, List.set_cons_succ]
            refine wpS_quiet (some 49) { dst := some 49, op := Op.indexAddr 53 (Operand.tmp 47) (Operand.tmp 48), type := _, pos := _, after := _, guard := none } _ rfl rfl (by rfl) (fun wE hE => by (go_simp; try with_reducible rfl)) ?_; simp only [Act.put, List.setIfInBounds_toArray, List.set_cons_zero, List.set_cons_succ]
            refine wpS_val (some 46) { dst := some 46, op := Op.load 55 (Operand.tmp 45), type := _, pos := _, after := _, guard := none } (hsV y) (w5.drew) rfl rfl (by rfl) ?_ ?_ ?_ ?_
            rotate_right
            · skip
              refine wpS_val (some 50) { dst := some 50, op := Op.load 55 (Operand.tmp 49), type := _, pos := _, after := _, guard := none } (hsV x) (w5.drew) rfl rfl (by rfl) ?_ ?_ ?_ trivial
              (refine .inl ?_; go_simp; try rfl)
              exact ExtX.refl _ _
              simp only [Act.put, List.setIfInBounds_toArray, List.set_cons_zero, List.set_cons_succ]
              refine wpS_val (some 46) { dst := some 46, op := Op.load 55 (Operand.tmp 45), type := _, pos := _, after := _, guard := none } (hsV y) (w5.drew) rfl rfl (by rfl) ?_ ?_ ?_ trivial
              (refine .inl ?_; go_simp; try rfl)
              exact ExtX.refl _ _
              simp only [Act.put, List.setIfInBounds_toArray, List.set_cons_zero, List.set_cons_succ]
              refine wpS_quiet (some 51) { dst := some 51, op := Op.indexAddr 53 (Operand.tmp 37) (Operand.tmp 38), type := _, pos := _, after := _, guard := none } _ rfl rfl (by rfl) (fun wE hE => by (go_simp; try with_reducible rfl)) ?_; simp only [Act.put, List.setIfInBounds_toArray, List.set_cons_zero, List.set_cons_succ]
              refine wpS_storeL none { dst := none, op := Op.store 55 (Operand.tmp 51) (Operand.tmp 46), type := _, pos := _, after := _, guard := none } rfl rfl (by rfl) (.tmp 51) (.tmp 46) 55 rfl rfl rfl rfl K5.out.drew rfl hfx rfl (fun w' x => x) ?_ trivial
              intro we Ke xe
              (have Ke : Blk we g 55 (over ((m + 1) * 3) (hsCells y) (flC Z ++ rest)) := Ke)
              rw [hov.out] at Ke
              simp only [Act.put, List.setIfInBounds_toArray, List.set_cons_zero, List.set_cons_succ]
              refine wpS_quiet (some 52) { dst := some 52, op := Op.indexAddr 53 (Operand.tmp 39) (Operand.tmp 41), type := _, pos := _, after := _, guard := none } _ rfl rfl (by rfl) (fun wE hE => by (go_simp; try with_reducible rfl)) ?_; simp only [Act.put, List.setIfInBounds_toArray, List.set_cons_zero, List.set_cons_succ]
              refine wpS_store none { dst := none, op := Op.store 55 (Operand.tmp 52) (Operand.tmp 50), type := _, pos := _, after := _, guard := none } rfl rfl (by rfl) (.tmp 52) (.tmp 50) 55 rfl rfl rfl rfl Ke rfl hfy rfl ?_
              intro wf Kf xf
              (have Kf : Blk wf g 55 (over (m * 3) (hsCells x) (flC (Z.set (m + 1) y) ++ rest)) := Kf)
              rw [hov2.out] at Kf
              (have Kf := Lib.hid Kf)
              (have EX : ExtX (fun k => k = g) w wf := ((hEi.trans (E5.toX _)).trans xe.undrew).trans xf)
              clear xe xf Ke x0 x1 x2 y0 y1 y2
              simp only [Act.put, List.setIfInBounds_toArray, List.set_cons_zero, List.set_cons_succ]
              change Exit.inBlock _ _ _ _ _
              go_wp2_with fail
              go_roundw
              case rel => exact ⟨P', y :: S, by rw [← hmm.out], hPS2, Lib.hid hIns, Kf, EX⟩
              case measure => (simp [intOf])
            (refine .inl ?_; go_simp; try rfl)
            exact ExtX.refl _ _
            simp only [Act.put, List.setIfInBounds_toArray, List.set_cons_zero, List.set_cons_succ]
            refine wpS_val (some 50) { dst := some 50, op := Op.load 55 (Operand.tmp 49), type := _, pos := _, after := _, guard := none } (hsV x) (w5.drew) rfl rfl (by rfl) ?_ ?_ ?_ trivial
            (refine .inl ?_; go_simp; try rfl)
            exact ExtX.refl _ _
            simp only [Act.put, List.setIfInBounds_toArray, List.set_cons_zero, List.set_cons_succ]
            refine wpS_quiet (some 51) { dst := some 51, op := Op.indexAddr 53 (Operand.tmp 37) (Operand.tmp 38), type := _, pos := _, after := _, guard := none } _ rfl rfl (by rfl) (fun wE hE => by (go_simp; try with_reducible rfl)) ?_; simp only [Act.put, List.setIfInBounds_toArray, List.set_cons_zero, List.set_cons_succ]
            refine wpS_storeL none { dst := none, op := Op.store 55 (Operand.tmp 51) (Operand.tmp 46), type := _, pos := _, after := _, guard := none } rfl rfl (by rfl) (.tmp 51) (.tmp 46) 55 rfl rfl rfl rfl K5.out.drew rfl hfx rfl (fun w' x => x) ?_ trivial
            intro we Ke xe
            (have Ke : Blk we g 55 (over ((m + 1) * 3) (hsCells y) (flC Z ++ rest)) := Ke)
            rw [hov.out] at Ke
            simp only [Act.put, List.setIfInBounds_toArray, List.set_cons_zero, List.set_cons_succ]
            refine wpS_quiet (some 52) { dst := some 52, op := Op.indexAddr 53 (Operand.tmp 39) (Operand.tmp 41), type := _, pos := _, after := _, guard := none } _ rfl rfl (by rfl) (fun wE hE => by (go_simp; try with_reducible rfl)) ?_; simp only [Act.put, List.setIfInBounds_toArray, List.set_cons_zero, List.set_cons_succ]
            refine wpS_store none { dst := none, op := Op.store 55 (Operand.tmp 52) (Operand.tmp 50), type := _, pos := _, after := _, guard := none } rfl rfl (by rfl) (.tmp 52) (.tmp 50) 55 rfl rfl rfl rfl Ke rfl hfy rfl ?_
            intro wf Kf xf
            (have Kf : Blk wf g 55 (over (m * 3) (hsCells x) (flC (Z.set (m + 1) y) ++ rest)) := Kf)
            rw [hov2.out] at Kf
            (have Kf := Lib.hid Kf)
            (have EX : ExtX (fun k => k = g) w wf := ((hEi.trans (E5.toX _)).trans xe.undrew).trans xf)
            clear xe xf Ke x0 x1 x2 y0 y1 y2
            simp only [Act.put, List.setIfInBounds_toArray, List.set_cons_zero, List.set_cons_succ]
            change Exit.inBlock _ _ _ _ _
            go_wp2_with fail
            go_roundw
            case rel => exact ⟨P', y :: S, by rw [← hmm.out], hPS2, Lib.hid hIns, Kf, EX⟩
            case measure => (simp [intOf])
          · have hc : ¬ cmpInt y.rev x.rev < 0 := by unfold cmpInt; rw [if_neg hq]; split <;> decide
            have hIns : insR x (sortR (l.take k)) = S.reverse ++ x :: (P'.concat y).reverse := by
              rw [hI.out]
              have : (P'.concat y).reverse = y :: P'.reverse := by simp
              rw [this]; simp only [insR]; rw [if_neg hq]
            have hcur : (sortR (l.take (k + 1))).reverse ++ l.drop (k + 1) = P'.concat y ++ x :: (S ++ l.drop (k + 1)) := by
              rw [take_snoc' hx.out, sortR_snoc, hIns]; simp
            have hcur := Lib.hid hcur
            have hIns := Lib.hid hIns
            replace hq := Lib.hid hq
            go_wp2_with fail
            refine wp_region_sched (ops := ops_71_4) Ext [] (.quiet 0 (.quiet 1 (.quiet 2 (.quiet 3 (.quiet 4 (.quiet 5 (.quiet 6 (.quiet 7 (.quiet 8 (.quiet 9 (.quiet 10 (.quiet 11 (.quiet 12 (.quiet 13 (.loud 14 (.quiet 15 (.quiet 16 (.done))) (.stop)))))))))))))))) (by kernel_rfl) ext_refl ext_trans (by kernel_rfl) (fun _ _ d _ _ h => by cases d <;> exact h) ?_
            refine wpS_quiet (some 18) { dst := some 18, op := Op.move (Operand.tmp 9), type := _, pos := _, after := _, guard := none } _ rfl rfl (by rfl) (fun wE hE => by (go_simp; try with_reducible rfl)) ?_; simp only [Act.put, List.setIfInBounds_toArray, List.set_cons_zero, List.set_cons_succ]
            refine wpS_quiet (some 19) { dst := some 19, op := Op.move (Operand.tmp 1), type := _, pos := _, after := _, guard := none } _ rfl rfl (by rfl) (fun wE hE => by (go_simp; try with_reducible rfl)) ?_; simp only [Act.put, List.setIfInBounds_toArray, List.set_cons_zero, List.set_cons_succ]
            refine wpS_quiet (some 20) { dst := some 20, op := Op.binOp BinOp.gtr 3 (Operand.tmp 18) (Operand.tmp 19) 3, type := _, pos := _, after := _, guard := none } _ rfl rfl (by rfl) (fun wE hE => by (go_simp; try with_reducible rfl)) ?_; simp only [Act.put, List.setIfInBounds_toArray, List.set_cons_zero, List.set_cons_succ]
            refine wpS_quiet (some 21) { dst := some 21, op := Op.move (Operand.tmp 20), type := _, pos := _, after := _, guard := none } _ rfl rfl (by rfl) (fun wE hE => by (go_simp; try with_reducible rfl)) ?_; simp only [Act.put, List.setIfInBounds_toArray, List.set_cons_zero, List.set_cons_succ]
            (first | refine wpS_quiet (some 22) { dst := some 22, op := Op.move (Operand.tmp 3), type := _, pos := _, after := _, guard := some (3, true) } _ rfl rfl (by rfl) (fun wE hE => by (go_simp; try with_reducible rfl)) ?_ | refine wpS_pass (some 22) _ rfl rfl (by rfl) ?_); simp only [Act.put, List.setIfInBounds_toArray, List.set_cons_zero, List.set_cons_succ]
            (first | refine wpS_quiet (some 23) { dst := some 23, op := Op.move (Operand.tmp 0), type := _, pos := _, after := _, guard := some (3, true) } _ rfl rfl (by rfl) (fun wE hE => by (go_simp; try with_reducible rfl)) ?_ | refine wpS_pass (some 23) _ rfl rfl (by rfl) ?_); simp only [Act.put, List.setIfInBounds_toArray, List.set_cons_zero, List.set_cons_succ]
            (first | refine wpS_quiet (some 24) { dst := some 24, op := Op.move (Operand.tmp 9), type := _, pos := _, after := _, guard := some (3, true) } _ rfl rfl (by rfl) (fun wE hE => by (go_simp; try with_reducible rfl)) ?_ | refine wpS_pass (some 24) _ rfl rfl (by rfl) ?_); simp only [Act.put, List.setIfInBounds_toArray, List.set_cons_zero, List.set_cons_succ]
            (first | refine wpS_quiet (some 25) { dst := some 25, op := Op.indexAddr 53 (Operand.tmp 23) (Operand.tmp 24), type := _, pos := _, after := _, guard := some (3, true) } _ rfl rfl (by rfl) (fun wE hE => by (go_simp; try with_reducible rfl)) ?_ | refine wpS_pass (some 25) _ rfl rfl (by rfl) ?_); simp only [Act.put, List.setIfInBounds_toArray, List.set_cons_zero, List.set_cons_succ]
            (first | refine wpS_quiet (some 26) { dst := some 26, op := Op.load 55 (Operand.tmp 25), type := _, pos := _, after := _, guard := some (3, true) } _ rfl rfl (by rfl) (fun wE hE => by (have zk0 := hE.cellS x0; have zk1 := hE.cellS x1; have zk2 := hE.cellS x2; have zk3 := hE.cellS y0; have zk4 := hE.cellS y1; have zk5 := hE.cellS y2; go_simp; try with_reducible rfl)) ?_ | refine wpS_pass (some 26) _ rfl rfl (by rfl) ?_); simp only [Act.put, List.setIfInBounds_toArray, List.set_cons_zero, List.set_cons_succ]
            (first | refine wpS_quiet (some 27) { dst := some 27, op := Op.move (Operand.tmp 0), type := _, pos := _, after := _, guard := some (3, true) } _ rfl rfl (by rfl) (fun wE hE => by (go_simp; try with_reducible rfl)) ?_ | refine wpS_pass (some 27) _ rfl rfl (by rfl) ?_); simp only [Act.put, List.setIfInBounds_toArray, List.set_cons_zero, List.set_cons_succ]
            (first | refine wpS_quiet (some 28) { dst := some 28, op := Op.move (Operand.tmp 9), type := _, pos := _, after := _, guard := some (3, true) } _ rfl rfl (by rfl) (fun wE hE => by (go_simp; try with_reducible rfl)) ?_ | refine wpS_pass (some 28) _ rfl rfl (by rfl) ?_); simp only [Act.put, List.setIfInBounds_toArray, List.set_cons_zero, List.set_cons_succ]
            (first | refine wpS_quiet (some 29) { dst := some 29, op := Op.binOp BinOp.sub 3 (Operand.tmp 28) (Operand.const (Value.int IntKind.i64 1)) 3, type := _, pos := _, after := _, guard := some (3, true) } _ rfl rfl (by rfl) (fun wE hE => by (go_simp; try with_reducible rfl)) ?_ | refine wpS_pass (some 29) _ rfl rfl (by rfl) ?_); simp only [Act.put, List.setIfInBounds_toArray, List.set_cons_zero, List.set_cons_succ]
            (first | refine wpS_quiet (some 30) { dst := some 30, op := Op.indexAddr 53 (Operand.tmp 27) (Operand.tmp 29), type := _, pos := _, after := _, guard := some (3, true) } _ rfl rfl (by rfl) (fun wE hE => by (go_simp; try with_reducible rfl)) ?_ | refine wpS_pass (some 30) _ rfl rfl (by rfl) ?_); simp only [Act.put, List.setIfInBounds_toArray, List.set_cons_zero, List.set_cons_succ]
            (first | refine wpS_quiet (some 31) { dst := some 31, op := Op.load 55 (Operand.tmp 30), type := _, pos := _, after := _, guard := some (3, true) } _ rfl rfl (by rfl) (fun wE hE => by (have zk0 := hE.cellS x0; have zk1 := hE.cellS x1; have zk2 := hE.cellS x2; have zk3 := hE.cellS y0; have zk4 := hE.cellS y1; have zk5 := hE.cellS y2; go_simp; try with_reducible rfl)) ?_ | refine wpS_pass (some 31) _ rfl rfl (by rfl) ?_); simp only [Act.put, List.setIfInBounds_toArray, List.set_cons_zero, List.set_cons_succ]
            refine wpS_call (some 32) { dst := some 32, op := Op.call { callee := Callee.value (Operand.tmp 22), args := #[Operand.tmp 26, Operand.tmp 31], argTypes := #[55, 55] }, type := _, pos := _, after := _, guard := some (3, true) } _ _ rfl rfl (by rfl) (by go_simp; try first | with_reducible rfl | exact ⟨rfl, rfl⟩) ?_
            refine (clo57 x y _).mono ?_; rintro e w5 ⟨rfl, e5⟩; refine ⟨_, rfl, e5, ?_⟩; simp only [Act.put, List.setIfInBounds_toArray, List.set_cons_zero, List.set_cons_succ]
            (first | refine wpS_quiet (some 33) { dst := some 33, op := Op.binOp BinOp.lss 3 (Operand.tmp 32) (Operand.const (Value.int IntKind.i64 0)) 3, type := _, pos := _, after := _, guard := some (3, true) } _ rfl rfl (by rfl) (fun wE hE => by (go_simp; try with_reducible rfl)) ?_ | refine wpS_pass (some 33) _ rfl rfl (by rfl) ?_); simp only [Act.put, List.setIfInBounds_toArray, List.set_cons_zero, List.set_cons_succ]
            refine wpS_quiet (some 34) { dst := some 34, op := Op.pick (Operand.tmp 21) (Operand.tmp 33) (Operand.const (Value.bool false)), type := _, pos := _, after := _, guard := none } _ rfl rfl (by rfl) (fun wE hE => by (go_simp; try with_reducible rfl)) ?_; simp only [Act.put, List.setIfInBounds_toArray, List.set_cons_zero, List.set_cons_succ]
            change Exit.then _ _ _ _ _
            have E5 : Ext wr w5 := e5.undrew
            have K5 := HBi.out.ext E5
            rw [← hcur.out] at K5
            have K5 := Lib.hid K5
            clear e5 x0 x1 x2 y0 y1 y2
            go_wp2_with fail
            go_roundw
            case rel => exact ⟨k + 1, by go_num, by omega, by omega, K5, hEi.trans (E5.toX _)⟩
            case measure => simp [intOf]; omega
    · have hcur : Hid ((sortR (l.take k)).reverse ++ l.drop k = sortD l) := Lib.hid (by rw [List.take_of_length_le (by omega), List.drop_eq_nil_of_le (by omega), List.append_nil]; rfl)
      go_wp2_with fail
      go_end0
      exact ⟨rfl, by have := HB.out; rw [hcur.out] at this; exact this, hE⟩
end Go.Proofs.Ythnhgfpkmbgkdaa
