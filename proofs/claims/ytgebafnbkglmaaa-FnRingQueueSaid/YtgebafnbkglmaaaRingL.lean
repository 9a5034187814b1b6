/-
  A ring, played whole (impl.Ring).
-/
import Derived.Test.YtgebafnbkglmaaaRingP
namespace Go.Proofs.Ytgebafnbkglmaaa
open Go.RowKit
set_option linter.unusedSimpArgs false
set_option linter.unusedVariables false

/-- an operation: a write of one value, or a read -/
abbrev ROp := Option Int
/-- an answer: Ok, N, Vals -/
abbrev RAns := Bool × Int × List Int
def kAns : Rp RAns := Rp.bool.pair (Rp.num.pair (Rp.slice Rp.num))
def kOp : Rp ROp where
  K w ok o cs := match o with
    | some x => ∃ g c, cs = [.int .i64 1, .slice (some ⟨g, c, none⟩) 1 1] ∧ ok g ∧ w.cell? ⟨g, c, none⟩ = some (.int .i64 x)
    | none => cs = [.int .i64 2, .slice none 0 0]
  sz := 2
  pos := by decide
  len := by
    intro w ok a cs h
    cases a with
    | none => rw [h]; rfl
    | some x => obtain ⟨g, c, rfl, _⟩ := h; rfl
  ext := by
    intro w w' ok a cs e h
    cases a with
    | none => exact h
    | some x => obtain ⟨g, c, rfl, hg, hc⟩ := h; exact ⟨g, c, rfl, hg, by rw [World.cell?_of_block (e g hg)]; exact hc⟩
  mono := by
    intro w ok ok' a cs e h
    cases a with
    | none => exact h
    | some x => obtain ⟨g, c, rfl, hg, hc⟩ := h; exact ⟨g, c, rfl, e g hg, hc⟩
  lt := by
    intro w ok a cs h
    cases a with
    | none => exact h
    | some x => obtain ⟨g, c, rfl, hg, hc⟩ := h; exact ⟨g, c, rfl, ⟨hg, cell_lt hc⟩, hc⟩
  one := by
    intro w ok a cs h u hu
    cases a with
    | none => rw [h] at hu; simp at hu; rcases hu with rfl | rfl <;> rfl
    | some x => obtain ⟨g, c, rfl, _⟩ := h; simp at hu; rcases hu with rfl | rfl <;> rfl

def stepQ (q : List Int) : ROp → List Int
  | some x => q ++ [x]
  | none => q.tail
def ansQ (q : List Int) : ROp → RAns
  | some _ => (true, 0, [])
  | none => (!q.isEmpty, 0, q.head?.toList)
def stateQ (q : List Int) (ops : List ROp) : List Int := ops.foldl stepQ q
def answersQ (q : List Int) : List ROp → List RAns
  | [] => []
  | o :: r => ansQ q o :: answersQ (stepQ q o) r
theorem answersQ_snoc (q : List Int) (ops : List ROp) (o : ROp) : answersQ q (ops ++ [o]) = answersQ q ops ++ [ansQ (stateQ q ops) o] := by
  induction ops generalizing q with
  | nil => rfl
  | cons a r ih => simp only [List.cons_append, answersQ, ih, stateQ, List.foldl_cons]
theorem stateQ_snoc (q : List Int) (ops : List ROp) (o : ROp) : stateQ q (ops ++ [o]) = stepQ (stateQ q ops) o := by simp [stateQ]
theorem answersQ_length (q : List Int) (ops : List ROp) : (answersQ q ops).length = ops.length := by
  induction ops generalizing q with
  | nil => rfl
  | cons a r ih => simp [answersQ, ih]
theorem stateQ_le (q : List Int) (ops : List ROp) : (stateQ q ops).length ≤ q.length + ops.length := by
  induction ops generalizing q with
  | nil => simp [stateQ]
  | cons a r ih =>
    have := ih (stepQ q a)
    have h2 : (stepQ q a).length ≤ q.length + 1 := by cases a <;> simp [stepQ]; omega
    simp only [stateQ, List.foldl_cons] at this ⊢
    simp
    omega

/-- an operation played -/
theorem rung_any (r : Value) (b db : Nat) (q : List Int) (hq : q.length ≤ 1000000) (o : ROp) (c0 c1 : Value) (w : World) (h : RingV w r b db q) (ho : kOp.K w (fun k => k ≠ b ∧ k ≠ db) o [c0, c1]) :
    Calls Try.prog 12 #[r, .agg #[c0, c1]] w fun e w' => ∃ A n c db', e = .returned (.agg #[.bool (ansQ q o).1, .int .i64 (ansQ q o).2.1, .slice A n c]) ∧
      (Rp.slice Rp.num).K w' (fun k => w.heap.size ≤ k ∧ k ≠ db') (ansQ q o).2.2 [.slice A n c] ∧ RingV w' r b db' (stepQ q o) ∧ (db' = db ∨ w.heap.size ≤ db') ∧ ExtX (fun k => k = b ∨ k = db) w w' := by
  cases o with
  | none =>
    have ho' : [c0, c1] = [Value.int .i64 2, Value.slice none 0 0] := ho
    simp only [List.cons.injEq, and_true] at ho'
    obtain ⟨rfl, rfl⟩ := ho'
    refine (rungRead r b db q _ rfl w h).mono ?_
    rintro e w' ⟨v, db', rfl, hv, h2⟩
    obtain ⟨A, cap, hv1, hv2⟩ := id hv
    simp only [List.cons.injEq, and_true] at hv1
    subst hv1
    exact ⟨A, _, cap, db', rfl, hv, h2⟩
  | some x =>
    obtain ⟨g, c, ho', ⟨h1, h2⟩, h3⟩ := ho
    simp only [List.cons.injEq, and_true] at ho'
    obtain ⟨rfl, rfl⟩ := ho'
    refine (rungWrite r b db q x hq g c w h3 h1 h2 h).mono ?_
    rintro e w' ⟨rfl, db', h4⟩
    exact ⟨none, 0, 0, db', rfl, ⟨none, 0, rfl, Nat.le_refl _, by decide, fun _ => rfl, fun i y hy => by simp [ansQ] at hy⟩, h4⟩
theorem infoAns : (Try.prog.info? 31).map (fun i => (i.zero, i.size, i.bytes)) = some (some (.agg #[.bool false, .int .i64 0, .slice none 0 0]), 3, 40) := by kernel_rfl

theorem within_any (m : Nat) (hm : m ≤ 200) (w : World) : Calls Try.prog 7 #[.int .i64 m, .int .i64 0, .int .i64 65536] w fun e w' => e = .returned (.int .i64 m) ∧ w = w' := by
  go_enter Try.func7, Try.ntmps7
  go_wp2
  · go_ret
    exact ⟨rfl, rfl⟩
  · go_ret
    obtain rfl : m = 0 := by omega
    exact ⟨rfl, rfl⟩


set_option maxHeartbeats 2000000 in
theorem ring_any (k n m : Nat) (hk : k ≤ 1) (hn : n ≤ 200) (hm : m ≤ 200) (v : Value) (ops : List ROp) (hl : ops.length ≤ 100000) (w0 : World) (h : (Rp.slice kOp).K w0 any ops [v]) :
    Calls Try.prog 5 #[.int .i64 k, .int .i64 n, .int .i64 m, v] w0 fun e w' => ∃ v', e = .returned (.tuple #[v', .bool true]) ∧ (Rp.slice kAns).K w' (fun k => w0.heap.size ≤ k) (answersQ [] ops) [v'] ∧ Ext w0 w' := by
  obtain ⟨A, cap, hv, h1, h2, h3, hrow⟩ := h
  simp only [List.cons.injEq, and_true] at hv
  subst hv
  have hcap : ops.length ≤ 9223372036854775807 := by omega
  have hK : k = 0 ∨ k = 1 := by omega
  rcases hK with rfl | rfl
  · go_enter Try.func5, Try.ntmps5
    go_wp2_with fail
    refine (within_any m hm _).mono ?_
    rintro e w1 ⟨rfl, rfl⟩
    go_wp2_with fail
    refine (newGrowing n (by omega) _).mono ?_
    rintro e w1 ⟨b, db, rfl, hr, hb, hdb, e1⟩
    have hring : RingV w1 (.iface 41 (.pointer (some ⟨b, 0, none⟩))) b db [] := .inl ⟨rfl, _, _, hr⟩
    have E0 := e1
    replace hring := Lib.hid hring
    go_wp2_with fail
    obtain ⟨i0, hi, hz0, hz1, hz2⟩ := info_parts infoAns
    have hrow := Lib.hid hrow
    clear hr
    go_loopw [10, 15] (fun out i wr => ∃ (k db' : Nat), k ≤ ops.length ∧ i = .int .i64 k ∧ Ext w0 wr ∧ RingV wr (.iface 41 (.pointer (some ⟨b, 0, none⟩))) b db' (stateQ [] (ops.take k)) ∧ w0.heap.size ≤ db' ∧
      OwnP kAns wr (fun j => w0.heap.size ≤ j ∧ j ≠ b ∧ j ≠ db') w0.heap.size 31 out (answersQ [] (ops.take k))) (fun _ i _ => ops.length - (intOf i).toNat)
    case atStart => exact ⟨0, db, Nat.zero_le _, rfl, E0, hring.out, hdb, OwnP.nil _ _ _ _ _⟩
    case round =>
      obtain ⟨k, db', hk, rfl, he, hrg, hdb', hown⟩ := hrel
      by_cases hlt : k < ops.length
      · obtain ⟨bo, o, rfl, _⟩ := hrow.out.addr (by intro h; simp [h] at hlt)
        obtain ⟨cs, hcl, hKo, hc⟩ := hrow.out.at rfl (List.getElem?_eq_getElem hlt)
        obtain ⟨d0, d1, rfl⟩ : ∃ d0 d1, cs = [d0, d1] := by
          match cs, hcl with
          | [d0, d1], _ => exact ⟨d0, d1, rfl⟩
        have c0 : wr.cell? ⟨bo, o + k * 2, none⟩ = some d0 := he.cellS (hc 0 (by decide))
        have c1 : wr.cell? ⟨bo, o + k * 2 + 1, none⟩ = some d1 := he.cellS (by have := hc 1 (by decide); rwa [← Nat.add_assoc] at this)
        have hKo2 : kOp.K wr (fun j => j ≠ b ∧ j ≠ db') ops[k] [d0, d1] := kOp.mono (fun j hj => ⟨by have := hj.2; omega, by have := hj.2; omega⟩) (kOp.ext' he (kOp.lt hKo))
        have HT : ops.take (k + 1) = ops.take k ++ [ops[k]] := List.take_succ_eq_append_getElem hlt
        have HST : Hid (stateQ [] (ops.take (k + 1)) = stepQ (stateQ [] (ops.take k)) ops[k]) := Lib.hid (by rw [HT, stateQ_snoc])
        have HAN : Hid (answersQ [] (ops.take (k + 1)) = answersQ [] (ops.take k) ++ [ansQ (stateQ [] (ops.take k)) ops[k]]) := Lib.hid (by rw [HT, answersQ_snoc])
        have hq : (stateQ [] (ops.take k)).length ≤ 1000000 := by have := stateQ_le [] (ops.take k); simp at this; omega
        have HL : Hid ((answersQ [] (ops.take k)).length = k) := Lib.hid (by rw [answersQ_length]; simp; omega)
        clear hc hcl HT
        generalize ops[k] = op at *
        generalize stateQ [] (ops.take k) = q at *
        generalize answersQ [] (ops.take k) = an at *
        have HK := Lib.hid hKo2
        clear hKo hKo2
        go_wp2_with fail
        refine (rung_any _ b db' q hq op d0 d1 _ hrg HK.out).mono ?_
        rintro e w1 ⟨A1, n1, k1, db2, rfl, hv, hr2, hdb2, e2⟩
        have lb := hrg.lt
        have lb2 := hr2.lt
        have z1 : wr.heap.size ≤ w1.heap.size := e2.size
        have z0 : w0.heap.size ≤ wr.heap.size := he.size
        have own2 : OwnP kAns (w1.alloc (.cells [Value.bool (ansQ q op).1, Value.int .i64 (ansQ q op).2.1, Value.slice A1 n1 k1].toArray 31)) (fun j => w0.heap.size ≤ j ∧ j ≠ b ∧ j ≠ db2) w0.heap.size 31 u10 an :=
          (((hown.turn (ok' := fun j => (w0.heap.size ≤ j ∧ j ≠ b ∧ j ≠ db') ∧ (w0.heap.size ≤ j ∧ j ≠ b ∧ j ≠ db2)) (fun j h hj => ⟨h, h.1, h.2.1, by rcases hdb2 with hd | hd; rw [hd]; exact h.2.2; omega⟩)).extX e2 (fun j h _ h' => by rcases h' with h' | h'; exact h.1.2.1 h'; exact h.1.2.2 h')).turn (fun j h _ => h.2)).ext ((Ext.refl w1).alloc _)
        have hK : ∀ i y, [ansQ q op][i]? = some y → kAns.K (w1.alloc (.cells [Value.bool (ansQ q op).1, Value.int .i64 (ansQ q op).2.1, Value.slice A1 n1 k1].toArray 31)) (fun j => (w0.heap.size ≤ j ∧ j ≠ b ∧ j ≠ db2) ∧ some j ≠ u10.ownBlock) y (([Value.bool (ansQ q op).1, Value.int .i64 (ansQ q op).2.1, Value.slice A1 n1 k1].drop (i * kAns.sz)).take kAns.sz) := by
          refine one_elem (p := fun i y => kAns.K (w1.alloc (.cells [Value.bool (ansQ q op).1, Value.int .i64 (ansQ q op).2.1, Value.slice A1 n1 k1].toArray 31)) (fun j => (w0.heap.size ≤ j ∧ j ≠ b ∧ j ≠ db2) ∧ some j ≠ u10.ownBlock) y (([Value.bool (ansQ q op).1, Value.int .i64 (ansQ q op).2.1, Value.slice A1 n1 k1].drop (i * kAns.sz)).take kAns.sz)) ?_
          refine ⟨[_], _, rfl, rfl, [_], _, rfl, rfl, ?_⟩
          refine (Rp.slice Rp.num).mono (fun j hj => ⟨⟨by omega, by omega, hj.2⟩, hown.notOwn (.inl hj.1)⟩) ((Rp.slice Rp.num).ext' ((Ext.refl w1).alloc _) hv)
        have h63 : an.length + [ansQ q op].length ≤ maxLen := by have := HL.out; simp [maxLen]; omega
        have hby : (an.length + [ansQ q op].length) * 40 ≤ 140737488355328 := by have := HL.out; simp; omega
        have hbs : w0.heap.size ≤ (w1.alloc (.cells [Value.bool (ansQ q op).1, Value.int .i64 (ansQ q op).2.1, Value.slice A1 n1 k1].toArray 31)).heap.size := by simp; omega
        have hfr : ∀ j, (w1.alloc (.cells [Value.bool (ansQ q op).1, Value.int .i64 (ansQ q op).2.1, Value.slice A1 n1 k1].toArray 31)).heap.size ≤ j → (w0.heap.size ≤ j ∧ j ≠ b ∧ j ≠ db2) := by intro j hj; simp at hj; omega
        have HKK := Lib.hid hK
        have HFR := Lib.hid hfr
        have HV := Lib.hid hv
        clear hK hfr hv
        go_wp2_with (at_builtin; refine wpList_app (d := kAns) (base := w0.heap.size) rfl (.tmp 72) (.tmp 79) 27 rfl 31 i0 _ 40 Try.underlying27 hi hz0 hz1 hz2 rfl (v := u10) rfl own2 HFR.out ⟨w1.heap.size, 0, none⟩ 1 _ [ansQ q op] rfl rfl (lit_cells w1 _ _) HKK.out h63 hby hbs ?_; intro v' w2 own3 g2 f2)
        go_roundw
        case rel =>
          have EX : ExtX (fun j => j = b ∨ j = db' ∨ some j = u10.ownBlock) w0 w2 :=
            (((he.toX _).trans' e2 (fun j _ h => by rcases h with h | h; exact .inl h; exact .inr (.inl h))).alloc _).grown g2 (fun j hj => .inr (.inr hj.symm))
          have ER := hr2.extX (M := fun j => some j = u10.ownBlock) (((ExtX.refl _ w1).alloc _).grown g2 (fun j hj => hj.symm)) (fun h => (own2.1 b h.symm).2.1 rfl) (fun h => (own2.1 db2 h.symm).2.2 rfl)
          exact ⟨k + 1, db2, by omega, by go_num, EX.toExt (fun j hj => by rcases hj with hj | hj | hj; omega; omega; exact (hown.own j hj.symm).1), by rw [HST.out]; exact ER, by omega, by rw [HAN.out]; exact own3⟩
        case measure => simp [intOf]; omega
      · have hkl : ops.take k = ops := List.take_of_length_le (by omega)
        rw [hkl] at hown
        clear hrg
        go_wp2
        go_ret2
        exact ⟨_, rfl, (Rp.slice kAns).mono (fun j hj => hj.1) hown.slice, he⟩
  · go_enter Try.func5, Try.ntmps5
    go_wp2_with fail
    refine (within_any m hm _).mono ?_
    rintro e w1 ⟨rfl, rfl⟩
    go_wp2_with fail
    refine (newGrowing n (by omega) _).mono ?_
    rintro e w1 ⟨b0, db0, rfl, hr0, hb0, hdb0, e0⟩
    go_wp2_with fail
    refine (newRing n m (by omega) _).mono ?_
    rintro e w2 ⟨b, db, rfl, hr, hb, hdb, e1⟩
    have hring : RingV w2 (.iface 47 (.pointer (some ⟨b, 0, none⟩))) b db [] := .inr ⟨rfl, m, by omega, _, _, hr⟩
    have E0 := e0.trans e1
    have sz := e0.size
    replace hb := Nat.le_trans sz hb
    replace hdb := Nat.le_trans sz hdb
    replace hring := Lib.hid hring
    go_wp2_with fail
    obtain ⟨i0, hi, hz0, hz1, hz2⟩ := info_parts infoAns
    have hrow := Lib.hid hrow
    clear hr
    go_loopw [10, 15] (fun out i wr => ∃ (k db' : Nat), k ≤ ops.length ∧ i = .int .i64 k ∧ Ext w0 wr ∧ RingV wr (.iface 47 (.pointer (some ⟨b, 0, none⟩))) b db' (stateQ [] (ops.take k)) ∧ w0.heap.size ≤ db' ∧
      OwnP kAns wr (fun j => w0.heap.size ≤ j ∧ j ≠ b ∧ j ≠ db') w0.heap.size 31 out (answersQ [] (ops.take k))) (fun _ i _ => ops.length - (intOf i).toNat)
    case atStart => exact ⟨0, db, Nat.zero_le _, rfl, E0, hring.out, hdb, OwnP.nil _ _ _ _ _⟩
    case round =>
      obtain ⟨k, db', hk, rfl, he, hrg, hdb', hown⟩ := hrel
      by_cases hlt : k < ops.length
      · obtain ⟨bo, o, rfl, _⟩ := hrow.out.addr (by intro h; simp [h] at hlt)
        obtain ⟨cs, hcl, hKo, hc⟩ := hrow.out.at rfl (List.getElem?_eq_getElem hlt)
        obtain ⟨d0, d1, rfl⟩ : ∃ d0 d1, cs = [d0, d1] := by
          match cs, hcl with
          | [d0, d1], _ => exact ⟨d0, d1, rfl⟩
        have c0 : wr.cell? ⟨bo, o + k * 2, none⟩ = some d0 := he.cellS (hc 0 (by decide))
        have c1 : wr.cell? ⟨bo, o + k * 2 + 1, none⟩ = some d1 := he.cellS (by have := hc 1 (by decide); rwa [← Nat.add_assoc] at this)
        have hKo2 : kOp.K wr (fun j => j ≠ b ∧ j ≠ db') ops[k] [d0, d1] := kOp.mono (fun j hj => ⟨by have := hj.2; omega, by have := hj.2; omega⟩) (kOp.ext' he (kOp.lt hKo))
        have HT : ops.take (k + 1) = ops.take k ++ [ops[k]] := List.take_succ_eq_append_getElem hlt
        have HST : Hid (stateQ [] (ops.take (k + 1)) = stepQ (stateQ [] (ops.take k)) ops[k]) := Lib.hid (by rw [HT, stateQ_snoc])
        have HAN : Hid (answersQ [] (ops.take (k + 1)) = answersQ [] (ops.take k) ++ [ansQ (stateQ [] (ops.take k)) ops[k]]) := Lib.hid (by rw [HT, answersQ_snoc])
        have hq : (stateQ [] (ops.take k)).length ≤ 1000000 := by have := stateQ_le [] (ops.take k); simp at this; omega
        have HL : Hid ((answersQ [] (ops.take k)).length = k) := Lib.hid (by rw [answersQ_length]; simp; omega)
        clear hc hcl HT
        generalize ops[k] = op at *
        generalize stateQ [] (ops.take k) = q at *
        generalize answersQ [] (ops.take k) = an at *
        have HK := Lib.hid hKo2
        clear hKo hKo2
        go_wp2_with fail
        refine (rung_any _ b db' q hq op d0 d1 _ hrg HK.out).mono ?_
        rintro e w1 ⟨A1, n1, k1, db2, rfl, hv, hr2, hdb2, e2⟩
        have lb := hrg.lt
        have lb2 := hr2.lt
        have z1 : wr.heap.size ≤ w1.heap.size := e2.size
        have z0 : w0.heap.size ≤ wr.heap.size := he.size
        have own2 : OwnP kAns (w1.alloc (.cells [Value.bool (ansQ q op).1, Value.int .i64 (ansQ q op).2.1, Value.slice A1 n1 k1].toArray 31)) (fun j => w0.heap.size ≤ j ∧ j ≠ b ∧ j ≠ db2) w0.heap.size 31 u10 an :=
          (((hown.turn (ok' := fun j => (w0.heap.size ≤ j ∧ j ≠ b ∧ j ≠ db') ∧ (w0.heap.size ≤ j ∧ j ≠ b ∧ j ≠ db2)) (fun j h hj => ⟨h, h.1, h.2.1, by rcases hdb2 with hd | hd; rw [hd]; exact h.2.2; omega⟩)).extX e2 (fun j h _ h' => by rcases h' with h' | h'; exact h.1.2.1 h'; exact h.1.2.2 h')).turn (fun j h _ => h.2)).ext ((Ext.refl w1).alloc _)
        have hK : ∀ i y, [ansQ q op][i]? = some y → kAns.K (w1.alloc (.cells [Value.bool (ansQ q op).1, Value.int .i64 (ansQ q op).2.1, Value.slice A1 n1 k1].toArray 31)) (fun j => (w0.heap.size ≤ j ∧ j ≠ b ∧ j ≠ db2) ∧ some j ≠ u10.ownBlock) y (([Value.bool (ansQ q op).1, Value.int .i64 (ansQ q op).2.1, Value.slice A1 n1 k1].drop (i * kAns.sz)).take kAns.sz) := by
          refine one_elem (p := fun i y => kAns.K (w1.alloc (.cells [Value.bool (ansQ q op).1, Value.int .i64 (ansQ q op).2.1, Value.slice A1 n1 k1].toArray 31)) (fun j => (w0.heap.size ≤ j ∧ j ≠ b ∧ j ≠ db2) ∧ some j ≠ u10.ownBlock) y (([Value.bool (ansQ q op).1, Value.int .i64 (ansQ q op).2.1, Value.slice A1 n1 k1].drop (i * kAns.sz)).take kAns.sz)) ?_
          refine ⟨[_], _, rfl, rfl, [_], _, rfl, rfl, ?_⟩
          refine (Rp.slice Rp.num).mono (fun j hj => ⟨⟨by omega, by omega, hj.2⟩, hown.notOwn (.inl hj.1)⟩) ((Rp.slice Rp.num).ext' ((Ext.refl w1).alloc _) hv)
        have h63 : an.length + [ansQ q op].length ≤ maxLen := by have := HL.out; simp [maxLen]; omega
        have hby : (an.length + [ansQ q op].length) * 40 ≤ 140737488355328 := by have := HL.out; simp; omega
        have hbs : w0.heap.size ≤ (w1.alloc (.cells [Value.bool (ansQ q op).1, Value.int .i64 (ansQ q op).2.1, Value.slice A1 n1 k1].toArray 31)).heap.size := by simp; omega
        have hfr : ∀ j, (w1.alloc (.cells [Value.bool (ansQ q op).1, Value.int .i64 (ansQ q op).2.1, Value.slice A1 n1 k1].toArray 31)).heap.size ≤ j → (w0.heap.size ≤ j ∧ j ≠ b ∧ j ≠ db2) := by intro j hj; simp at hj; omega
        have HKK := Lib.hid hK
        have HFR := Lib.hid hfr
        have HV := Lib.hid hv
        clear hK hfr hv
        go_wp2_with (at_builtin; refine wpList_app (d := kAns) (base := w0.heap.size) rfl (.tmp 72) (.tmp 79) 27 rfl 31 i0 _ 40 Try.underlying27 hi hz0 hz1 hz2 rfl (v := u10) rfl own2 HFR.out ⟨w1.heap.size, 0, none⟩ 1 _ [ansQ q op] rfl rfl (lit_cells w1 _ _) HKK.out h63 hby hbs ?_; intro v' w2 own3 g2 f2)
        go_roundw
        case rel =>
          have EX : ExtX (fun j => j = b ∨ j = db' ∨ some j = u10.ownBlock) w0 w2 :=
            (((he.toX _).trans' e2 (fun j _ h => by rcases h with h | h; exact .inl h; exact .inr (.inl h))).alloc _).grown g2 (fun j hj => .inr (.inr hj.symm))
          have ER := hr2.extX (M := fun j => some j = u10.ownBlock) (((ExtX.refl _ w1).alloc _).grown g2 (fun j hj => hj.symm)) (fun h => (own2.1 b h.symm).2.1 rfl) (fun h => (own2.1 db2 h.symm).2.2 rfl)
          exact ⟨k + 1, db2, by omega, by go_num, EX.toExt (fun j hj => by rcases hj with hj | hj | hj; omega; omega; exact (hown.own j hj.symm).1), by rw [HST.out]; exact ER, by omega, by rw [HAN.out]; exact own3⟩
        case measure => simp [intOf]; omega
      · have hkl : ops.take k = ops := List.take_of_length_le (by omega)
        rw [hkl] at hown
        clear hrg
        go_wp2
        go_ret2
        exact ⟨_, rfl, (Rp.slice kAns).mono (fun j hj => hj.1) hown.slice, he⟩
end Go.Proofs.Ytgebafnbkglmaaa
