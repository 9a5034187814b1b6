/-
  container/list: a list as a row of items ('LSt'): made, put ahead, moved to the front, taken out, the last one.
-/
import Derived.Test.YtphhkphibdiahaaLb
import Derived.Handy
import Derived.Laws.EntriesVeiled
namespace Go.Proofs.Ytphhkphibdiahaa
open Go.RowKit
set_option linter.unusedSimpArgs false
set_option linter.unusedVariables false

abbrev ids (its : List It) : List Nat := its.map (·.e)
/-- the list at block l holds these items -/
def LSt (w : World) (l : Nat) (its : List It) : Prop := (l :: ids its).Nodup ∧ ∃ N P, Ring N P l (ids its) ∧ DC w l its.length its N P
namespace LSt
variable {w w' : World} {l : Nat} {its : List It}
theorem extX {M : Nat → Prop} (h : LSt w l its) (x : ExtX M w w') (hl : ¬ M l) (hi : ∀ x ∈ its, ¬ M x.e) : LSt w' l its := by
  obtain ⟨h1, N, P, h2, h3⟩ := h
  exact ⟨h1, N, P, h2, h3.extX x hl hi⟩
theorem ext (h : LSt w l its) (x : Ext w w') : LSt w' l its := h.extX (x.toX (fun _ => False)) (fun h => h) (fun _ _ h => h)
theorem lst (h : LSt w l its) : ∃ n p, Blk w l 127 (lsCells n p its.length) := by obtain ⟨_, N, P, _, h3⟩ := h; exact ⟨_, _, h3.1⟩
theorem elem (h : LSt w l its) {x : It} (hx : x ∈ its) : ∃ n p, Blk w x.e 106 (elCells n p l x.t) := by obtain ⟨_, N, P, _, h3⟩ := h; exact ⟨_, _, h3.2 x hx⟩
theorem lt (h : LSt w l its) {b : Nat} (hb : InR l its b) : b < w.heap.size := by
  obtain ⟨_, N, P, _, h3⟩ := h
  obtain ⟨T, cs, k⟩ := h3.blk hb
  exact k.lt
end LSt
theorem inR_head (l : Nat) (its Z : List It) (hz : ∀ x ∈ Z, x ∈ its) : InR l its (headL l (ids Z)) := by
  rcases headL_mem l (ids Z) with h | h
  · exact .inl h
  · obtain ⟨x, hx, he⟩ := List.mem_map.1 h
    exact .inr ⟨x, hz x hx, he⟩
theorem inR_last (l : Nat) (its Z : List It) (hz : ∀ x ∈ Z, x ∈ its) : InR l its (lastL l (ids Z)) := by
  rcases lastL_mem l (ids Z) with h | h
  · exact .inl h
  · obtain ⟨x, hx, he⟩ := List.mem_map.1 h
    exact .inr ⟨x, hz x hx, he⟩
theorem ids_mid (X Y : List It) (x : It) : ids (X ++ x :: Y) = ids X ++ x.e :: ids Y := by simp [ids]
theorem ids_app (X Y : List It) : ids (X ++ Y) = ids X ++ ids Y := by simp [ids]
theorem nodup_front {l e : Nat} {X Y : List Nat} (h : (l :: (X ++ e :: Y)).Nodup) : (l :: e :: (X ++ Y)).Nodup := by
  refine (List.Perm.nodup_iff ?_).1 h
  exact List.Perm.cons _ List.perm_middle
theorem nodup_out {l e : Nat} {X Y : List Nat} (h : (l :: (X ++ e :: Y)).Nodup) : (l :: (X ++ Y)).Nodup := by
  refine h.sublist ?_
  exact (List.Sublist.cons_cons _ (List.Sublist.append (List.Sublist.refl _) (List.sublist_cons_self _ _)))

theorem newList_any (w : World) : Calls Try.prog 60 #[] w fun r w' => ∃ l, r = .returned (pv l) ∧ l = w.heap.size ∧ LSt w' l [] ∧ Ext w w' := by
  go_enter Try.func60, Try.ntmps60
  go_wp2
  go_ret
  refine ⟨_, rfl, rfl, ⟨by simp, fun _ => w.heap.size, fun _ => w.heap.size, ⟨rfl, rfl, trivial⟩, ?_, by simp⟩, ?_⟩
  · exact Blk.new w 127 (lsCells w.heap.size w.heap.size 0)
  · exact (Ext.refl w).alloc _
theorem lenList_any (l : Nat) (its : List It) (w : World) (h : LSt w l its) : Calls Try.prog 63 #[pv l] w fun r w' => r = .returned (.int .i64 its.length) ∧ w = w' := by
  obtain ⟨n, p, K⟩ := h.lst
  have c4 := K.cell (o := 4) rfl
  clear K h
  go_enter Try.func63, Try.ntmps63
  go_wp2
  go_ret
  exact ⟨rfl, rfl⟩
/-- the last one -/
def backV (its : List It) : Value := match its.getLast? with | some x => pv x.e | none => .pointer none
theorem back_any (l : Nat) (its : List It) (w : World) (h : LSt w l its) (hn : its.length ≤ 1000000) : Calls Try.prog 65 #[pv l] w fun r w' => r = .returned (backV its) ∧ w = w' := by
  obtain ⟨h1, N, P, h2, h3⟩ := h
  have c4 := h3.1.cell (o := 4) rfl
  have c1 := h3.1.cell (o := 1) rfl
  have hP := h2.lastP
  rcases List.eq_nil_or_concat its with rfl | ⟨A, x, rfl⟩
  · clear h2 h3 hP h1
    go_enter Try.func65, Try.ntmps65
    go_wp2
    go_ret
    exact ⟨rfl, rfl⟩
  · rw [List.concat_eq_append] at *
    have hlen : (A ++ [x]).length = A.length + 1 := by simp
    rw [hlen] at c4 hn
    have e1 : lastL l (ids (A ++ [x])) = x.e := by simp [lastL, ids]
    rw [hP, e1] at c1
    have hpos : ¬ ((A.length + 1 : Nat) : Int) = 0 := by omega
    clear h2 h3 hP h1 hlen e1
    go_enter Try.func65, Try.ntmps65
    go_wp2
    go_ret
    exact ⟨by simp [backV], rfl⟩
set_option maxRecDepth 20000 in
set_option maxHeartbeats 1000000 in
theorem moveF_any (l : Nat) (X Y : List It) (x : It) (w : World) (h : LSt w l (X ++ x :: Y)) :
    Calls Try.prog 61 #[pv l, pv x.e] w fun r w' => r = .returned (.tuple #[]) ∧ LSt w' l (x :: (X ++ Y)) ∧ ExtX (fun k => InR l (X ++ x :: Y) k) w w' := by
  have HL := Lib.hid h
  obtain ⟨h1, N, P, h2, h3⟩ := h
  have hx : x ∈ X ++ x :: Y := by simp
  have c2 := (h3.2 x hx).cell (o := 2) rfl
  have cl0 := h3.1.cell (o := 0) rfl
  have q1 := neL_same l w
  have hF := h2.first
  cases X with
  | nil =>
    have e1 : headL l (ids ([] ++ x :: Y)) = x.e := rfl
    rw [hF, e1] at cl0
    have q2 := eqE_same x.e w
    clear h1 h2 h3 hF e1 hx
    go_enter Try.func61, Try.ntmps61
    go_wp2_with fail
    refine bodyPost_ret (results_none rfl _ _ _) rfl ?_
    exact ⟨rfl, HL.out, ExtX.refl _ _⟩
  | cons y X =>
    have e1 : headL l (ids (y :: X ++ x :: Y)) = y.e := rfl
    rw [hF, e1] at cl0
    rw [ids_mid] at h1 h2
    have hn := nodup_split h1
    have hye : y.e ≠ x.e := fun he => hn.2.2.2.1 (by rw [← he]; simp [ids])
    have hyl : y.e ≠ l := fun he => hn.1 (by rw [← he]; simp [ids])
    have hm := h2.mid
    have hX : ∀ z ∈ y :: X, z ∈ y :: X ++ x :: Y := fun z hz => by simp at hz ⊢; rcases hz with h | h <;> simp [h]
    have hY : ∀ z ∈ Y, z ∈ y :: X ++ x :: Y := fun z hz => by simp [hz]
    have hpX : lastL l (ids (y :: X)) ∈ ids (y :: X) := by
      rcases lastL_mem l (ids (y :: X)) with h | h
      · exfalso
        have : lastL l (ids (y :: X)) ∈ ids (y :: X) := by
          simp only [lastL, ids, List.map_cons]
          cases hq : (y.e :: X.map (·.e)).getLast? with
          | none => simp at hq
          | some q => exact List.mem_of_getLast? hq
        exact hn.1 (h ▸ this)
      · exact h
    have hpl : lastL l (ids (y :: X)) ≠ l := fun he => hn.1 (he ▸ hpX)
    have hep : x.e ≠ lastL l (ids (y :: X)) := fun he => hn.2.2.2.1 (he ▸ hpX)
    have hen : x.e ≠ headL l (ids Y) := fun he => by
      rcases headL_mem l (ids Y) with h | h
      · exact hn.2.2.1 (h.symm.trans he.symm)
      · exact hn.2.2.2.2.1 (he ▸ h)
    have q2 := eqE_other (h3.2 y (by simp)) (h3.2 x hx) hye
    have HM := Lib.hid (move_any l x.e (lastL l (ids (y :: X))) (headL l (ids Y)) y.e _ _ N P w h3 (.inr ⟨x, hx, rfl⟩) (inR_last l _ _ hX) (inR_head l _ _ hY) (.inr ⟨y, by simp, rfl⟩) hm.1 hm.2 (hF.trans e1) (Ne.symm hn.2.2.1) hep hen hpl hye hyl)
    have HR : Hid (Ring (upd (upd (upd N (lastL l (ids (y :: X))) (headL l (ids Y))) x.e y.e) l x.e) (upd (upd (upd P (headL l (ids Y)) (lastL l (ids (y :: X)))) x.e l) y.e x.e) l (x.e :: (ids (y :: X) ++ ids Y))) := Lib.hid (by
      have h4 := h2.out h1
      have h5 := h4.front (e := x.e) (nodup_front h1)
      exact h5)
    have HN := Lib.hid (nodup_front h1)
    clear h1 h2 h3 hF e1 hm hX hY hpX hpl hep hen hx hn HL hyl
    go_enter Try.func61, Try.ntmps61
    go_wp2_with fail
    refine HM.out.mono ?_
    rintro r w1 ⟨rfl, h4, x4⟩
    have H4 := Lib.hid h4
    have X4 := Lib.hid x4
    clear h4 x4 hye q1 q2
    go_wp2_with fail
    go_end0
    have hring := HR.out
    rw [show x.e :: (ids (y :: X) ++ ids Y) = ids (x :: (y :: X ++ Y)) by simp [ids]] at hring
    refine ⟨rfl, ⟨?_, _, _, hring, ?_⟩, X4.out⟩
    · have := HN.out; simpa [ids] using this
    · have h5 := H4.out.sub (its' := x :: (y :: X ++ Y)) (fun z hz => by simp at hz ⊢; rcases hz with h | h | h | h <;> simp [h])
      have hl : (y :: X ++ x :: Y).length = (x :: (y :: X ++ Y)).length := by simp; omega
      rw [hl] at h5
      exact h5
set_option maxRecDepth 20000 in
set_option maxHeartbeats 1000000 in
theorem insV_any (l t : Nat) (its : List It) (w : World) (h : LSt w l its) (hn : its.length ≤ 1000) :
    Calls Try.prog 91 #[pv l, .iface 104 (pv t), pv l] w fun r w' => ∃ e, r = .returned (pv e) ∧ e = w.heap.size ∧ (∀ k v, LSt w' l (⟨e, t, k, v⟩ :: its)) ∧ ExtX (fun k => InR l its k) w w' := by
  have hlt := fun b (hb : InR l its b) => h.lt hb
  obtain ⟨h1, N, P, h2, h3⟩ := h
  have hF := h2.first
  have E0 : Ext w (w.alloc (.cells #[.pointer none, .pointer none, .pointer none, .iface 104 (pv t)] 106)) := (Ext.refl w).alloc _
  have hne : ∀ y ∈ its, y.e ≠ w.heap.size ∧ y.e ≠ l := fun y hy => ⟨fun he => by have := hlt y.e (.inr ⟨y, hy, rfl⟩); omega, fun he => (List.nodup_cons.1 h1).1 (by rw [← he]; exact List.mem_map.2 ⟨y, hy, rfl⟩)⟩
  have hfl := hlt _ (inR_head l its its (fun _ h => h))
  have hll := hlt l (.inl rfl)
  have HI := Lib.hid (fun k v => ins_any l (headL l (ids its)) ⟨w.heap.size, t, k, v⟩ its.length its N P _ (h3.extX (E0.toX fun _ => False) (fun h => h) (fun _ _ h => h)) (Blk.new w 106 [.pointer none, .pointer none, .pointer none, .iface 104 (pv t)]) (inR_head l its its (fun _ h => h)) hF (by show w.heap.size ≠ l; omega) (by show _ ≠ w.heap.size; omega) (by omega) (by omega) hne)
  have HR := Lib.hid h2
  have HN1 : Hid ((l :: w.heap.size :: ids its).Nodup) := Lib.hid (by
    obtain ⟨a1, a2⟩ := List.nodup_cons.1 h1
    refine List.nodup_cons.2 ⟨?_, List.nodup_cons.2 ⟨?_, a2⟩⟩
    · simp only [List.mem_cons, not_or]; exact ⟨by omega, a1⟩
    · intro hm
      obtain ⟨y, hy, he⟩ := List.mem_map.1 hm
      exact (hne y hy).1 he)
  have HF := Lib.hid hF
  have HLT := Lib.hid hlt
  clear h1 h2 h3 hF hne hfl hll hlt
  go_enter Try.func91, Try.ntmps91
  go_wp2_with fail
  refine (HI.out 0 0).mono ?_
  rintro r w1 ⟨rfl, h4, x4⟩
  have H4 := Lib.hid h4
  have X4 := Lib.hid x4
  clear h4 x4
  go_wp2_with fail
  go_ret
  refine ⟨_, rfl, rfl, fun k v => ⟨HN1.out, _, _, HR.out.front HN1.out, ?_⟩, ?_⟩
  · have h5 := H4.out
    refine ⟨by have := h5.1; simpa using this, fun y hy => ?_⟩
    rcases List.mem_cons.1 hy with rfl | hy
    · exact h5.2 ⟨w.heap.size, t, 0, 0⟩ (List.mem_cons_self ..)
    · exact h5.2 y (List.mem_cons_of_mem _ hy)
  · refine (E0.toX _).trans' X4.out fun k hk hm => ?_
    rcases hm with h | ⟨y, hy, he⟩
    · exact .inl h
    · rcases List.mem_cons.1 hy with rfl | hy
      · have he : w.heap.size = k := he
        omega
      · exact .inr ⟨y, hy, he⟩
set_option maxRecDepth 20000 in
set_option maxHeartbeats 1000000 in
theorem pushF_any (l t : Nat) (its : List It) (w : World) (h : LSt w l its) (hn : its.length ≤ 1000) :
    Calls Try.prog 62 #[pv l, .iface 104 (pv t)] w fun r w' => ∃ e, r = .returned (pv e) ∧ e = w.heap.size ∧ (∀ k v, LSt w' l (⟨e, t, k, v⟩ :: its)) ∧ ExtX (fun k => InR l its k) w w' := by
  have HL := Lib.hid h
  obtain ⟨n, p, K⟩ := h.lst
  have c0 := K.cell (o := 0) rfl
  clear K h
  go_enter Try.func62, Try.ntmps62
  go_wp2_with (first | (go_at_call 90; go_in) | fail)
  refine (insV_any l t its w HL.out hn).mono ?_
  rintro r w1 ⟨e, rfl, he, h4, x4⟩
  have HE := Lib.hid he
  have H4 := Lib.hid h4
  have X4 := Lib.hid x4
  clear h4 x4 he
  go_wp2_with fail
  go_ret
  exact ⟨e, rfl, HE.out, H4.out, X4.out⟩
set_option maxRecDepth 20000 in
set_option maxHeartbeats 1000000 in
theorem remL_any (l : Nat) (X Y : List It) (x : It) (w : World) (h : LSt w l (X ++ x :: Y)) (hlen : (X ++ x :: Y).length ≤ 1001) :
    Calls Try.prog 92 #[pv l, pv x.e] w fun r w' => r = .returned (.iface 104 (pv x.t)) ∧ LSt w' l (X ++ Y) ∧ (∃ u1 u2 u3, Blk w' x.e 106 [u1, u2, u3, .iface 104 (pv x.t)]) ∧ ExtX (fun k => InR l (X ++ x :: Y) k) w w' := by
  have HL := Lib.hid h
  obtain ⟨h1, N, P, h2, h3⟩ := h
  have hx : x ∈ X ++ x :: Y := by simp
  have c2 := (h3.2 x hx).cell (o := 2) rfl
  have q1 := eqL_same l w
  rw [ids_mid] at h1 h2
  have hn := nodup_split h1
  have hm := h2.mid
  have hX : ∀ z ∈ X, z ∈ X ++ x :: Y := fun z hz => by simp [hz]
  have hY : ∀ z ∈ Y, z ∈ X ++ x :: Y := fun z hz => by simp [hz]
  have hep : x.e ≠ lastL l (ids X) := fun he => by
    rcases lastL_mem l (ids X) with h | h
    · exact hn.2.2.1 (h.symm.trans he.symm)
    · exact hn.2.2.2.1 (he ▸ h)
  have hen : x.e ≠ headL l (ids Y) := fun he => by
    rcases headL_mem l (ids Y) with h | h
    · exact hn.2.2.1 (h.symm.trans he.symm)
    · exact hn.2.2.2.2.1 (he ▸ h)
  have hs : ∀ y ∈ X ++ Y, y ∈ X ++ x :: Y ∧ y.e ≠ x.e ∧ y.e ≠ l := fun y hy => by
    rcases List.mem_append.1 hy with h | h
    · exact ⟨hX y h, fun he => hn.2.2.2.1 (he ▸ List.mem_map.2 ⟨y, h, rfl⟩), fun he => hn.1 (he ▸ List.mem_map.2 ⟨y, h, rfl⟩)⟩
    · exact ⟨hY y h, fun he => hn.2.2.2.2.1 (he ▸ List.mem_map.2 ⟨y, h, rfl⟩), fun he => hn.2.1 (he ▸ List.mem_map.2 ⟨y, h, rfl⟩)⟩
  have HM := Lib.hid (rem_any l (lastL l (ids X)) (headL l (ids Y)) x (X ++ x :: Y).length (X ++ x :: Y) (X ++ Y) N P w h3 hx (inR_last l _ _ hX) (inR_head l _ _ hY) hm.1 hm.2 (Ne.symm hn.2.2.1) hep hen (by simp; omega) (by omega) hs)
  have HR := Lib.hid (h2.out h1)
  have HN := Lib.hid (nodup_out h1)
  clear h1 h2 h3 hm hX hY hep hen hx hn HL hs
  go_enter Try.func92, Try.ntmps92
  go_wp2_with fail
  refine HM.out.mono ?_
  rintro r w1 ⟨rfl, h4, k4, x4⟩
  have H4 := Lib.hid h4
  have K4 := Lib.hid k4
  have X4 := Lib.hid x4
  have c3 := k4.cell (o := 3) rfl
  clear h4 k4 x4
  go_wp2_with fail
  go_ret
  refine ⟨rfl, ⟨by rw [ids_app]; exact HN.out, _, _, by rw [ids_app]; exact HR.out, ?_⟩, ⟨_, _, _, K4.out⟩, X4.out⟩
  have h5 := H4.out
  have hl : ((X ++ x :: Y).length : Int) - 1 = (X ++ Y).length := by simp; omega
  rw [hl] at h5
  exact h5
end Go.Proofs.Ytphhkphibdiahaa
