/-
  golanglru.Cache: RemoveOldest, Remove, Get, Len, New.
-/
import Derived.Test.YtphhkphibdiahaaLe
import Derived.Handy
import Derived.Laws.EntriesVeiled
import Derived.Laws.Cover3
namespace Go.Proofs.Ytphhkphibdiahaa
open Go.RowKit
set_option linter.unusedSimpArgs false
set_option linter.unusedVariables false

abbrev g0Cells (size : Int) (gb : Nat) : List Value := [.int .i64 size, fnV gb, .pointer none, .map none]
/-- a cache, in use or cleared, and what has gone out of it -/
def LR (w : World) (ok : Nat → Prop) (g gb : Nat) (size : Int) (its : List It) (ps : List (Int × Int)) : Prop :=
  ∃ v, GN w ok gb v ps ∧ ((∃ l m mp, LC w ok g l m gb size its mp) ∨ (its = [] ∧ ok g ∧ Blk w g 73 (g0Cells size gb)))
def RAns (ok : Nat → Prop) (g gb : Nat) (size : Int) (its : List It) (ps : List (Int × Int)) (w w' : World) : Prop := LR w' ok g gb size its ps ∧ ExtX ok w w'
theorem LAns.to {ok : Nat → Prop} {g l m gb : Nat} {size : Int} {its : List It} {ps : List (Int × Int)} {w w' : World} (h : LAns ok g l m gb size its ps w w') : RAns ok g gb size its ps w w' := by
  obtain ⟨mp, v, h1, h2, h3⟩ := h
  exact ⟨⟨v, h2, .inl ⟨l, m, mp, h1⟩⟩, h3⟩
theorem emN (w : World) : (binOp .eql 71 (.map none) (.map none)).run Try.prog w = .ok (.bool true) w := by kernel_rfl
theorem emS (m : Nat) (w : World) : (binOp .eql 71 (.map (some m)) (.map none)).run Try.prog w = .ok (.bool false) w := by kernel_rfl
theorem LSt.congr {w : World} {l : Nat} {its its' : List It} (h : LSt w l its) (he : its'.map (fun x => (x.e, x.t)) = its.map (fun x => (x.e, x.t))) : LSt w l its' := by
  obtain ⟨h1, N, P, h2, h3⟩ := h
  have hl : its'.length = its.length := by simpa using congrArg List.length he
  have hi : ids its' = ids its := by
    have := congrArg (List.map Prod.fst) he
    simpa [List.map_map, Function.comp_def] using this
  refine ⟨by rw [hi]; exact h1, N, P, by rw [hi]; exact h2, by rw [hl]; exact h3.1, fun x hx => ?_⟩
  have hm : (x.e, x.t) ∈ its'.map (fun x => (x.e, x.t)) := List.mem_map.2 ⟨x, hx, rfl⟩
  rw [he] at hm
  obtain ⟨y, hy, hye⟩ := List.mem_map.1 hm
  simp only [Prod.mk.injEq] at hye
  have := h3.2 y hy
  rw [hye.1, hye.2] at this
  exact this
theorem front_perm {α : Type} (X Y : List α) (x : α) : (x :: (X ++ Y)).Perm (X ++ x :: Y) := List.perm_middle.symm
theorem LC.perm {w w' : World} {ok : Nat → Prop} {g l m gb : Nat} {size : Int} {X Y : List It} {x : It} {mp : List (Int × Value)} (h : LC w ok g l m gb size (X ++ x :: Y) mp) (hl : LSt w' l (x :: (X ++ Y))) (x1 : ExtX (fun b => InR l (X ++ x :: Y) b) w w') : LC w' ok g l m gb size (x :: (X ++ Y)) mp := by
  have hp := front_perm X Y x
  exact
    { G := h.G.extX x1 (h.notR h.G (by decide) (by decide))
      L := hl
      E := fun y hy => (h.E y (hp.mem_iff.1 hy)).extX x1 (h.notR (h.E y (hp.mem_iff.1 hy)) (by decide) (by decide))
      M := h.M.extX x1 h.notRm
      mo := fun k u => (h.mo k u).trans ⟨fun ⟨y, hy, e⟩ => ⟨y, hp.mem_iff.2 hy, e⟩, fun ⟨y, hy, e⟩ => ⟨y, hp.mem_iff.1 hy, e⟩⟩
      nk := (hp.map _).nodup_iff.2 h.nk
      nt := (hp.map _).nodup_iff.2 h.nt
      og := h.og
      ol := h.ol
      om := h.om
      oi := fun y hy => h.oi y (hp.mem_iff.1 hy) }
theorem LC.moved {w w' : World} {ok : Nat → Prop} {g l m gb : Nat} {size : Int} {its : List It} {mp : List (Int × Value)} {v : Value} {ps : List (Int × Int)} (h : LC w ok g l m gb size its mp) (hg : GN w ok gb v ps) (x1 : ExtX (fun b => InR l its b) w w') : GN w' ok gb v ps :=
  hg.keep x1 (fun hr => h.notGone hg gb (.inr (.inr (.inl hr))) (.inl rfl)) (fun b hb hr => h.notGone hg b (.inr (.inr (.inl hr))) (.inr hb))

set_option maxRecDepth 20000 in
set_option maxHeartbeats 1000000 in
theorem remOld_any (ok : Nat → Prop) (g gb : Nat) (size : Int) (its : List It) (ps : List (Int × Int)) (w : World) (h : LR w ok g gb size its ps) (hlen : its.length ≤ 1001) (hn : ps.length ≤ 100000) (hok : ∀ k, w.heap.size ≤ k → ok k) :
    Calls Try.prog 39 #[pv g] w fun r w' => r = .returned (.tuple #[]) ∧ RAns ok g gb size its.dropLast (ps ++ (its.getLast?.map fun x => (x.k, x.v)).toList) w w' := by
  have HH := Lib.hid h
  obtain ⟨v, hg, ⟨l, m, mp, hc⟩ | ⟨hi, ho, hb⟩⟩ := h
  · have HB := Lib.hid (back_any l its w hc.L (by omega))
    have c3 := hc.G.cell (o := 3) rfl
    have c2 := hc.G.cell (o := 2) rfl
    have q1 := emS m w
    have HC := Lib.hid hc
    have HG := Lib.hid hg
    clear hc hg
    rcases List.eq_nil_or_concat its with rfl | ⟨A, x, rfl⟩
    · go_enter Try.func39, Try.ntmps39
      go_wp2_with fail
      refine HB.out.mono ?_
      rintro r w1 ⟨rfl, rfl⟩
      have hbv : backV ([] : List It) = .pointer none := rfl
      go_wp2_with fail
      go_end0
      exact ⟨rfl, by simpa using HH.out, ExtX.refl _ _⟩
    · rw [List.concat_eq_append] at *
      have HR := Lib.hid (remEl_any ok g l m gb size A [] x mp v ps w HC.out HG.out hlen hn hok)
      have hbv : backV (A ++ [x]) = pv x.e := by simp [backV]
      go_enter Try.func39, Try.ntmps39
      go_wp2_with fail
      refine HB.out.mono ?_
      rintro r w1 ⟨rfl, rfl⟩
      go_wp2_with fail
      refine HR.out.mono ?_
      rintro r w2 ⟨rfl, h2⟩
      have H2 := Lib.hid h2
      clear h2
      go_wp2_with fail
      go_end0
      have := H2.out.to
      simp only [List.append_nil] at this
      exact ⟨rfl, by simpa using this⟩
  · subst hi
    have c3 := hb.cell (o := 3) rfl
    have q1 := emN w
    clear hg hb
    go_enter Try.func39, Try.ntmps39
    go_wp2_with fail
    refine bodyPost_ret (results_none rfl _ _ _) rfl ?_
    exact ⟨rfl, by simpa using HH.out, ExtX.refl _ _⟩
theorem LC.lookHit {w : World} {ok : Nat → Prop} {g l m gb : Nat} {size : Int} {its : List It} {mp : List (Int × Value)} (h : LC w ok g l m gb size its mp) {x : It} (hx : x ∈ its) :
    (Instr.lookup 71 (.map (some m)) (kI x.k) true).run Try.prog w = .ok (.tuple #[pv x.e, .bool true]) w := by
  have := h.M.look (P := Try.prog) keyI Try.underlying71 (zeroP w) x.k true
  rw [h.hit hx] at this
  simpa using this
theorem LC.lookMiss {w : World} {ok : Nat → Prop} {g l m gb : Nat} {size : Int} {its : List It} {mp : List (Int × Value)} (h : LC w ok g l m gb size its mp) {k : Int} (hk : k ∉ its.map (·.k)) :
    (Instr.lookup 71 (.map (some m)) (kI k) true).run Try.prog w = .ok (.tuple #[.pointer none, .bool false]) w := by
  have := h.M.look (P := Try.prog) keyI Try.underlying71 (zeroP w) k true
  rw [h.miss hk] at this
  simpa using this
set_option maxRecDepth 20000 in
set_option maxHeartbeats 1000000 in
theorem remHit_any (ok : Nat → Prop) (g gb : Nat) (size : Int) (X Y : List It) (x : It) (ps : List (Int × Int)) (w : World) (h : LR w ok g gb size (X ++ x :: Y) ps) (hlen : (X ++ x :: Y).length ≤ 1001) (hn : ps.length ≤ 100000) (hok : ∀ k, w.heap.size ≤ k → ok k) :
    Calls Try.prog 38 #[pv g, kI x.k] w fun r w' => r = .returned (.tuple #[]) ∧ RAns ok g gb size (X ++ Y) (ps ++ [(x.k, x.v)]) w w' := by
  obtain ⟨v, hg, ⟨l, m, mp, hc⟩ | ⟨hi, ho, hb⟩⟩ := h
  · have c3 := hc.G.cell (o := 3) rfl
    have q1 := emS m w
    have q2 := hc.lookHit (x := x) (by simp)
    have HR := Lib.hid (remEl_any ok g l m gb size X Y x mp v ps w hc hg hlen hn hok)
    clear hc hg
    go_enter Try.func38, Try.ntmps38
    go_wp2_with fail
    refine HR.out.mono ?_
    rintro r w2 ⟨rfl, h2⟩
    have H2 := Lib.hid h2
    clear h2 c3 q1 q2
    go_wp2_with fail
    go_end0
    exact ⟨rfl, H2.out.to⟩
  · simp at hi
set_option maxRecDepth 20000 in
set_option maxHeartbeats 1000000 in
theorem remMiss_any (ok : Nat → Prop) (g gb : Nat) (size : Int) (its : List It) (ps : List (Int × Int)) (k : Int) (w : World) (h : LR w ok g gb size its ps) (hk : k ∉ its.map (·.k)) :
    Calls Try.prog 38 #[pv g, kI k] w fun r w' => r = .returned (.tuple #[]) ∧ w = w' := by
  obtain ⟨v, hg, ⟨l, m, mp, hc⟩ | ⟨hi, ho, hb⟩⟩ := h
  · have c3 := hc.G.cell (o := 3) rfl
    have q1 := emS m w
    have q2 := hc.lookMiss hk
    clear hc hg hk
    go_enter Try.func38, Try.ntmps38
    go_wp2_with fail
    go_end0
    exact ⟨rfl, rfl⟩
  · have c3 := hb.cell (o := 3) rfl
    have q1 := emN w
    clear hg hb hk
    go_enter Try.func38, Try.ntmps38
    go_wp2_with fail
    refine bodyPost_ret (results_none rfl _ _ _) rfl ?_
    exact ⟨rfl, rfl⟩
set_option maxRecDepth 20000 in
set_option maxHeartbeats 1000000 in
theorem getHit_any (ok : Nat → Prop) (g gb : Nat) (size : Int) (X Y : List It) (x : It) (ps : List (Int × Int)) (w : World) (h : LR w ok g gb size (X ++ x :: Y) ps) :
    Calls Try.prog 37 #[pv g, kI x.k] w fun r w' => r = .returned (.tuple #[kI x.v, .bool true]) ∧ RAns ok g gb size (x :: (X ++ Y)) ps w w' := by
  obtain ⟨v, hg, ⟨l, m, mp, hc⟩ | ⟨hi, ho, hb⟩⟩ := h
  · have c3 := hc.G.cell (o := 3) rfl
    have c2 := hc.G.cell (o := 2) rfl
    have q1 := emS m w
    have q2 := hc.lookHit (x := x) (by simp)
    have HM := Lib.hid (moveF_any l X Y x w hc.L)
    have HC := Lib.hid hc
    have HG := Lib.hid hg
    clear hc hg
    go_enter Try.func37, Try.ntmps37
    go_wp2_with fail
    refine HM.out.mono ?_
    rintro r w2 ⟨rfl, l2, x2⟩
    have C2 := Lib.hid (HC.out.perm l2 x2)
    have G2 := Lib.hid (HC.out.moved HG.out x2)
    obtain ⟨n, p, ke⟩ := C2.out.L.elem (x := x) (by simp)
    have e3 := ke.cell (o := 3) rfl
    have kt := C2.out.E x (by simp)
    have t1 := kt.cell (o := 1) rfl
    have ta := taE x.t
    have X2 := Lib.hid x2
    clear l2 x2 ke kt c3 c2 q1 q2
    go_wp2_with fail
    refine bodyPost_ret (v := .tuple #[kI x.v, .bool true]) (by simp [results, Try.results37, go_sem]) rfl ⟨rfl, ⟨v, G2.out, .inl ⟨l, m, mp, C2.out⟩⟩, X2.out.mono fun b _ hb => HC.out.okR hb⟩
  · simp at hi
set_option maxRecDepth 20000 in
set_option maxHeartbeats 1000000 in
theorem getMiss_any (ok : Nat → Prop) (g gb : Nat) (size : Int) (its : List It) (ps : List (Int × Int)) (k : Int) (w : World) (h : LR w ok g gb size its ps) (hk : k ∉ its.map (·.k)) :
    Calls Try.prog 37 #[pv g, kI k] w fun r w' => r = .returned (.tuple #[.nilIface, .bool false]) ∧ w = w' := by
  obtain ⟨v, hg, ⟨l, m, mp, hc⟩ | ⟨hi, ho, hb⟩⟩ := h
  · have c3 := hc.G.cell (o := 3) rfl
    have q1 := emS m w
    have q2 := hc.lookMiss hk
    clear hc hg hk
    go_enter Try.func37, Try.ntmps37
    go_wp2_with fail
    refine bodyPost_ret (v := .tuple #[.nilIface, .bool false]) (by simp [results, Try.results37, go_sem]) rfl ⟨rfl, rfl⟩
  · have c3 := hb.cell (o := 3) rfl
    have q1 := emN w
    clear hg hb hk
    go_enter Try.func37, Try.ntmps37
    go_wp2_with fail
    refine bodyPost_ret (v := .tuple #[.nilIface, .bool false]) (by simp [results, Try.results37, go_sem]) rfl ⟨rfl, rfl⟩
theorem lenC_any (ok : Nat → Prop) (g gb : Nat) (size : Int) (its : List It) (ps : List (Int × Int)) (w : World) (h : LR w ok g gb size its ps) :
    Calls Try.prog 42 #[pv g] w fun r w' => r = .returned (.int .i64 its.length) ∧ w = w' := by
  obtain ⟨v, hg, ⟨l, m, mp, hc⟩ | ⟨hi, ho, hb⟩⟩ := h
  · have c3 := hc.G.cell (o := 3) rfl
    have c2 := hc.G.cell (o := 2) rfl
    have q1 := emS m w
    have HL := Lib.hid (lenList_any l its w hc.L)
    clear hc hg
    go_enter Try.func42, Try.ntmps42
    go_wp2_with fail
    refine HL.out.mono ?_
    rintro r w2 ⟨rfl, rfl⟩
    go_wp2_with fail
    go_ret
    exact ⟨rfl, rfl⟩
  · subst hi
    have c3 := hb.cell (o := 3) rfl
    have q1 := emN w
    clear hg hb
    go_enter Try.func42, Try.ntmps42
    go_wp2_with fail
    go_ret
    exact ⟨rfl, rfl⟩
end Go.Proofs.Ytphhkphibdiahaa
