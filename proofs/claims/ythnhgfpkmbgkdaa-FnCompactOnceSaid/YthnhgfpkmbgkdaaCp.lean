/-
  The leader's check (PeriodicCheck): whom it raises an alarm for, and what the reference says of it.
-/
import Derived.Test.YthnhgfpkmbgkdaaCj
namespace Go.Proofs.Ythnhgfpkmbgkdaa
open Go.RowKit
set_option linter.unusedSimpArgs false
set_option linter.unusedVariables false

/-- one alarm at most -/
def stepA (al : List Int) (c : Bool) (id : Int) : List Int := if c && al.isEmpty then [id] else al
theorem stepA_no {al : List Int} {id : Int} : stepA al false id = al := rfl
theorem stepA_len {al : List Int} {c : Bool} {id : Int} (h : al.length ≤ 1) : (stepA al c id).length ≤ 1 := by
  unfold stepA; split <;> simp_all
/-- what the closure of a check leaves -/
structure MsAns (w : World) (b B ab : Nat) (x : HSt) (al rl : List Int) (id : Int) (e : Ending) (w' : World) : Prop where
  ret : e = .returned (.tuple #[])
  rest : ∃ va, HAt w' b B { x with alarms := va } (stepA al true id) rl ∧ Blk w' ab 4 [.bool (!(stepA al true id).isEmpty)] ∧ ExtX (fun k => k = ab ∨ k = b ∨ some k = x.alarms.ownBlock) w w' ∧ (va.ownBlock = x.alarms.ownBlock ∨ ∀ g, va.ownBlock = some g → w.heap.size ≤ g)
set_option maxRecDepth 20000 in
set_option maxHeartbeats 2000000 in
theorem mism_any (b B ab cb c : Nat) (x : HSt) (al rl : List Int) (id latest : Int) (w : World) (h : HAt w b B x al rl) (hl : al.length ≤ 1) (ha : Blk w ab 4 [.bool (!al.isEmpty)]) (hc : Blk w cb 74 [.pointer (some ⟨c, 0, none⟩)])
    (hk : CkAt w c b latest) (hab : ab ≠ b) (hac : ab ≠ c) (hacb : ab ≠ cb) (hap : some ab ≠ x.alarms.ownBlock) (har : some ab ≠ x.revs.ownBlock) :
    Calls Try.prog 53 #[.int .u64 id, .pointer (some ⟨ab, 0, none⟩), .pointer (some ⟨cb, 0, none⟩)] w (MsAns w b B ab x al rl id) := by
  have a0 := ha.cell (o := 0) rfl
  have af := ha.frozen 0
  have b0 := hc.cell (o := 0) rfl
  have c1 : w.cell? ⟨c, 1, none⟩ = some (.iface 69 (.pointer (some ⟨b, 0, none⟩))) := Blk.cell hk rfl
  have HH := Lib.hid h
  have HA := Lib.hid ha
  clear h ha hc hk
  cases he : al.isEmpty with
  | false =>
    have hs : Hid (stepA al true id = al) := Lib.hid (by unfold stepA; simp [he])
    rw [he] at a0
    replace he := Lib.hid he
    go_enter Try.func53, Try.ntmps53
    go_wp2_with fail
    go_end0
    exact ⟨rfl, x.alarms, by rw [hs.out]; exact HH.out, by rw [hs.out]; exact HA.out, ExtX.refl _ _, .inl rfl⟩
  | true =>
    have hs : Hid (stepA al true id = al ++ [id]) := Lib.hid (by unfold stepA; rw [List.isEmpty_iff.1 he]; rfl)
    rw [he] at a0
    replace he := Lib.hid he
    go_enter Try.func53, Try.ntmps53
    go_wp2_with fail
    have X1 : ExtX (fun j => j = ab) w (w.setCell ⟨ab, 0, none⟩ (.bool true)) := ExtX.setCell (M := fun j => j = ab) (ExtX.refl _ w) (p := ⟨ab, 0, none⟩) rfl _
    have H1 := HH.out.extX X1 (fun k hk hm => by
      have hm : k = ab := hm
      subst hm
      rcases hk with hk | hk | hk
      · exact hab hk
      · exact hap hk
      · exact har hk)
    have HX1 := Lib.hid X1
    have K1 := Lib.hid (HA.out.setCell 0 (.bool true))
    refine (trigger_any b B x al rl id _ H1 (by omega)).mono ?_
    rintro e w2 ⟨va, rfl, h2, X2, hv⟩
    have H2 := Lib.hid h2
    have HX2 := Lib.hid X2
    have HV := Lib.hid hv
    clear h2 X2 hv H1 X1
    go_wp2_with fail
    go_end0
    refine ⟨rfl, va, by rw [hs.out]; exact H2.out, ?_, (HX1.out.mono (fun k _ h => .inl h)).trans' HX2.out (fun k _ h => .inr h), HV.out.imp (fun h => h) (fun h g hg => by have := h g hg; simpa [World.setCell] using this)⟩
    rw [hs.out]
    have := K1.out.extX HX2.out (fun hm => by rcases hm with hm | hm; exact hab hm; exact hap hm)
    have he2 : (!(al ++ [id]).isEmpty) = true := by simp
    rw [he2]; exact this

def selfQ (f s : HsD) : Bool := s.hash != f.hash && s.rev == f.rev && f.comp == s.comp
def stepP (f s : HsD) (rev : Int) (al : List Int) (p : CkD) : List Int :=
  if p.has then stepA (stepA (stepA al (decide (rev < p.rev)) p.id) (decide (s.comp < p.comp)) p.id) (p.comp == f.comp && p.hash != f.hash) p.id else al
def alOf (f s : HsD) (rev own : Int) (ps : List CkD) : List Int := ps.foldl (stepP f s rev) (stepA [] (selfQ f s) own)
theorem stepP_len {f s : HsD} {rev : Int} {al : List Int} {p : CkD} (h : al.length ≤ 1) : (stepP f s rev al p).length ≤ 1 := by
  unfold stepP; split
  · exact stepA_len (stepA_len (stepA_len h))
  · exact h
theorem alOf_snoc {f s : HsD} {rev own : Int} {ps : List CkD} {k : Nat} {p : CkD} (h : ps[k]? = some p) : alOf f s rev own (ps.take (k + 1)) = stepP f s rev (alOf f s rev own (ps.take k)) p := by
  rw [take_snoc' h]; unfold alOf; rw [List.foldl_append]; rfl
/-- the state of a check, behind the point L -/
structure PInv (wL wr : World) (L b ab : Nat) (x : HSt) (al rl : List Int) : Prop where
  st : ∃ va, HAt wr b b { x with alarms := va } al rl ∧ ∀ g, va.ownBlock = some g → L ≤ g
  a : Blk wr ab 4 [.bool (!al.isEmpty)]
  le : al.length ≤ 1
  X : ExtX (fun k => k = b ∨ k = ab ∨ L ≤ k) wL wr
/-- what does not change -/
structure PEnv (wL : World) (L b ab cb c kf ks : Nat) (x : HSt) (f s : HsD) (latest : Int) : Prop where
  hL : L = wL.heap.size
  hf : Blk wL kf 55 (hsCells f)
  hs : Blk wL ks 55 (hsCells s)
  hcb : Blk wL cb 74 [.pointer (some ⟨c, 0, none⟩)]
  hc : CkAt wL c b latest
  hab : ab < L
  rv : ∀ g, x.revs.ownBlock = some g → g < L ∧ g ≠ ab
  ne : ab ≠ b ∧ kf ≠ b ∧ ks ≠ b ∧ cb ≠ b ∧ c ≠ b ∧ kf ≠ ab ∧ ks ≠ ab ∧ cb ≠ ab ∧ c ≠ ab
theorem PEnv.at {wL wr : World} {L b ab cb c kf ks : Nat} {x : HSt} {f s : HsD} {latest : Int} (h : PEnv wL L b ab cb c kf ks x f s latest) (X : ExtX (fun k => k = b ∨ k = ab ∨ L ≤ k) wL wr) :
    Blk wr kf 55 (hsCells f) ∧ Blk wr ks 55 (hsCells s) ∧ Blk wr cb 74 [.pointer (some ⟨c, 0, none⟩)] ∧ CkAt wr c b latest := by
  obtain ⟨n1, n2, n3, n4, n5, n6, n7, n8, n9⟩ := h.ne
  have hL := h.hL
  have l1 := h.hf.lt
  have l2 := h.hs.lt
  have l3 := h.hcb.lt
  have l4 : c < wL.heap.size := Blk.lt h.hc
  exact ⟨h.hf.extX X (by omega), h.hs.extX X (by omega), h.hcb.extX X (by omega), Blk.extX h.hc X (by omega)⟩
/-- the closure is called -/
theorem PInv.call {wL wr : World} {L b ab cb c kf ks : Nat} {x : HSt} {f s : HsD} {latest : Int} {al rl : List Int} (E : PEnv wL L b ab cb c kf ks x f s latest) (h : PInv wL wr L b ab x al rl) (id : Int) :
    Calls Try.prog 53 #[.int .u64 id, .pointer (some ⟨ab, 0, none⟩), .pointer (some ⟨cb, 0, none⟩)] wr fun e w' => e = .returned (.tuple #[]) ∧ PInv wL w' L b ab x (stepA al true id) rl := by
  obtain ⟨⟨va, hH, hv⟩, ha, hl, X⟩ := h
  obtain ⟨_, _, k3, k4⟩ := E.at X
  obtain ⟨n1, n2, n3, n4, n5, n6, n7, n8, n9⟩ := E.ne
  have hab := E.hab
  refine (mism_any b b ab cb c { x with alarms := va } al rl id latest wr hH hl ha k3 k4 n1 (Ne.symm n9) (Ne.symm n8) (fun he => by have := hv ab he.symm; omega) (fun he => (E.rv ab he.symm).2 rfl)).mono ?_
  rintro e w' ⟨rfl, va', h1, h2, h3, h4⟩
  have hLr : L ≤ wr.heap.size := by rw [E.hL]; exact X.size
  refine ⟨rfl, ⟨va', h1, fun g hg => ?_⟩, h2, stepA_len hl, X.trans' h3 (fun k _ hk => ?_)⟩
  · rcases h4 with h4 | h4
    · exact hv g (by rw [← hg]; exact h4.symm)
    · exact Nat.le_trans hLr (h4 g hg)
  · rcases hk with hk | hk | hk
    · exact .inr (.inl hk)
    · exact .inl hk
    · exact .inr (.inr (hv k hk.symm))
theorem PInv.drewN {wL wr : World} {L b ab : Nat} {x : HSt} {al rl : List Int} (h : PInv wL wr L b ab x al rl) (n : Nat) : PInv wL (wr.drewN n) L b ab x al rl := by
  obtain ⟨⟨va, h1, h2⟩, ha, hl, X⟩ := h
  exact ⟨⟨va, h1.ext ((Ext.refl _).drewN n), h2⟩, ha, hl, X.drewN n⟩
end Go.Proofs.Ythnhgfpkmbgkdaa
