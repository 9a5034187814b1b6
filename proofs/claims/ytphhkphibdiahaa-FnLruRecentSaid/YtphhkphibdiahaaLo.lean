/-
  slices.SortFunc at the pairs that have gone out of a cache.
-/
import Derived.Test.YtphhkphibdiahaaLm
import Derived.Test.YtphhkphibdiahaaSrt
namespace Go.Proofs.Ytphhkphibdiahaa
open Go.RowKit Go.Sort Go.Shelf
set_option linter.unusedSimpArgs false
set_option linter.unusedVariables false

/-- how the pairs are held against each other -/
def cmpPr (x y : Int × Int) : Int := if x.1 < y.1 then -1 else 1
set_option maxHeartbeats 1000000 in
theorem cmpPr_any (x y : Int × Int) (W : World) : Calls Try.prog 23 #[.agg #[.int .i64 x.1, .int .i64 x.2], .agg #[.int .i64 y.1, .int .i64 y.2]] W fun e w' => e = .returned (.int .i64 (cmpPr x y)) ∧ ∃ q os', w' = grow (W.drewN q) os' := by
  by_cases h : x.1 < y.1
  · have hc : cmpPr x y = -1 := if_pos h
    rw [hc]
    clear hc
    go_enter Try.func23, Try.ntmps23
    go_wp2
    go_ret
    exact ⟨rfl, 0, _, by rw [alloc_eq_grow, alloc_eq_grow, grow_grow]; rfl⟩
  · have hc : cmpPr x y = 1 := if_neg h
    rw [hc]
    clear hc
    go_enter Try.func23, Try.ntmps23
    go_wp2
    go_ret
    exact ⟨rfl, 0, _, by rw [alloc_eq_grow, alloc_eq_grow, grow_grow]; rfl⟩
theorem ltPr (x y : Int × Int) : ltOf cmpPr x y = decide (x.1 < y.1) := by
  unfold ltOf cmpPr
  by_cases h : x.1 < y.1 <;> simp [h]
theorem swoPr : SWO (ltOf cmpPr) where
  irrefl x := by rw [ltPr]; simp
  trans x y z h1 h2 := by rw [ltPr] at *; simp at *; omega
  ntrans x y z h1 h2 := by rw [ltPr] at *; simp at *; omega
theorem pairwise_of_sortedIn {lt : Int × Int → Int × Int → Bool} {d : Array (Int × Int)} (h : SortedIn lt 0 d.size d) : d.toList.Pairwise fun a b => lt b a = false := by
  rw [List.pairwise_iff_getElem]
  intro i j hi hj hij
  have h1 := h i j (Nat.zero_le _) hij (by simpa using hj)
  rw [getElem!_pos d i (by simpa using hi), getElem!_pos d j (by simpa using hj)] at h1
  simpa using h1
theorem perm_of_permIn {d d' : Array (Int × Int)} (h : PermIn 0 d.size d d') : d'.toList.Perm d.toList := by
  have h1 := h.2.2
  have h2 := h.1
  rw [show d.extract 0 d.size = d by simp, show d'.extract 0 d.size = d' by rw [← h2]; simp] at h1
  exact h1
set_option maxHeartbeats 1000000 in
theorem sortPr_any (ok : Nat → Prop) (v : Value) (ps : PL) (w : World) (h : OwnP Rp.pr w ok 0 48 v ps) (hn : ps.length ≤ 2000) (hnd : (ksP ps).Nodup) :
    Calls Try.prog 22 #[v, .func (.func 23) #[] #[]] w fun e w' => e = .returned (.tuple #[]) ∧ OwnP Rp.pr w' ok 0 48 v (sortP ps) ∧ ExtX (fun b => some b = v.ownBlock) w w' := by
  rcases h.form with ⟨rfl, rfl⟩ | ⟨g, cap, rfl, _, _, _⟩
  · refine (AnyF.slices_SortFunc_none Try.laysSPr none 0 _ w).mono ?_
    rintro e w' ⟨rfl, rfl⟩
    exact ⟨rfl, by rw [show sortP [] = [] by simp [sortP]]; exact h, ExtX.refl _ _⟩
  · have eg : ∀ args w, (callFunc 23 args).run Try.prog w = .ok (.enter 23 args) w := enters_of Try.func23 (by kernel_rfl) rfl
    have hcon := AnyQ.slices_SortFunc Try.laysSPr 2 Try.isAgg48 Try.sizeOf48 prCells (fun _ => rfl) (fun x v hv => by simp [prCells] at hv; rcases hv with rfl | rfl <;> rfl) cmpPr swoPr 23 #[] g 0 cap ps.toArray w eg (fun _ _ _ _ x y => cmpPr_any x y _) (own_holdsK h) (by obtain ⟨cs, hb⟩ := h.blk (g := g) rfl; exact hb.lt) (by simp; omega)
    refine Calls.mono hcon ?_
    rintro e w' ⟨rfl, d', n, os, hp, hs, rfl⟩
    have hpl := perm_of_permIn hp
    have hsz : d'.size = ps.length := by simpa using hp.1
    obtain ⟨h1, h2⟩ := own_sorted (m := n) (os := os) (dk := d') h hsz (fun _ _ => trivial)
    have hpw := pairwise_of_sortedIn (d := d') (lt := ltOf cmpPr) (by rw [hsz]; simpa using hs)
    have heq : d'.toList = sortP ps := sortP_eq hnd (by simpa using hpl) (hpw.imp fun hab => by rw [ltPr] at hab; simpa using hab)
    rw [heq] at h1
    exact ⟨rfl, h1, h2.mono fun b _ hb => by rw [hb]; rfl⟩
end Go.Proofs.Ytphhkphibdiahaa
