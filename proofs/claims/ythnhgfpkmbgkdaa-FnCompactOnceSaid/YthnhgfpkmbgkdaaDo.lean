/-
  How rounds are opened, their hashes within their ranges.
-/
import Derived.Test.YthnhgfpkmbgkdaaDn
namespace Go.Proofs.Ythnhgfpkmbgkdaa
open Go.RowKit Go.ChangeShapes Go.WideShapes Go.ChangeAt
set_option linter.unusedSimpArgs false
set_option linter.unusedVariables false

/-- hashes within their ranges -/
def Rp.hw : Rp HsD := Rp.flat hsCells 3 (by decide) (fun _ => rfl) (fun _ => rfl) HsD.wf
def Rp.rdw : Rp RdD := ((Rp.slice Rp.hw).pair ((Rp.slice Rp.i64).pair (Rp.slice (Rp.slice Rp.ck)))).iso (fun r => (r.hs, r.revs, r.pss))
theorem slice_imp {α : Type} {d d' : Rp α} (hs : d.sz = d'.sz) (hd : ∀ w ok a cs, d.K w ok a cs → d'.K w ok a cs) {w : World} {ok : Nat → Prop} {xs : List α} {cs : List Value} (h : (Rp.slice d).K w ok xs cs) : (Rp.slice d').K w ok xs cs := by
  obtain ⟨A, cap, he, h1, h2, h3, h4⟩ := h
  refine ⟨A, cap, he, h1, h2, h3, fun i x hx => ?_⟩
  obtain ⟨b, o, cs', hA, hb, hc, hK⟩ := h4 i x hx
  exact ⟨b, o, cs', hA, hb, by rw [← hs]; exact hc, hd _ _ _ _ hK⟩
theorem slice_all {α : Type} {d : Rp α} {w : World} {ok : Nat → Prop} {xs : List α} {cs : List Value} (h : (Rp.slice d).K w ok xs cs) : ∀ x ∈ xs, ∃ cs', d.K w ok x cs' := by
  obtain ⟨A, cap, he, h1, h2, h3, h4⟩ := h
  intro x hx
  obtain ⟨i, hi⟩ := List.mem_iff_getElem?.1 hx
  obtain ⟨b, o, cs', _, _, _, hK⟩ := h4 i x hi
  exact ⟨cs', hK⟩
theorem hw_hs (w : World) (ok : Nat → Prop) (a : HsD) (cs : List Value) (h : Rp.hw.K w ok a cs) : Rp.hs.K w ok a cs := ⟨h.1, trivial⟩
theorem rdw_rd (w : World) (ok : Nat → Prop) (a : RdD) (cs : List Value) (h : Rp.rdw.K w ok a cs) : Rp.rd.K w ok a cs := by
  obtain ⟨c1, c2, e, k1, k2⟩ := h
  exact ⟨c1, c2, e, slice_imp (d := Rp.hw) (d' := Rp.hs) rfl hw_hs k1, k2⟩
theorem rdw_wf {w : World} {ok : Nat → Prop} {rs : List RdD} {cs : List Value} (h : (Rp.slice Rp.rdw).K w ok rs cs) : ∀ r ∈ rs, ∀ h ∈ r.hs, h.wf := by
  intro r hr g hg
  obtain ⟨cs', c1, c2, e, k1, k2⟩ := slice_all h r hr
  obtain ⟨cs2, hK⟩ := slice_all k1 g hg
  exact hK.2
set_option maxRecDepth 20000 in
theorem hw_opens : Opens Try.prog 25 Rp.hw :=
  Opens.of (Opens.iso (Opens.struct Try.underlying25 (by kernel_rfl) (OpensF.cons rfl (by kernel_rfl) (Opens.int Try.underlying23) (OpensF.cons rfl (by kernel_rfl) (Opens.int Try.underlying2) (OpensF.one rfl (by kernel_rfl) (Opens.int Try.underlying2)))))
    (fun p : HsD => (p.hash, p.comp, p.rev)) (fun x => ⟨x.1, x.2.1, x.2.2⟩) (fun _ => rfl))
    (fun w p cs h => by
      obtain ⟨c1, _, rfl, ⟨rfl, h1⟩, c2, c3, rfl, ⟨rfl, h2⟩, ⟨rfl, h3⟩⟩ := h
      exact ⟨rfl, h1, h2, h3⟩)
theorem hws_opens : Opens Try.prog 31 (Rp.slice Rp.hw) := Opens.slice Try.underlying31 (by kernel_rfl) (by decide) hw_opens
theorem i64s_opens : Opens Try.prog 27 (Rp.slice Rp.i64) := Opens.slice Try.underlying27 (by kernel_rfl) (by decide) i64_opens
theorem pss_opens : Opens Try.prog 32 (Rp.slice (Rp.slice Rp.ck)) := Opens.slice Try.underlying32 (by kernel_rfl) (by decide) cks_opens
set_option maxRecDepth 20000 in
theorem rd_opens : Opens Try.prog 34 Rp.rdw :=
  Opens.iso (Opens.struct Try.underlying34 (by kernel_rfl) (OpensF.cons rfl (by kernel_rfl) hws_opens (OpensF.cons rfl (by kernel_rfl) i64s_opens (OpensF.one rfl (by kernel_rfl) pss_opens)))) _ (fun x => ⟨x.1, x.2.1, x.2.2⟩) (fun _ => rfl)
theorem rds_opens : Opens Try.prog 39 (Rp.slice Rp.rdw) := Opens.slice Try.underlying39 (by kernel_rfl) (by decide) rd_opens
theorem walkQ (own : Int) (rs : List RdD) (v : Value) (w : World) (hp : (Rp.slice Rp.rdw).K w any rs [v]) :
    Calls Try.prog 4 #[.int .u64 own, v] w fun e w' => e = .returned (.bool true) ∧ Ext w w' :=
  walk_CompactQuiet own rs v w (slice_imp (d := Rp.rdw) (d' := Rp.rd) rfl rdw_rd hp) (rdw_wf hp)
end Go.Proofs.Ythnhgfpkmbgkdaa
