/-
  How the arguments of the laws of responses are opened.
-/
import Derived.Test.YtmimpfenlhfkiaaAdds
namespace Go.Proofs.Ytmimpfenlhfkiaa
open Go.ChangeShapes Go.WideShapes Go.ChangeAt Go.RowKit
set_option linter.unusedSimpArgs false
set_option linter.unusedVariables false
theorem own : ownKnob Try.prog.godebug = none := by kernel_rfl
theorem laidOut : laidOutB Try.prog = true := by kernel_rfl
theorem kv_opens : Opens Try.prog 35 Rp.kv :=
  Opens.iso (Opens.struct Try.underlying35 (by kernel_rfl) (OpensF.cons rfl (by kernel_rfl) (Opens.str Try.underlying9) (OpensF.cons rfl (by kernel_rfl) (Opens.str Try.underlying9) (OpensF.cons rfl (by kernel_rfl) (Opens.int Try.underlying2)
    (OpensF.cons rfl (by kernel_rfl) (Opens.int Try.underlying2) (OpensF.cons rfl (by kernel_rfl) (Opens.int Try.underlying2) (OpensF.one rfl (by kernel_rfl) (Opens.int Try.underlying2)))))))) _ (fun x => ⟨x.1, x.2.1, x.2.2.1, x.2.2.2.1, x.2.2.2.2.1, x.2.2.2.2.2⟩) (fun _ => rfl)
theorem ev_opens : Opens Try.prog 37 Rp.ev :=
  Opens.iso (Opens.struct Try.underlying37 (by kernel_rfl) (OpensF.cons rfl (by kernel_rfl) (Opens.bool Try.underlying4) (OpensF.cons rfl (by kernel_rfl) kv_opens (OpensF.cons rfl (by kernel_rfl) (Opens.bool Try.underlying4)
    (OpensF.one rfl (by kernel_rfl) kv_opens))))) _ (fun x => ⟨x.1, x.2.1, x.2.2.1, x.2.2.2⟩) (fun _ => rfl)
theorem evs_opens : Opens Try.prog 22 (Rp.slice Rp.ev) := Opens.slice Try.underlying22 (by kernel_rfl) (by decide) ev_opens
theorem sent_opens : Opens Try.prog 24 ((Rp.int .i64).pair ((Rp.int .i64).pair ((Rp.int .i64).pair (Rp.bool.pair (Rp.bool.pair (Rp.bool.pair (Rp.str.pair (Rp.slice Rp.ev)))))))) :=
  Opens.struct Try.underlying24 (by kernel_rfl) (OpensF.cons rfl (by kernel_rfl) (Opens.int Try.underlying2) (OpensF.cons rfl (by kernel_rfl) (Opens.int Try.underlying2) (OpensF.cons rfl (by kernel_rfl) (Opens.int Try.underlying2)
    (OpensF.cons rfl (by kernel_rfl) (Opens.bool Try.underlying4) (OpensF.cons rfl (by kernel_rfl) (Opens.bool Try.underlying4) (OpensF.cons rfl (by kernel_rfl) (Opens.bool Try.underlying4) (OpensF.cons rfl (by kernel_rfl) (Opens.str Try.underlying9) (OpensF.one rfl (by kernel_rfl) evs_opens))))))))
theorem sent_arg {H : Type} {enc : TypeId × Value → H} {W : World} {base : Nat} {v : Value} {d : DataW H} {p : List MemPlace} (hv : Value.okWide Try.prog W .any base 24 v)
    (h : DataW.Trod enc Try.prog W 0 (fun _ => true) true 24 v d p) : ∃ (x : RespD) (A : Option Addr) (cap : Nat), v = sentV x A cap ∧ x.events.length ≤ maxLen ∧ x.reason.size ≤ maxLen ∧ (Rp.slice Rp.ev).K W any x.events [.slice A x.events.length cap] := by
  obtain ⟨cs, rfl, hsz⟩ := okWide_struct Try.underlying24 hv
  obtain ⟨fuel, hf⟩ := h
  obtain ⟨⟨idn, rev, compact, created, canceled, fragment, reason, events⟩, c1, _, hcs, ⟨rfl, _⟩, c2, _, rfl, ⟨rfl, _⟩, c3, _, rfl, ⟨rfl, _⟩, c4, _, rfl, h4, c5, _, rfl, h5, c6, _, rfl, h6, c7, _, rfl, ⟨rfl, h7⟩, h8⟩ := sent_opens enc W 0 _ true fuel _ _ hf
  obtain rfl : c4 = [_] := h4
  obtain rfl : c5 = [_] := h5
  obtain rfl : c6 = [_] := h6
  obtain ⟨A, cap, rfl, p1, p2, p3⟩ := id h8
  refine ⟨⟨rev, idn, created, canceled, compact, reason, fragment, events⟩, A, cap, ?_, Nat.le_trans p1 p2, h7, h8⟩
  have : cs.toList = sentCells ⟨rev, idn, created, canceled, compact, reason, fragment, events⟩ A cap := by simpa [Value.cells] using hcs
  rw [show cs = (sentCells ⟨rev, idn, created, canceled, compact, reason, fragment, events⟩ A cap).toArray from by rw [← Array.toArray_toList (xs := cs), this]]
end Go.Proofs.Ytmimpfenlhfkiaa
