/-
  FnLearners: for every number, list of members and mark, ValidateMaxLearnerConfig refuses for too many learners just if its reference does, and one learner where none may be is refused. No condition.
-/
import Derived.Test.YtogojpckjamkjaaLearners
namespace Go.Proofs.Ytogojpckjamkjaa
open Go.ChangeShapes Go.WideShapes Go.ChangeAt Go.RowKit
set_option linter.unusedSimpArgs false
set_option linter.unusedVariables false

set_option maxHeartbeats 1000000 in
theorem walk_FnLearners (most : Int) (v : Value) (ms : List Mem) (up : Bool) (w : World) (h : (Rp.slice kMem).K w any ms [v]) :
    Calls Try.prog 4 #[.int .i64 most, v, .bool up] w fun e w' => e = .returned (.bool true) ∧ Ext w w' := by
  obtain ⟨A, cap, hv, hx⟩ := id h
  simp only [List.cons.injEq, and_true] at hv
  subst hv
  go_enter Try.func4, Try.ntmps4
  go_wp2_with fail
  refine (fits15_any _ ms _ h).mono ?_
  rintro e w1 ⟨b1, rfl, e1, t1⟩
  have T1 := Lib.hid t1
  clear t1
  cases b1 with
  | false =>
    go_wp2
    go_ret
    exact ⟨rfl, e1⟩
  | true =>
    by_cases g1 : (40 : Int) < (ms.length : Int)
    · go_wp2
      go_ret
      exact ⟨rfl, e1⟩
    · by_cases g2 : most < -100
      · go_wp2
        go_ret
        exact ⟨rfl, e1⟩
      · by_cases g3 : 100 < most
        · go_wp2
          go_ret
          exact ⟨rfl, e1⟩
        · have h1 := (Rp.slice kMem).ext' e1 h
          have hl : ms.length ≤ 40 := by omega
          have hsm : ∀ m ∈ ms, MemSmall m := (T1.out (by simp)).2
          have HS := Lib.hid hsm
          clear hsm
          go_wp2_with fail
          refine (implLearners_any most _ ms up _ h1 hl HS.out (by omega) (by omega)).mono ?_
          rintro e w2 ⟨rfl, e2⟩
          go_wp2_with fail
          refine (specLearners_any most _ ms up _ ((Rp.slice kMem).ext' e2 h1) hl (by omega) (by omega)).mono ?_
          rintro e w3 ⟨rfl, e3⟩
          go_wp2_with fail
          refine (implLearners_any 0 _ [⟨1, ⟨#[]⟩, [], [], true⟩] false _ ?_ (by decide) ?_ (by decide) (by decide)).mono ?_
          · refine slice_of_blk (xs := [(⟨1, ⟨#[]⟩, [], [], true⟩ : Mem)]) (cap := 1) (Blk.new w3 32 [.int .u64 1, .string ⟨#[]⟩, .slice none 0 0, .slice none 0 0, .bool true]) trivial (by decide) ?_ (by decide) (by decide)
            intro i x hx
            cases i with
            | zero =>
              simp at hx
              subst hx
              exact kMem_mk (m := ⟨1, ⟨#[]⟩, [], [], true⟩) (by decide) (by decide) (OwnL.nil Rp.str _ 0 0).slice (OwnL.nil Rp.str _ 0 0).slice
            | succ n => simp at hx
          · intro m hm
            simp at hm
            subst hm
            exact ⟨by unfold Small; decide, by unfold Small; decide⟩
          rintro e w4 ⟨rfl, e4⟩
          rw [show learnersAns 0 [⟨1, ⟨#[]⟩, [], [], true⟩] false = 28 by decide]
          go_wp2
          go_ret
          exact ⟨rfl, (((e1.trans e2).trans e3).trans ((Ext.refl _).alloc _)).trans e4⟩

theorem own : ownKnob Try.prog.godebug = none := by kernel_rfl
theorem laidOut : laidOutB Try.prog = true := by kernel_rfl
theorem kStrs_opens : Opens Try.prog 30 (Rp.slice Rp.str) := Opens.slice Try.underlying30 (by kernel_rfl) (by decide) (Opens.str Try.underlying9)
theorem kMem_opens : Opens Try.prog 32 kMem :=
  Opens.iso (Opens.struct Try.underlying32 (by kernel_rfl) (OpensF.cons rfl (by kernel_rfl) (Opens.int Try.underlying29) (OpensF.cons rfl (by kernel_rfl) (Opens.str Try.underlying9) (OpensF.cons rfl (by kernel_rfl) kStrs_opens
    (OpensF.cons rfl (by kernel_rfl) kStrs_opens (OpensF.one rfl (by kernel_rfl) (Opens.bool Try.underlying4))))))) _ (fun x => ⟨x.1, x.2.1, x.2.2.1, x.2.2.2.1, x.2.2.2.2⟩) (fun _ => rfl)
theorem kMems_opens : Opens Try.prog 26 (Rp.slice kMem) := Opens.slice Try.underlying26 (by kernel_rfl) (by decide) kMem_opens

set_option maxRecDepth 100000 in
theorem FnLearners_holds : Rows.FnLearnersSaid :=
  OpenClaim.holds_of_wide 4 Try.f4 rfl rfl rfl rfl rfl rfl rfl ⟨rfl, rfl, rfl, rfl, rfl⟩ rfl rfl rfl rfl rfl (by kernel_rfl) Try.func4 (by kernel_rfl)
    (of_decide_eq_true (by kernel_rfl)) (by unfold Func.isWrapper; first | (rw [if_pos (by decide +kernel)]; kernel_rfl) | (rw [if_neg (by decide +kernel)]; exact ⟨rfl, rfl⟩))
    (fun os started H enc _ => law_lifted 4 Try.f4 Rows.fnLearnersSpec 4 Try.func4 (by kernel_rfl) rfl
      (fun H ds h => by match ds, h with | [a, b, c], _ => rfl) (by kernel_rfl) Try.underlying4 laidOut (by decide +kernel) own os started H enc
      (ChangeSpec.witness6 (enc := enc) (C := Try.checked) false ⟨#[], #[.int .i64 0, .slice none 0 0, .bool false], []⟩ 8 (by kernel_rfl) (by kernel_rfl) (by kernel_rfl) (by kernel_rfl))
      (fun W base args ds p hval hA _ => by
        rw [Try.params4] at hA hval
        obtain ⟨v0, vs0, d0, ds0, p0, q0, hargs, rfl, rfl, h0, r0⟩ := trodAll_cons hA
        obtain ⟨v1, vs1, d1, ds1, p1, q1, rfl, rfl, rfl, h1, r1⟩ := trodAll_cons r0
        obtain ⟨v2, vs2, d2, ds2, p2, q2, rfl, rfl, rfl, h2, r2⟩ := trodAll_cons r1
        obtain ⟨rfl, rfl, rfl⟩ := trodAll_nil r2
        obtain rfl : args = #[v0, v1, v2] := by cases args; simp_all
        obtain ⟨most, rfl, rfl, rfl, _⟩ := open_int Try.underlying3 (hval 0 _ v0 rfl rfl) h0
        obtain ⟨a1, l1, c1, rfl⟩ := okWide_slice Try.underlying26 (hval 1 _ v1 rfl rfl)
        obtain ⟨fuel, hf⟩ := h1
        obtain ⟨ms, hms⟩ := kMems_opens enc W 0 _ true fuel _ _ hf
        obtain ⟨up, rfl, rfl, rfl⟩ := open_bool Try.underlying4 (hval 2 _ v2 rfl rfl) h2
        exact walk_FnLearners most _ ms up W hms))
#print axioms FnLearners_holds
end Go.Proofs.Ytogojpckjamkjaa
