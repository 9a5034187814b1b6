/-
  No cell of these rows narrows 'for every input' (looked for: loops, veiled, ifaces, maps, wideKeys, modest, calm, conditions, laid).
  DERIVED. THE GIVEN ROWS OF THIS SEAT. 5 by the template 'for every input the law returns true; each argument reads behind the call as it read before'; 0 by the template 'total and deterministic' (their statements: YthnhgfpkmbgkdaaTotals.lean).
  GIVEN WITH THE SEED: the statements are not yours to turn. If you find one false, say at which input.
  Laid BY PROGRAM, IN A SANDBOX (cutbox-rows.mjs): the forced cells as the released guide's own fill.sh prints them over the translation 74cf5dbb16ac19b3… (all of the seat's roots in one cut). By AI agents, Wed Nov 11 2026. No macro, syntax, notation, axiom, sorry.
-/
import Derived.Test.YthnhgfpkmbgkdaaChecked
import GoSem.Claim
import GoSem.ClaimJoined
import GoSem.ClaimMapViews
import Derived.JoinedTies
import Derived.KernelRfl
namespace Go.Proofs.Ythnhgfpkmbgkdaa
/- THE CELL 'sum', in the pinned program and in every row, IS THE sha256 OF THE DUMP (.gsa) THAT YthnhgfpkmbgkdaaProg.lean LOADS. Nothing in Lean hashes anything: it is a label: what it is worth is what the hold of that sum in a sandbox is worth. -/
noncomputable def Try.pinned : Pinned := { name := "ythnhgfpkmbgkdaa", sum := "74cf5dbb16ac19b376790e0133fc43545b82444a316aafb19cfc34fe0cad1981", checked := Try.checked }
namespace Rows
def none {H : Type} : Left H := { results := [], args := [] }

/-- 'laws.FnCompactOnce': WHATEVER THE INPUT: true; the input reads as it did. -/
def fnCompactOnceSpec : ChangeSpec := { name := "fnCompactOnce", fn := fun _ => fun
  | [d1, d2, d3, d4] => { results := [.lit (.bool true)], args := [d1, d2, d3, d4] }
  | _ => none }
def fnCompactOnceRow : OpenClaim := { program := "ythnhgfpkmbgkdaa", sum := "74cf5dbb16ac19b376790e0133fc43545b82444a316aafb19cfc34fe0cad1981", func := "pub-vicegerent/laws.FnCompactOnce", spec := "fnCompactOnce", unfollowed := true, recurses := true, apart := false }
def FnCompactOnceSaid : Prop := fnCompactOnceRow.holds Try.pinned (OpenSpec.ofChange fnCompactOnceSpec)

/-- ITS FALSE NEIGHBOUR: 'it returns false'. Refute it at one input. -/
def fnCompactOnceWrong : ChangeSpec := { name := "fnCompactOnce", fn := fun _ => fun
  | [d1, d2, d3, d4] => { results := [.lit (.bool false)], args := [d1, d2, d3, d4] }
  | _ => none }
def FnCompactOnceWrongFalsely : Prop := fnCompactOnceRow.holds Try.pinned (OpenSpec.ofChange fnCompactOnceWrong)

/-- 'laws.FnCompactQuiet': WHATEVER THE INPUT: true; the input reads as it did. -/
def fnCompactQuietSpec : ChangeSpec := { name := "fnCompactQuiet", fn := fun _ => fun
  | [d1, d2] => { results := [.lit (.bool true)], args := [d1, d2] }
  | _ => none }
def fnCompactQuietRow : OpenClaim := { program := "ythnhgfpkmbgkdaa", sum := "74cf5dbb16ac19b376790e0133fc43545b82444a316aafb19cfc34fe0cad1981", func := "pub-vicegerent/laws.FnCompactQuiet", spec := "fnCompactQuiet", unfollowed := true, recurses := true, apart := false }
def FnCompactQuietSaid : Prop := fnCompactQuietRow.holds Try.pinned (OpenSpec.ofChange fnCompactQuietSpec)

/-- ITS FALSE NEIGHBOUR: 'it returns false'. Refute it at one input. -/
def fnCompactQuietWrong : ChangeSpec := { name := "fnCompactQuiet", fn := fun _ => fun
  | [d1, d2] => { results := [.lit (.bool false)], args := [d1, d2] }
  | _ => none }
def FnCompactQuietWrongFalsely : Prop := fnCompactQuietRow.holds Try.pinned (OpenSpec.ofChange fnCompactQuietWrong)

/-- 'laws.FnInitialCheck': WHATEVER THE INPUT: true; the input reads as it did. -/
def fnInitialCheckSpec : ChangeSpec := { name := "fnInitialCheck", fn := fun _ => fun
  | [d1, d2] => { results := [.lit (.bool true)], args := [d1, d2] }
  | _ => none }
def fnInitialCheckRow : OpenClaim := { program := "ythnhgfpkmbgkdaa", sum := "74cf5dbb16ac19b376790e0133fc43545b82444a316aafb19cfc34fe0cad1981", func := "pub-vicegerent/laws.FnInitialCheck", spec := "fnInitialCheck", unfollowed := true, recurses := true, apart := false }
def FnInitialCheckSaid : Prop := fnInitialCheckRow.holds Try.pinned (OpenSpec.ofChange fnInitialCheckSpec)

/-- ITS FALSE NEIGHBOUR: 'it returns false'. Refute it at one input. -/
def fnInitialCheckWrong : ChangeSpec := { name := "fnInitialCheck", fn := fun _ => fun
  | [d1, d2] => { results := [.lit (.bool false)], args := [d1, d2] }
  | _ => none }
def FnInitialCheckWrongFalsely : Prop := fnInitialCheckRow.holds Try.pinned (OpenSpec.ofChange fnInitialCheckWrong)

/-- 'laws.FnPeriodicCheck': WHATEVER THE INPUT: true; the input reads as it did. -/
def fnPeriodicCheckSpec : ChangeSpec := { name := "fnPeriodicCheck", fn := fun _ => fun
  | [d1, d2, d3, d4, d5] => { results := [.lit (.bool true)], args := [d1, d2, d3, d4, d5] }
  | _ => none }
def fnPeriodicCheckRow : OpenClaim := { program := "ythnhgfpkmbgkdaa", sum := "74cf5dbb16ac19b376790e0133fc43545b82444a316aafb19cfc34fe0cad1981", func := "pub-vicegerent/laws.FnPeriodicCheck", spec := "fnPeriodicCheck", unfollowed := true, recurses := true, apart := false }
def FnPeriodicCheckSaid : Prop := fnPeriodicCheckRow.holds Try.pinned (OpenSpec.ofChange fnPeriodicCheckSpec)

/-- ITS FALSE NEIGHBOUR: 'it returns false'. Refute it at one input. -/
def fnPeriodicCheckWrong : ChangeSpec := { name := "fnPeriodicCheck", fn := fun _ => fun
  | [d1, d2, d3, d4, d5] => { results := [.lit (.bool false)], args := [d1, d2, d3, d4, d5] }
  | _ => none }
def FnPeriodicCheckWrongFalsely : Prop := fnPeriodicCheckRow.holds Try.pinned (OpenSpec.ofChange fnPeriodicCheckWrong)

/-- 'laws.FnPeriodicLies': WHATEVER THE INPUT: true; the input reads as it did. -/
def fnPeriodicLiesSpec : ChangeSpec := { name := "fnPeriodicLies", fn := fun _ => fun
  | [d1, d2, d3, d4, d5, d6, d7] => { results := [.lit (.bool true)], args := [d1, d2, d3, d4, d5, d6, d7] }
  | _ => none }
def fnPeriodicLiesRow : OpenClaim := { program := "ythnhgfpkmbgkdaa", sum := "74cf5dbb16ac19b376790e0133fc43545b82444a316aafb19cfc34fe0cad1981", func := "pub-vicegerent/laws.FnPeriodicLies", spec := "fnPeriodicLies", unfollowed := true, recurses := true, apart := false }
def FnPeriodicLiesSaid : Prop := fnPeriodicLiesRow.holds Try.pinned (OpenSpec.ofChange fnPeriodicLiesSpec)

/-- ITS FALSE NEIGHBOUR: 'it returns false'. Refute it at one input. -/
def fnPeriodicLiesWrong : ChangeSpec := { name := "fnPeriodicLies", fn := fun _ => fun
  | [d1, d2, d3, d4, d5, d6, d7] => { results := [.lit (.bool false)], args := [d1, d2, d3, d4, d5, d6, d7] }
  | _ => none }
def FnPeriodicLiesWrongFalsely : Prop := fnPeriodicLiesRow.holds Try.pinned (OpenSpec.ofChange fnPeriodicLiesWrong)

/- THE SECOND FORM. 'bulk': how many values and letters a reading holds, each counted each time it is reached (what is shared counts as often as it is met; a slice's spare places count too). A statement '..UptoSaid' is the law's where the arguments, and the package variables that the reading takes, are together of bulk at most 1048576: NARROWER than '..Said'. Prove '..Said' where nothing that the law and all that it calls make is longer than what came in: it says more and counts as full. Else prove '..UptoSaid'. A law counts once. -/
mutual
def uptoBulk {H : Type} : DataW H → Nat
  | .lit (.string bytes) => bytes.length + 1
  | .lit _ => 1
  | .nil => 1
  | .ptr d => uptoBulk d + 1
  | .slice elems spare => uptoBulkAll elems + uptoBulkAll spare + 1
  | .agg parts => uptoBulkAll parts + 1
  | .iface _ d => uptoBulk d + 1
  | .map entries => uptoBulkEntries entries + 1
  | .held _ => 1
def uptoBulkAll {H : Type} : List (DataW H) → Nat
  | [] => 0
  | d :: r => uptoBulk d + uptoBulkAll r
def uptoBulkEntries {H : Type} : List (Lit × DataW H) → Nat
  | [] => 0
  | x :: r => uptoBulkEntry x + uptoBulkEntries r
def uptoBulkEntry {H : Type} : Lit × DataW H → Nat
  | (.string bytes, d) => bytes.length + uptoBulk d + 1
  | (_, d) => uptoBulk d + 1
 end
def uptoSmall : (H : Type) → List (DataW H) → Bool := fun _ ds => decide (uptoBulkAll ds ≤ 1048576)
def OpenSpec.upto (s : _root_.Go.ChangeSpec) : _root_.Go.OpenSpec := { _root_.Go.OpenSpec.ofChange s with cond := some uptoSmall }

/-- 'laws.FnCompactOnce', WHERE WHAT IT READS IS OF BULK AT MOST 1048576: true; the input reads as it did. -/
def fnCompactOnceUptoRow : OpenClaim := { program := "ythnhgfpkmbgkdaa", sum := "74cf5dbb16ac19b376790e0133fc43545b82444a316aafb19cfc34fe0cad1981", func := "pub-vicegerent/laws.FnCompactOnce", spec := "fnCompactOnce", unfollowed := true, recurses := true, apart := false, narrowed := true }
def FnCompactOnceUptoSaid : Prop := fnCompactOnceUptoRow.holds Try.pinned (OpenSpec.upto fnCompactOnceSpec)

/-- 'laws.FnCompactQuiet', WHERE WHAT IT READS IS OF BULK AT MOST 1048576: true; the input reads as it did. -/
def fnCompactQuietUptoRow : OpenClaim := { program := "ythnhgfpkmbgkdaa", sum := "74cf5dbb16ac19b376790e0133fc43545b82444a316aafb19cfc34fe0cad1981", func := "pub-vicegerent/laws.FnCompactQuiet", spec := "fnCompactQuiet", unfollowed := true, recurses := true, apart := false, narrowed := true }
def FnCompactQuietUptoSaid : Prop := fnCompactQuietUptoRow.holds Try.pinned (OpenSpec.upto fnCompactQuietSpec)

/-- 'laws.FnInitialCheck', WHERE WHAT IT READS IS OF BULK AT MOST 1048576: true; the input reads as it did. -/
def fnInitialCheckUptoRow : OpenClaim := { program := "ythnhgfpkmbgkdaa", sum := "74cf5dbb16ac19b376790e0133fc43545b82444a316aafb19cfc34fe0cad1981", func := "pub-vicegerent/laws.FnInitialCheck", spec := "fnInitialCheck", unfollowed := true, recurses := true, apart := false, narrowed := true }
def FnInitialCheckUptoSaid : Prop := fnInitialCheckUptoRow.holds Try.pinned (OpenSpec.upto fnInitialCheckSpec)

/-- 'laws.FnPeriodicCheck', WHERE WHAT IT READS IS OF BULK AT MOST 1048576: true; the input reads as it did. -/
def fnPeriodicCheckUptoRow : OpenClaim := { program := "ythnhgfpkmbgkdaa", sum := "74cf5dbb16ac19b376790e0133fc43545b82444a316aafb19cfc34fe0cad1981", func := "pub-vicegerent/laws.FnPeriodicCheck", spec := "fnPeriodicCheck", unfollowed := true, recurses := true, apart := false, narrowed := true }
def FnPeriodicCheckUptoSaid : Prop := fnPeriodicCheckUptoRow.holds Try.pinned (OpenSpec.upto fnPeriodicCheckSpec)

/-- 'laws.FnPeriodicLies', WHERE WHAT IT READS IS OF BULK AT MOST 1048576: true; the input reads as it did. -/
def fnPeriodicLiesUptoRow : OpenClaim := { program := "ythnhgfpkmbgkdaa", sum := "74cf5dbb16ac19b376790e0133fc43545b82444a316aafb19cfc34fe0cad1981", func := "pub-vicegerent/laws.FnPeriodicLies", spec := "fnPeriodicLies", unfollowed := true, recurses := true, apart := false, narrowed := true }
def FnPeriodicLiesUptoSaid : Prop := fnPeriodicLiesUptoRow.holds Try.pinned (OpenSpec.upto fnPeriodicLiesSpec)

end Rows
end Go.Proofs.Ythnhgfpkmbgkdaa
