/-
  The frame of a law whose row lists the library's variables, and of its card.
-/
import Derived.Test.YtfefnflcgkanpaaGreatDoorSk
import Derived.Test.YtfefnflcgkanpaaGreatDoorCards
import Derived.Test.YtfefnflcgkanpaaGreatDoorTie
import Derived.Deep.DeepHandedRow
import Derived.Deep.DeepWitnessRowRef
import Derived.Lib.LaidTab
import Derived.Stop.LaidErr
namespace Go.Proofs.YtfefnflcgkanpaaGreatDoor
open Go.ChangeShapes Go.WideShapes Go.ChangeAt Go.RowKit
set_option linter.unusedSimpArgs false
set_option linter.unusedVariables false

theorem own : ownKnob Tryz.prog.godebug = none := by kernel_rfl
theorem laidOut : laidOutB Tryz.prog = true := by kernel_rfl
/-- what the rows list -/
abbrev laidL : List (String × DataW Unit) := [("math/bits.deBruijn32tab", Rows.laid_math_bits_deBruijn32tab), ("math/bits.deBruijn64tab", Rows.laid_math_bits_deBruijn64tab), ("internal/strconv.uint64pow10", Rows.laid_internal_strconv_uint64pow10), ("strconv.ErrRange", Rows.laid_strconv_ErrRange), ("strconv.ErrSyntax", Rows.laid_strconv_ErrSyntax), ("bytes.ErrTooLarge", Rows.laid_bytes_ErrTooLarge)]
theorem pow_tab : Rows.laid_internal_strconv_uint64pow10 (H := Unit) = Lib.tabData .u64 Lib.pow10Tab := by kernel_rfl
theorem vars_of {W : World} (h : laidMetH Tryz.prog laidL W) : TabOk W := by
  have h0 : laidMet Tryz.prog laidL W := h
  have h1 := h0.tail.tail
  rw [pow_tab] at h1
  exact Lib.tabIs_of_head (g := 3) (by kernel_rfl) (by kernel_rfl) Tryz.underlying142 Tryz.underlying88 (by kernel_rfl) (by kernel_rfl) h1

/-! ### A world that holds them -/
def litV : DataW Unit → Value
  | .lit (.int k n) => .int k n
  | _ => undef
def aggV : DataW Unit → Array Value
  | .agg l => (l.map litV).toArray
  | _ => #[]
abbrev rangeS : ByteArray := { data := #[118, 97, 108, 117, 101, 32, 111, 117, 116, 32, 111, 102, 32, 114, 97, 110, 103, 101] }
abbrev syntaxS : ByteArray := { data := #[105, 110, 118, 97, 108, 105, 100, 32, 115, 121, 110, 116, 97, 120] }
abbrev largeS : ByteArray := { data := #[98, 121, 116, 101, 115, 46, 66, 117, 102, 102, 101, 114, 58, 32, 116, 111, 111, 32, 108, 97, 114, 103, 101] }
noncomputable def low : Nat := (World.holding Tryz.prog default ⟨#[], #[], []⟩).heap.size
def putAt (cs : Array Value) : Obj → Obj
  | .cells _ t frozen => .cells cs t frozen
  | o => o
noncomputable def laidWorld (os : Os) : World :=
  let w0 := World.holding Tryz.prog os ⟨#[.cells #[.string syntaxS] 137, .cells #[.string rangeS] 137, .cells #[.string largeS] 137], #[], []⟩
  { w0 with heap := (((((w0.heap.modify 0 (putAt #[.iface 135 (.pointer (some ⟨low + 2, 0, none⟩))])).modify 1 (putAt #[.iface 135 (.pointer (some ⟨low, 0, none⟩))])).modify 2 (putAt #[.iface 135 (.pointer (some ⟨low + 1, 0, none⟩))])).modify 3 (putAt (aggV Rows.laid_internal_strconv_uint64pow10))).modify 4 (putAt (aggV Rows.laid_math_bits_deBruijn32tab))).modify 5 (putAt (aggV Rows.laid_math_bits_deBruijn64tab)) }

/-! ### The frame -/
set_option maxRecDepth 100000 in
theorem law_card (n : Nat) (fn : Func) (s : ChangeSpec) (B : TypeId) (wargs : Array Value) (hfn : Tryz.prog.funcs[n]? = some fn) (noInit : Tryz.checked.prog.inits.idxOf? n = none)
    (hvars : s.vars = []) (hspec : ∀ (H : Type) (ds : List (DataW H)), ds.length = fn.params.size → s.fn H ds = { results := [.lit (.bool true)], args := ds })
    (hres : fn.resultTypes = #[B]) (hB : Tryz.prog.underlying B = some .bool)
    (hread : ∀ t ∈ fn.params.toList, Tryz.prog.readableRec t = true ∧ t < Tryz.prog.types.size)
    (os : Os) (started : os.Started) (H : Type) (enc : TypeId × Value → H) (F : Stop.Interp)
    (witness : ∃ (w : World) (tape : Tape) (i : Input), w.os = os ∧ (w.forCall tape i).Shaped Tryz.checked.prog ∧ i.vars = [] ∧ Input.okWide Tryz.checked.prog (w.forCall tape i) .any w.heap.size n i ∧
      (OpenSpec.ofChange s).preRow enc Tryz.checked.prog fn [] false laidL (w.forCall tape i).memory i.args ∧ Assume.holds {} Tryz.checked.prog (lone (Frame.enter Tryz.checked.prog n i.args .normal) [] (w.forCall tape i)))
    (walk : ∀ (W : World) (base : Nat) (args : Array Value) (ds : List (DataW H)) (p : List MemPlace),
      (∀ (j : Nat) t v, fn.params[j]? = some t → args[j]? = some v → Value.okWide Tryz.prog W .any base t v) →
      DataW.TrodAll enc Tryz.prog W 0 (fun _ => true) true fn.params.toList args.toList ds p →
      (DataW.weightsEach Tryz.prog fn.params.toList ds).all (· ≤ reachBytes) = true → TabOk W →
      Calls Tryz.prog n args W fun e W' => e = .returned (.bool true) ∧ Ext W W') :
    ReturnsInHanded {} Tryz.checked os n .any ((OpenSpec.ofChange s).preRow enc Tryz.prog fn [] false laidL) (((OpenSpec.ofChange s).at F).post enc Tryz.prog fn false true false false) := by
  refine returnsInHanded_of_row (C := Tryz.checked) (s := OpenSpec.ofChange s) own started noInit hfn witness ?_
  intro W base args ds gs before hval0 hW _ _ hsz0 hL _ _
  have hval : ∀ (j : Nat) t v, fn.params[j]? = some t → args[j]? = some v → Value.okWide Tryz.prog W .any base t v := hval0
  have hW' : DataW.Whole enc Tryz.prog fn.params.toList s.vars false W args.toList ds gs before := hW
  have hlt := hW'.lt
  obtain ⟨p, q, hA0, hV, rfl, hfz, hnd⟩ := id hW'
  have hA : DataW.TrodAll enc Tryz.prog W 0 (fun _ => true) true fn.params.toList args.toList ds p := hA0
  rw [hvars] at hV
  obtain ⟨rfl, rfl⟩ := trodVars_none hV
  have hsz : (DataW.weightsEach Tryz.prog fn.params.toList ds).all (· ≤ reachBytes) = true := by
    have h : (DataW.weightsEach Tryz.prog (fn.params.toList ++ s.plain.varTypes Tryz.prog) (ds ++ [])).all (· ≤ reachBytes) = true := hsz0
    have e : s.plain.varTypes Tryz.prog = [] := by
      show s.plain.vars.filterMap _ = _
      rw [show s.plain.vars = s.vars from rfl, hvars]; rfl
    simpa [e] using h
  refine (walk W base args ds p hval hA hsz (vars_of hL)).mono fun e W' ⟨he, bel⟩ => ?_
  subst he
  have hs := hspec H (ds ++ []) (by rw [List.append_nil, trodAll_length _ _ _ _ hA]; simp)
  refine ⟨_, rfl, ?_⟩
  show s.post enc Tryz.prog fn false true false false W args (.bool true) W'
  refine ⟨ds, [], _, [], p, [], hW', ?_, ?_, ?_, bel.below.frame _, fun h => by cases h⟩
  · rw [hs, hres]; exact trodAll_mk1 (shut_bool hB _)
  · rw [hs]; simp only [List.append_nil]; exact trodAll_below laidOut bel.below _ _ _ _ hread hA (fun x hx => hlt x (by simp [hx]))
  · rw [hvars, hs]; rfl
/-! ### Slices of numbers, opened -/
theorem Opens.of {α : Type} {P : Program} {t : TypeId} {d d' : Rp α} (h : Opens P t d) (hd : ∀ w a cs, d.K w any a cs → d'.K w any a cs) : Opens P t d' :=
  fun enc w base sp held fuel cs x hx => by obtain ⟨a, ha⟩ := h enc w base sp held fuel cs x hx; exact ⟨a, hd w a cs ha⟩
theorem iv_opens : Opens Tryz.prog 3 Rp.iv := Opens.of (d := Rp.int .i64) (d' := Rp.iv) (Opens.int Tryz.underlying3) (fun w a cs h => ⟨h.1, trivial⟩)
theorem ints_opens : Opens Tryz.prog 22 (Rp.slice Rp.iv) := Opens.slice Tryz.underlying22 (by kernel_rfl) (by decide) iv_opens
end Go.Proofs.YtfefnflcgkanpaaGreatDoor
