/-
  The frame of a law whose row lists the library's variables, and of its card.
-/
import Derived.Test.YtdokcengcekfgaaGreatDoorStorage
import Derived.Test.YtdokcengcekfgaaGreatDoorCards
import Derived.Test.YtdokcengcekfgaaGreatDoorTie
import Derived.Deep.DeepHandedRow
import Derived.Deep.DeepWitnessRowRef
import Derived.Lib.LaidTab
import Derived.Stop.LaidErr
namespace Go.Proofs.YtdokcengcekfgaaGreatDoor
open Go.ChangeShapes Go.WideShapes Go.ChangeAt Go.RowKit
set_option linter.unusedSimpArgs false
set_option linter.unusedVariables false

theorem own : ownKnob Tryz.prog.godebug = none := by kernel_rfl
theorem laidOut : laidOutB Tryz.prog = true := by kernel_rfl
/-- what the rows list -/
abbrev laidL : List (String × DataW Unit) := [("math/bits.deBruijn32tab", Rows.laid_math_bits_deBruijn32tab), ("math/bits.deBruijn64tab", Rows.laid_math_bits_deBruijn64tab), ("internal/strconv.uint64pow10", Rows.laid_internal_strconv_uint64pow10), ("strconv.ErrRange", Rows.laid_strconv_ErrRange), ("strconv.ErrSyntax", Rows.laid_strconv_ErrSyntax)]
theorem pow_tab : Rows.laid_internal_strconv_uint64pow10 (H := Unit) = Lib.tabData .u64 Lib.pow10Tab := by kernel_rfl
theorem errStar : "*" ++ "errors.errorString" = "*errors.errorString" := by decide
theorem rowErr (u : TypeId) (h : Tryz.prog.typeName? 3 u = some "*errors.errorString") : u = 137 :=
  typeName_ptr_named (nm := "errors.errorString") (by rw [errStar]; kernel_rfl) (by kernel_rfl) (by decide) u (by rw [errStar]; exact h)
theorem vars_of {W : World} (h : laidMetH Tryz.prog laidL W) : VarsOk W := by
  have h0 : laidMet Tryz.prog laidL W := h
  have h1 := h0.tail.tail
  have h2 := h1.tail.tail
  refine ⟨?_, ?_⟩
  · obtain ⟨a, s, hv, _⟩ := laid_sentinel (g := 1) (te := 139) (ts := 9) h2 (by kernel_rfl) (by kernel_rfl) Tryz.underlying51 rowErr Tryz.underlying137 Tryz.underlying139 rfl rfl Tryz.underlying9 (by kernel_rfl) (by kernel_rfl)
    exact ⟨_, _, hv⟩
  · rw [pow_tab] at h1
    exact Lib.tabIs_of_head (g := 0) (by kernel_rfl) (by kernel_rfl) Tryz.underlying125 Tryz.underlying111 (by kernel_rfl) (by kernel_rfl) h1

/-! ### A world that holds them -/
def litV : DataW Unit → Value
  | .lit (.int k n) => .int k n
  | _ => undef
def aggV : DataW Unit → Array Value
  | .agg l => (l.map litV).toArray
  | _ => #[]
abbrev rangeS : ByteArray := { data := #[118, 97, 108, 117, 101, 32, 111, 117, 116, 32, 111, 102, 32, 114, 97, 110, 103, 101] }
abbrev syntaxS : ByteArray := { data := #[105, 110, 118, 97, 108, 105, 100, 32, 115, 121, 110, 116, 97, 120] }
noncomputable def low : Nat := (World.holding Tryz.prog default ⟨#[], #[], []⟩).heap.size
def putAt (cs : Array Value) : Obj → Obj
  | .cells _ t frozen => .cells cs t frozen
  | o => o
noncomputable def laidWorld (os : Os) : World :=
  let w0 := World.holding Tryz.prog os ⟨#[.cells #[.string syntaxS] 139, .cells #[.string rangeS] 139], #[], []⟩
  { w0 with heap := ((((w0.heap.modify 1 (putAt #[.iface 137 (.pointer (some ⟨low, 0, none⟩))])).modify 2 (putAt #[.iface 137 (.pointer (some ⟨low + 1, 0, none⟩))])).modify 0 (putAt (aggV Rows.laid_internal_strconv_uint64pow10))).modify 3 (putAt (aggV Rows.laid_math_bits_deBruijn32tab))).modify 4 (putAt (aggV Rows.laid_math_bits_deBruijn64tab)) }

/-! ### The frame -/
set_option maxRecDepth 100000 in
theorem law_card (n : Nat) (fn : Func) (s : ChangeSpec) (B : TypeId) (wargs : Array Value) (hfn : Tryz.prog.funcs[n]? = some fn) (noInit : Tryz.checked.prog.inits.idxOf? n = none)
    (hvars : s.vars = []) (hspec : ∀ (H : Type) (ds : List (DataW H)), ds.length = fn.params.size → s.fn H ds = { results := [.lit (.bool true)], args := ds })
    (hres : fn.resultTypes = #[B]) (hB : Tryz.prog.underlying B = some .bool)
    (hread : ∀ t ∈ fn.params.toList, Tryz.prog.readableRec t = true ∧ t < Tryz.prog.types.size)
    (os : Os) (started : os.Started) (H : Type) (enc : TypeId × Value → H) (F : Stop.Interp)
    (witness : ∃ (w : World) (tape : Tape) (i : Input), w.os = os ∧ (w.forCall tape i).Shaped Tryz.checked.prog ∧ i.vars = [] ∧ Input.okWide Tryz.checked.prog (w.forCall tape i) .any w.heap.size n i ∧
      (OpenSpec.ofChange s).preRow enc Tryz.checked.prog fn [] false laidL (w.forCall tape i).memory i.args ∧ Assume.holds {} Tryz.checked.prog (lone (Frame.enter Tryz.checked.prog n i.args .normal) [] (w.forCall tape i)))
    (walk : ∀ (W : World) (base : Nat) (args : Array Value) (ds : List (DataW H)) (p : List MemPlace),
      (∀ (j : Nat) t v, fn.params[j]? = some t → args[j]? = some v → Value.okWide Tryz.prog W .any base t v) →
      DataW.TrodAll enc Tryz.prog W 0 (fun _ => true) true fn.params.toList args.toList ds p →
      (DataW.weightsEach Tryz.prog fn.params.toList ds).all (· ≤ reachBytes) = true → VarsOk W →
      Calls Tryz.prog n args W fun e W' => e = .returned (.bool true) ∧ Ext W W') :
    ReturnsInHanded {} Tryz.checked os n .any ((OpenSpec.ofChange s).preRow enc Tryz.prog fn [] false laidL) (((OpenSpec.ofChange s).at F).post enc Tryz.prog fn false true false false) := by
  refine returnsInHanded_of_row (C := Tryz.checked) (s := OpenSpec.ofChange s) own started noInit hfn witness ?_
  intro W base args ds gs before hval0 hW _ _ hsz0 hL _ _
  have hval : ∀ (j : Nat) t v, fn.params[j]? = some t → args[j]? = some v → Value.okWide Tryz.prog W .any base t v := hval0
  have hW' : DataW.Whole enc Tryz.prog fn.params.toList s.vars false W args.toList ds gs before := hW
  have hlt := hW'.lt
  obtain ⟨p, q, hA0, hV, rfl, hfz, hnd⟩ := id hW'
  have hA : DataW.TrodAll enc Tryz.prog W 0 (fun _ => true) true fn.params.toList args.toList ds p := hA0
  rw [hvars] at hV
  obtain ⟨rfl, rfl⟩ := trodVars_none hV
  have hsz : (DataW.weightsEach Tryz.prog fn.params.toList ds).all (· ≤ reachBytes) = true := by
    have h : (DataW.weightsEach Tryz.prog (fn.params.toList ++ s.plain.varTypes Tryz.prog) (ds ++ [])).all (· ≤ reachBytes) = true := hsz0
    have e : s.plain.varTypes Tryz.prog = [] := by
      show s.plain.vars.filterMap _ = _
      rw [show s.plain.vars = s.vars from rfl, hvars]; rfl
    simpa [e] using h
  refine (walk W base args ds p hval hA hsz (vars_of hL)).mono fun e W' ⟨he, bel⟩ => ?_
  subst he
  have hs := hspec H (ds ++ []) (by rw [List.append_nil, trodAll_length _ _ _ _ hA]; simp)
  refine ⟨_, rfl, ?_⟩
  show s.post enc Tryz.prog fn false true false false W args (.bool true) W'
  refine ⟨ds, [], _, [], p, [], hW', ?_, ?_, ?_, bel.below.frame _, fun h => by cases h⟩
  · rw [hs, hres]; exact trodAll_mk1 (shut_bool hB _)
  · rw [hs]; simp only [List.append_nil]; exact trodAll_below laidOut bel.below _ _ _ _ hread hA (fun x hx => hlt x (by simp [hx]))
  · rw [hvars, hs]; rfl
/-! ### Versions, opened -/
set_option maxRecDepth 100000 in
theorem gd_opens : Opens Tryz.prog 24 (Rp.str.pair (Rp.str.pair (Rp.str.pair (Rp.bool.pair (Rp.bool.pair (Rp.slice Rp.str)))))) :=
  Opens.struct Tryz.underlying24 (by kernel_rfl) (OpensF.cons rfl (by kernel_rfl) (Opens.str Tryz.underlying9) (OpensF.cons rfl (by kernel_rfl) (Opens.str Tryz.underlying9) (OpensF.cons rfl (by kernel_rfl) (Opens.str Tryz.underlying9)
    (OpensF.cons rfl (by kernel_rfl) (Opens.bool Tryz.underlying4) (OpensF.cons rfl (by kernel_rfl) (Opens.bool Tryz.underlying4) (OpensF.one rfl (by kernel_rfl) (Opens.slice Tryz.underlying22 (by kernel_rfl) (by decide) (Opens.str Tryz.underlying9))))))))
set_option maxRecDepth 100000 in
theorem gd_arg {H : Type} {enc : TypeId × Value → H} {W : World} {base : Nat} {v : Value} {d : DataW H} {p : List MemPlace} (hv : Value.okWide Tryz.prog W .any base 24 v)
    (h : DataW.Trod enc Tryz.prog W 0 (fun _ => true) true 24 v d p) : ∃ (g : GD) (A : Option Addr) (n cap : Nat), v = gdV g A n cap ∧ n = g.members.length ∧ (Rp.slice Rp.str).K W any g.members [.slice A n cap] := by
  obtain ⟨cs, rfl, hsz⟩ := okWide_struct Tryz.underlying24 hv
  obtain ⟨fuel, hf⟩ := h
  obtain ⟨⟨a, b, c, dn, hd, ms⟩, c1, _, hcs, ⟨rfl, _⟩, c2, _, rfl, ⟨rfl, _⟩, c3, _, rfl, ⟨rfl, _⟩, c4, _, rfl, h4, c5, _, rfl, h5, h6⟩ := gd_opens enc W 0 _ true fuel _ _ hf
  obtain rfl : c4 = [_] := h4
  obtain rfl : c5 = [_] := h5
  obtain ⟨A, cap, rfl, p1, p2, p3⟩ := id h6
  refine ⟨⟨a, b, c, dn, hd, ms⟩, A, ms.length, cap, ?_, rfl, h6⟩
  have : cs.toList = gdCells ⟨a, b, c, dn, hd, ms⟩ A ms.length cap := by simpa [Value.cells] using hcs
  rw [show cs = (gdCells ⟨a, b, c, dn, hd, ms⟩ A ms.length cap).toArray from by rw [← Array.toArray_toList (xs := cs), this]]
set_option maxRecDepth 100000 in
theorem ver_opens : Opens Tryz.prog 29 ((Rp.int .i64).pair ((Rp.int .i64).pair (Rp.int .i64))) :=
  Opens.struct Tryz.underlying29 (by kernel_rfl) (OpensF.cons rfl (by kernel_rfl) (Opens.int Tryz.underlying2) (OpensF.cons rfl (by kernel_rfl) (Opens.int Tryz.underlying2) (OpensF.one rfl (by kernel_rfl) (Opens.int Tryz.underlying2))))
set_option maxRecDepth 100000 in
theorem ver_arg {H : Type} {enc : TypeId × Value → H} {W : World} {base : Nat} {v : Value} {d : DataW H} {p : List MemPlace} (hv : Value.okWide Tryz.prog W .any base 29 v)
    (h : DataW.Trod enc Tryz.prog W 0 (fun _ => true) true 29 v d p) : ∃ x : VD, v = verV x := by
  obtain ⟨cs, rfl, hsz⟩ := okWide_struct Tryz.underlying29 hv
  obtain ⟨fuel, hf⟩ := h
  obtain ⟨⟨a, b, c⟩, c1, _, hcs, ⟨rfl, _⟩, c2, c3, rfl, ⟨rfl, _⟩, h3⟩ := ver_opens enc W 0 _ true fuel _ _ hf
  obtain ⟨rfl, _⟩ : c3 = [.int .i64 c] ∧ _ := h3
  refine ⟨⟨a, b, c⟩, ?_⟩
  have : cs.toList = verCells ⟨a, b, c⟩ := by simpa [Value.cells] using hcs
  rw [show cs = (verCells ⟨a, b, c⟩).toArray from by rw [← Array.toArray_toList (xs := cs), this]]
end Go.Proofs.YtdokcengcekfgaaGreatDoor
