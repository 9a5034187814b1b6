/-
  laws.smFew, smLive; FnCPUText walked.
-/
import Derived.Test.YtfefnflcgkanpaaGreatDoorSg
import Derived.Test.YtfefnflcgkanpaaGreatDoorSi
namespace Go.Proofs.YtfefnflcgkanpaaGreatDoor
open Go.RowKit Go.Lib
set_option linter.unusedSimpArgs false
set_option linter.unusedVariables false

def okN (least n : Int) : Bool := decide (least ≤ n) && decide (n ≤ 1099511627776)
def fewB (l : List Int) (least : Int) : Bool := decide (l.length ≤ 300) && l.all (okN least)
theorem rising_310 : rising [3, 1, 0] = [0, 1, 3] := asc_ext (rising_asc _) (by unfold Asc; decide) (fun x => by rw [mem_rising]; simp only [List.mem_cons, List.mem_nil_iff, or_false]; omega)
theorem itoa0 : itoa 0 = [48] := by rw [itoa, if_neg (by omega), decDigits, dif_pos (by omega)]; rfl
theorem itoa1 : itoa 1 = [49] := by rw [itoa, if_neg (by omega), decDigits, dif_pos (by omega)]; rfl
theorem itoa3 : itoa 3 = [51] := by rw [itoa, if_neg (by omega), decDigits, dif_pos (by omega)]; rfl
theorem live_text : cpuT (runs (rising [3, 1, 0])) = [48, 45, 49, 44, 51] := by
  rw [rising_310, show runs [0, 1, 3] = [(0, 1), (3, 3)] from by decide]
  simp [cpuT, flat, rtext, itoa0, itoa1, itoa3]
theorem ints3 (w : World) (x y z : Int) {ok : Nat → Prop} (h : ok w.heap.size) : (Rp.slice Rp.iv).K (w.alloc (.cells #[.int .i64 x, .int .i64 y, .int .i64 z] 3)) ok [x, y, z] [.slice (some ⟨w.heap.size, 0, none⟩) 3 3] :=
  slice_of_blk (d := Rp.iv) (cap := 3) (xs := [x, y, z]) (Blk.new w 3 [.int .i64 x, .int .i64 y, .int .i64 z]) h (show 3 * 1 ≤ 3 by decide) (fun i y' hy => by
    match i, hy with
    | 0, hy => simp at hy; subst hy; exact ⟨rfl, trivial⟩
    | 1, hy => simp at hy; subst hy; exact ⟨rfl, trivial⟩
    | 2, hy => simp at hy; subst hy; exact ⟨rfl, trivial⟩
    | i + 3, hy => simp at hy) (Nat.le_refl _) (by decide)
set_option maxRecDepth 20000 in
set_option maxHeartbeats 1000000 in
theorem live_any (w : World) (hT : TabOk w) : Calls Tryz.prog 4 #[] w fun e w' => e = .returned (.bool true) ∧ Ext w w' := by
  have HT := Lib.hid hT
  clear hT
  go_enter Tryz.func4, Tryz.ntmps4
  go_wp2_with fail
  refine (cpuParse_all w).mono ?_
  rintro e w1 ⟨v, rfl, hO, e1⟩
  have HO := Lib.hid hO.slice
  clear hO
  go_wp2_with fail
  refine (equal_read [0, 1, 3] [0, 1, 3] v _ _ ((Rp.slice Rp.iv).ext' ((Ext.refl w1).alloc _) HO.out) (ints3 w1 0 1 3 (ok := any) trivial)).mono ?_
  rintro e w2 ⟨rfl, e2⟩
  have E2 := (e1.alloc _).trans e2
  go_wp2_with fail
  refine (cpuText_any [3, 1, 0] _ _ (ints3 w2 3 1 0 (ok := any) trivial) (by decide) (by decide) (HT.out.ext (E2.alloc _))).mono ?_
  rintro e w3 ⟨rfl, e3⟩
  rw [live_text]
  go_wp2_with fail
  go_ret
  refine ⟨?_, E2.trans (((Ext.refl w2).alloc _).trans e3)⟩
  show Ending.returned (.bool ((strS [48, 45, 49, 44, 51]).toList == [48, 45, 49, 44, 51])) = _
  rw [ByteArray.toList_eq]
  rfl
end Go.Proofs.YtfefnflcgkanpaaGreatDoor
