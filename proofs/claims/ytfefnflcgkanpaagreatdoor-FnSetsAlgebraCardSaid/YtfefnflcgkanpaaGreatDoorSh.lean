/-
  Numbers and sets of processors as texts: spec.decimal, spec.CPUText.
-/
import Derived.Test.YtfefnflcgkanpaaGreatDoorSe
import Derived.Test.YtfefnflcgkanpaaGreatDoorRt
import Derived.Laws.IdiomStrings
import Derived.Laws.BytesArg
import Derived.Lib.ConvBytes
import Derived.IntWalk
import Derived.Deep.DeepCutAuto
namespace Go.Proofs.YtfefnflcgkanpaaGreatDoor
open Go.RowKit Go.Lib
set_option linter.unusedSimpArgs false
set_option linter.unusedVariables false

def strS (l : List UInt8) : ByteArray := ⟨l.toArray⟩
theorem strS_size (l : List UInt8) : (strS l).size = l.length := rfl
theorem strS_add (l m : List UInt8) : strS l ++ strS m = strS (l ++ m) := by
  unfold strS
  apply ByteArray.ext
  simp [ByteArray.data_append]
set_option maxRecDepth 20000 in
theorem byte_back (w : World) (x : Int) (h0 : 0 ≤ x) (h1 : x < 256) : (convert 64 9 (.slice (some ⟨w.heap.size, 0, none⟩) 1 1)).run Tryz.prog (w.alloc (.cells #[.int .u8 x] 5)) = .ok (.string (strS [UInt8.ofNat x.toNat])) (w.alloc (.cells #[.int .u8 x] 5)) := by
  have := run_convert_bytes_back (P := Tryz.prog) (w.alloc (.cells #[.int .u8 x] 5)) 64 9 5 ⟨w.heap.size, 0, none⟩ 1 [UInt8.ofNat x.toNat] Tryz.underlying64 Tryz.underlying5 Tryz.underlying9 (fun j hj => by
    have : j = 0 := by simp at hj; omega
    subst this
    have hx : ((UInt8.ofNat x.toNat).toNat : Int) = x := by simp; omega
    have := (Blk.new w 5 [.int .u8 x]).cell (o := 0) rfl
    simp only [List.getElem_cons_zero, hx]
    exact this)
  simpa [strS] using this
theorem itoa_small {n : Int} (h0 : 0 ≤ n) (h1 : n < 10) : strS [UInt8.ofNat (48 + n).toNat] = strS (itoa n) := by
  unfold itoa
  rw [if_neg (by omega), decDigits, dif_pos (by omega)]
  congr 3
  omega
theorem itoa_big {n : Int} (h1 : 10 ≤ n) : itoa (n / 10) ++ itoa (n % 10) = itoa n := by
  unfold itoa
  rw [if_neg (by omega), if_neg (by omega), if_neg (by omega)]
  conv => rhs; rw [decDigits]
  rw [dif_neg (by omega), show (n / 10).toNat = n.toNat / 10 by omega]
  congr 1
  rw [decDigits, dif_pos (by omega)]
  congr 2
  omega
theorem itoa_neg {n : Int} (h : n < 0) : 45 :: itoa (-n) = itoa n := by
  unfold itoa
  rw [if_neg (by omega), if_pos h]
  congr 2
  omega
theorem runs_start {l : List Int} {i : Nat} (hi : i < l.length) (hf : i = 0 ∨ ∃ r ps, runs (l.take i) = ps ++ [r] ∧ l.getD i 0 ≠ r.2 + 1) : runs (l.take (i + 1)) = runs (l.take i) ++ [(l.getD i 0, l.getD i 0)] := by
  rw [runs_take hi, show l[i] = l.getD i 0 by simp [hi]]
  rcases hf with rfl | ⟨r, ps, h1, h2⟩
  · simp [runs, addRun]
  · rw [h1]
    exact addRun_new ps r.1 r.2 _ h2
theorem runs_more {l : List Int} {i j : Nat} (hj : j + 1 < l.length) (h : runs (l.take (j + 1)) = runs (l.take i) ++ [(l.getD i 0, l.getD j 0)]) (he : l.getD (j + 1) 0 = l.getD j 0 + 1) : runs (l.take (j + 1 + 1)) = runs (l.take i) ++ [(l.getD i 0, l.getD (j + 1) 0)] := by
  rw [runs_take hj, h, show l[j + 1] = l.getD (j + 1) 0 by simp [hj], he]
  exact addRun_grow _ _ _
theorem runs_mem_b {l : List Int} (hb : ∀ x ∈ l, -1099511627776 ≤ x ∧ x ≤ 1099511627776) (i : Nat) : ∀ r ∈ runs (l.take i), (-1099511627776 ≤ r.1 ∧ r.1 ≤ 1099511627776) ∧ -1099511627776 ≤ r.2 ∧ r.2 ≤ 1099511627776 := fun r hr => by
  have := runs_mem _ r hr
  exact ⟨hb _ (List.mem_of_mem_take this.1), hb _ (List.mem_of_mem_take this.2)⟩
theorem cpuT_len {l : List Int} (hb : ∀ x ∈ l, -1099511627776 ≤ x ∧ x ≤ 1099511627776) (hn : l.length ≤ 1000) (i : Nat) : (cpuT (runs (l.take i))).length ≤ 30000 := by
  have h1 := flat_len _ (runs_mem_b hb i)
  have h2 := runs_length (l.take i)
  rw [List.length_take] at h2
  have h3 : (cpuT (runs (l.take i))).length ≤ (flat (runs (l.take i))).length := by unfold cpuT; rw [List.length_dropLast]; omega
  omega
theorem asc_getD {l : List Int} (h : Asc l) {i j : Nat} (hi : i < j) (hj : j < l.length) : l.getD i 0 < l.getD j 0 := by
  have := List.pairwise_iff_getElem.1 h i j (by omega) hj hi
  simpa [hj, show i < l.length by omega] using this
end Go.Proofs.YtfefnflcgkanpaaGreatDoor
