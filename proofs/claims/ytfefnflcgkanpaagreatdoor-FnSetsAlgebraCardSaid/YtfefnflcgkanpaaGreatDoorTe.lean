/-
  set.Set[int]: SortedList (sort.Sort by the shelf).
-/
import Derived.Test.YtfefnflcgkanpaaGreatDoorTd
import Derived.Shelf.GgSortMore.SortSort
import Derived.Deep.QuietTactic
import Derived.RegionTactic
namespace Go.Proofs.YtfefnflcgkanpaaGreatDoor
open Go.RowKit Go.Sort Go.Shelf
set_option linter.unusedSimpArgs false
set_option linter.unusedVariables false

theorem perm_srt {xs : List Int} {d : Array Int} (hp : PermIn 0 xs.toArray.size xs.toArray d) (hs : SortedIn ltInt 0 xs.toArray.size d) (hn : xs.Nodup) : d = (srt xs).toArray := by
  obtain ⟨h1, _, h3⟩ := hp
  have hsz : d.size = xs.length := by simpa using h1
  have hperm : d.toList.Perm xs := by
    have e1 : d.extract 0 xs.toArray.size = d := by rw [show xs.toArray.size = d.size by simp [hsz]]; simp
    have e2 : xs.toArray.extract 0 xs.toArray.size = xs.toArray := by simp
    rw [e1, e2] at h3
    exact h3
  have hasc : Asc d.toList := by
    have hnd : d.toList.Nodup := hperm.nodup_iff.2 hn
    refine List.pairwise_iff_getElem.2 fun i j hi hj hij => ?_
    have hi' : i < d.size := by simpa using hi
    have hj' : j < d.size := by simpa using hj
    have := hs i j (Nat.zero_le _) hij (by simp; omega)
    unfold ltInt at this
    have h4 : ¬ d[j]! < d[i]! := by simpa using this
    rw [getElem!_pos d j hj', getElem!_pos d i hi'] at h4
    have hne : d.toList[i] ≠ d.toList[j] := fun e => by
      have := (List.getElem_inj (h₀ := hi) (h₁ := hj) hnd).1 e
      omega
    simp only [Array.getElem_toList] at hne ⊢
    omega
  have : d.toList = srt xs := asc_ext hasc (srt_asc hn) fun x => by rw [hperm.mem_iff, mem_srt]
  rw [← this]
theorem lenS_reached (p : Option Addr) (n c : Nat) : Reaches Tryz.prog 48 (.slice p n c) "Len" 126 := ⟨fun _ => by kernel_rfl, enters_of Tryz.func126 (by kernel_rfl) rfl⟩
theorem lessS_reached (p : Option Addr) (n c : Nat) : Reaches Tryz.prog 48 (.slice p n c) "Less" 127 := ⟨fun _ => by kernel_rfl, enters_of Tryz.func127 (by kernel_rfl) rfl⟩
theorem swapS_reached (p : Option Addr) (n c : Nat) : Reaches Tryz.prog 48 (.slice p n c) "Swap" 128 := ⟨fun _ => by kernel_rfl, enters_of Tryz.func128 (by kernel_rfl) rfl⟩
theorem lenS_M (p : Option Addr) (n c : Nat) (W : World) : LenM Tryz.prog 126 (.slice p n c) n W := by
  unfold LenM
  go_enter Tryz.func126, Tryz.ntmps126
  go_wp2
  go_ret
  exact ⟨rfl, 0, rfl⟩
set_option maxRecDepth 20000 in
set_option maxHeartbeats 2000000 in
theorem lessS_any (blk off c size : Nat) (W : World) (G : Nat → Int) (hc : ∀ t, t < size → W.cell? ⟨blk, off + t, none⟩ = some (.int .i64 (G t))) (i j : Nat) (hi : i < size) (hj : j < size) (_hsz : size < 4611686018427387904) :
    Calls Tryz.prog 127 #[.slice (some ⟨blk, off, none⟩) size c, .int .i64 i, .int .i64 j] W fun e w' => e = .returned (.bool (decide (G i < G j))) ∧ ∃ q, w' = W.drewN q := by
  have ci := hc i hi
  have cj := hc j hj
  go_enter Tryz.func127, Tryz.ntmps127
  go_wp2
  go_quiet (fail)
  go_wp2
  go_ret
  exact ⟨rfl, nq, rfl⟩
set_option maxRecDepth 20000 in
set_option maxHeartbeats 2000000 in
theorem swapS_any (blk off c size : Nat) (W : World) (x y : Int) (i j : Nat) (hi : i < size) (hj : j < size) (_hsz : size < 4611686018427387904)
    (ci : W.cell? ⟨blk, off + i, none⟩ = some (.int .i64 x)) (cj : W.cell? ⟨blk, off + j, none⟩ = some (.int .i64 y)) (fi : W.frozen? ⟨blk, off + i, none⟩ = false) (fj : W.frozen? ⟨blk, off + j, none⟩ = false) :
    Calls Tryz.prog 128 #[.slice (some ⟨blk, off, none⟩) size c, .int .i64 i, .int .i64 j] W fun e w' => e = .returned (.tuple #[]) ∧ ∃ q, w' = ((W.setCell ⟨blk, off + i, none⟩ (.int .i64 y)).setCell ⟨blk, off + j, none⟩ (.int .i64 x)).drewN q := by
  obtain ⟨v', hy'⟩ := cell?_setCell_some (w := W) (p := ⟨blk, off + i, none⟩) (x := .int .i64 y) (q := ⟨blk, off + j, none⟩) cj
  go_enter Tryz.func128, Tryz.ntmps128
  go_wp2
  go_region
  all_goals (try go_wp2)
  all_goals go_end0
  all_goals exact ⟨rfl, 1, rfl⟩
theorem lessS_M (blk off c : Nat) (d : Array Int) (w : World) (hH : Holds (Value.int .i64) w blk off d) (hblk : blk < w.heap.size) (hsz : d.size < 4611686018427387904) :
    LessM Tryz.prog 127 (.slice (some ⟨blk, off, none⟩) d.size c) (Value.int .i64) ltInt blk off d.size w := fun m os dk hs i j hi hj =>
  lessS_any blk off c d.size _ (fun t => dk[t]!) (fun t ht => ((holds_sortWorld (Value.int .i64) w blk off m d dk os hblk hH hs) t (by omega)).1) i j hi hj hsz
theorem swapS_M (blk off c size : Nat) (hsz : size < 4611686018427387904) : SwapM Tryz.prog 128 (.slice (some ⟨blk, off, none⟩) size c) (Value.int .i64) blk off size := fun W dk hH hs i j hi hj =>
  swapS_any blk off c size W dk[i]! dk[j]! i j hi hj hsz (hH i (by omega)).1 (hH j (by omega)).1 (hH i (by omega)).2 (hH j (by omega)).2
end Go.Proofs.YtfefnflcgkanpaaGreatDoor
