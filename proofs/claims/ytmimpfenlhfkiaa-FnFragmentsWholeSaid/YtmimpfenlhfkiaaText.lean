/-
  Texts as bytes, and back.
-/
import Derived.Test.YtmimpfenlhfkiaaWire
import Derived.Laws.IdiomStrings
import Derived.Laws.BytesArg
import Derived.Laws.AppendOwn
import Derived.Lib.ConvBytes
namespace Go.Proofs.Ytmimpfenlhfkiaa
open Go.RowKit
set_option linter.unusedSimpArgs false
set_option linter.unusedVariables false

/-- a byte -/
def Rp.u8 : Rp UInt8 := ⟨fun _ _ b cs => cs = [.int .u8 b.toNat], 1, by decide, fun h => by rw [h]; rfl, fun _ h => h, fun _ h => h, fun h => h, fun h u hu => by rw [h] at hu; rw [List.mem_singleton.1 hu]; rfl⟩
/-- how many there are -/
theorem slice_count {w : World} {ok : Nat → Prop} {l : List UInt8} {cs : List Value} (h : (Rp.slice Rp.u8).K w ok l cs) : (Rp.slice Rp.byte).K w ok (List.replicate l.length ()) cs := by
  obtain ⟨A, cap, rfl, h2, h3, h4, h5⟩ := h
  refine ⟨A, cap, by simp, by simpa using h2, h3, h4, fun i x hx => ?_⟩
  have hi : i < l.length := by have := (List.getElem?_eq_some_iff.1 hx).1; simpa using this
  obtain ⟨b, o, c, k1, k2, k3, k4⟩ := h5 i _ (List.getElem?_eq_getElem hi)
  exact ⟨b, o, c, k1, k2, k3, _, k4⟩
theorem text_bytes {P : Program} (w : World) (src dst e : TypeId) (s : ByteArray) (hsz : s.size ≤ maxLen) (hs : P.underlying src = some .string) (hd : P.underlying dst = some (.slice e)) (he : P.underlying e = some (.int .u8)) :
    ∃ c w', (convert src dst (.string s)).run P w = .ok (.slice (some ⟨w.heap.size, 0, none⟩) s.size c) w' ∧ Ext w w' ∧ w'.heap.size = w.heap.size + 1 ∧
      (Rp.slice Rp.u8).K w' (fun j => w.heap.size ≤ j) s.data.toList [.slice (some ⟨w.heap.size, 0, none⟩) s.size c] := by
  refine ⟨_, _, Lib.run_convert_string_bytes w src dst e s hs hd he, ⟨rfl, rfl, rfl, ?_, fun k hk => Lib.bytesWorld_at_old w e s k hk⟩, Lib.bytesWorld_size w e s, ?_⟩
  · rw [Lib.bytesWorld_size]; omega
  · have hl : s.data.toList.length = s.size := by rw [Array.length_toList]; rfl
    refine ⟨_, _, by rw [hl], by rw [hl]; exact grownCap_ge _ _ _ _, grownCap_le_maxLen _ _ _ _ hsz, (fun h => by cases h), fun i x hx => ?_⟩
    have hi : i < s.size := by have := (List.getElem?_eq_some_iff.1 hx).1; omega
    refine ⟨w.heap.size, 0, [.int .u8 x.toNat], rfl, Nat.le_refl _, fun j hj => ?_, rfl⟩
    have : j = 0 := by have : j < 1 := hj; omega
    subst this
    have hc := Lib.bytesWorld_cell w e s i hi
    rw [List.getD_eq_getElem?_getD, hx] at hc
    simpa [Rp.u8] using hc
theorem text_back {P : Program} (w : World) (src dst e : TypeId) (s : ByteArray) {ok : Nat → Prop} {A : Option Addr} {n c : Nat} (hs : P.underlying src = some (.slice e)) (he : P.underlying e = some (.int .u8)) (hd : P.underlying dst = some .string)
    (h : (Rp.slice Rp.u8).K w ok s.data.toList [.slice A n c]) : (convert src dst (.slice A n c)).run P w = .ok (.string s) w := by
  obtain ⟨A', cap, hv, h2, h3, h4, h5⟩ := h
  simp only [List.cons.injEq, Value.slice.injEq, and_true] at hv
  obtain ⟨rfl, rfl, rfl⟩ := hv
  by_cases h0 : s.data.toList = []
  · have hs0 : s = ⟨s.data.toList.toArray⟩ := by simp
    cases A with
    | none =>
      rw [hs0, h0]
      exact run_convert_bytes_nil (P := P) w src e hs he _ c dst hd
    | some ad =>
      have := run_convert_bytes_back (P := P) w src dst e ad c s.data.toList hs he hd (fun j hj => by simp [h0] at hj)
      simpa using this
  · obtain ⟨b, o, rfl, _⟩ := h5.addr h0
    have := run_convert_bytes_back (P := P) w src dst e ⟨b, o, none⟩ c s.data.toList hs he hd (fun j hj => by
      obtain ⟨cs, hl, hK, hc⟩ := h5.at rfl (List.getElem?_eq_getElem hj)
      have hcs : cs = [.int .u8 (s.data.toList[j].toNat : Int)] := hK
      subst hcs
      rw [addr_add]
      have := hc 0 (by decide)
      simpa [Rp.u8] using this)
    simpa using this
end Go.Proofs.Ytmimpfenlhfkiaa
