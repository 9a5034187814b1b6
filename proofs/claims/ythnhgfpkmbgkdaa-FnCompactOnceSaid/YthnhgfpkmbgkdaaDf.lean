/-
  A round of a checker (ZzChecker.Round).
-/
import Derived.Test.YthnhgfpkmbgkdaaDe
import Derived.Handy
import Derived.Deep.Cut
import Derived.Laws.EntriesVeiled
namespace Go.Proofs.Ythnhgfpkmbgkdaa
open Go.RowKit
set_option linter.unusedSimpArgs false
set_option linter.unusedVariables false

def RndAns (c b : Nat) (own : Int) (latest : Int) (stp rt : HsD → Bool) (als : HsD → List Int) (L : List HsD) (w : World) (e : Ending) (w' : World) : Prop :=
  ∃ v1 v2 x', e = .returned (.tuple #[v1, v2]) ∧ CkAt w' c b (latestG stp rt latest L) ∧ Blk w' b 73 (hstCells x') ∧ x'.own = own ∧
    (Rp.slice Rp.u64).K w' (fun k => w.heap.size ≤ k) (alarmG stp als L) [v1] ∧ (Rp.slice Rp.i64).K w' (fun k => w.heap.size ≤ k) (askedG stp L) [v2] ∧ ExtX (fun k => k = c ∨ k = b) w w'
set_option maxRecDepth 20000 in
set_option maxHeartbeats 4000000 in
theorem round_any (z c b k0 : Nat) (latest own : Int) (x : HSt) (l : List HsD) (vhs vh vr0 vp : Value) (revs : List Int) (pss : List (List CkD)) (stp rt : HsD → Bool) (als : HsD → List Int) (w : World) (hZ : Blk w z 83 [.pointer (some ⟨c, 0, none⟩), .pointer (some ⟨b, 0, none⟩)]) (hK : CkAt w c b latest) (hH : Blk w b 73 (hstCells x)) (hown : x.own = own)
    (hl : (Rp.slice Rp.hs).K w (fun j => j ≠ c ∧ j ≠ b) l [vhs]) (hn : l.length ≤ 12)
    (hchk : Hid (∀ x, x.own = own → ChkOk c b b x [] latest (peersD revs pss) stp rt als (unchk latest l))) (hst0 : Hid (∀ h ∈ unchk latest l, peersD revs pss h.rev = [] → stp h = false)) (hst1 : Hid (∀ h ∈ unchk latest l, stp h = false → rt h = false ∧ als h = [])) (hpl : Hid (∀ r, (peersD revs pss r).length ≤ 12)) (hps2 : Hid (∀ ps ∈ pss, ps.length ≤ 1000))
    (hk0 : Hid (Blk w k0 34 [vh, vr0, vp])) (hrv : Hid ((Rp.slice Rp.i64).K w (fun j => j ≠ c ∧ j ≠ b) revs [vr0])) (hpv : Hid ((Rp.slice (Rp.slice Rp.ck)).K w (fun j => j ≠ c ∧ j ≠ b) pss [vp])) (hout : k0 ≠ c ∧ k0 ≠ b) (hcb : c ≠ b) (hzb : z ≠ b) (hzc : z ≠ c) :
    Calls Try.prog 21 #[.pointer (some ⟨z, 0, none⟩), vhs, .func (.func 22) #[] #[.pointer (some ⟨k0, 0, none⟩)]] w (RndAns c b own latest stp rt als (unchk latest l) w) := by
  have HK := Lib.hid hK
  have HH := Lib.hid hH
  have HZ := Lib.hid hZ
  have HO := Lib.hid hown
  have HL := Lib.hid ((Rp.slice Rp.hs).lt hl)
  obtain ⟨Ah, caph, hvh, _⟩ := id hl
  simp only [List.cons.injEq, and_true] at hvh
  subst hvh
  have z0 := hZ.cell (o := 0) rfl
  have z1 := hZ.cell (o := 1) rfl
  have f9 := hH.frozen 9
  have f10 := hH.frozen 10
  have f11 := hH.frozen 11
  have f12 := hH.frozen 12
  have y9 := hH.cell (o := 9) rfl
  have y10 := hH.cell (o := 10) rfl
  have y11 := hH.cell (o := 11) rfl
  have y12 := hH.cell (o := 12) rfl
  have hbw := hH.lt
  have hcw : c < w.heap.size := Blk.lt hK
  have hzw := hZ.lt
  clear hK hH hZ hl hown
  go_enter Try.func21, Try.ntmps21
  go_wp2_with fail
  obtain ⟨W, hW⟩ : ∃ W, W = ((((w.setCell ⟨b, 10, none⟩ (.slice Ah l.length caph)).setCell ⟨b, 11, none⟩ (.slice none 0 0)).setCell ⟨b, 12, none⟩ (.slice none 0 0)).setCell ⟨b, 9, none⟩ (.func (.func 29) #[] #[.pointer (some ⟨w.heap.size, 0, none⟩)])).alloc (.cells #[.func (.func 22) #[] #[.pointer (some ⟨k0, 0, none⟩)]] 62) := ⟨_, rfl⟩
  obtain ⟨x2, hx2⟩ : ∃ x2 : HSt, x2 = { x with hashes := .slice Ah l.length caph, alarms := .slice none 0 0, revs := .slice none 0 0, fn := .func (.func 29) #[] #[.pointer (some ⟨w.heap.size, 0, none⟩)] } := ⟨_, rfl⟩
  have hx2o : x2.own = own := by rw [hx2]; exact HO.out
  have hx2h : x2.hashes = .slice Ah l.length caph := by rw [hx2]
  have hx2f : x2.fn = .func (.func 29) #[] #[.pointer (some ⟨w.heap.size, 0, none⟩)] := by rw [hx2]
  have hpr : ∀ k, HPriv b x2 k → k = b := fun k hk => by rw [hx2] at hk; rcases hk with h | h | h <;> first | exact h | simp [Value.ownBlock] at h
  have KW : Blk W b 73 (hstCells x2) := by
    rw [hW, hx2]
    exact ((((HH.out.setCell 10 _).setCell 11 _).setCell 12 _).setCell 9 _).ext ((Ext.refl _).alloc _)
  have XS : ExtX (fun j => j = b) w W := by
    rw [hW]
    exact ExtX.alloc (ExtX.setCell (M := fun j => j = b) (ExtX.setCell (M := fun j => j = b) (ExtX.setCell (M := fun j => j = b) (ExtX.setCell (M := fun j => j = b) (ExtX.refl _ w) (p := ⟨b, 10, none⟩) rfl _) (p := ⟨b, 11, none⟩) rfl _) (p := ⟨b, 12, none⟩) rfl _) (p := ⟨b, 9, none⟩) rfl _) _
  have KC : Blk W w.heap.size 62 [.func (.func 22) #[] #[.pointer (some ⟨k0, 0, none⟩)]] := by
    rw [hW]
    exact blk_at _ _ _ _ (by simp [World.setCell])
  have HW2 : HAt W b b x2 [] [] := ⟨KW, by rw [hx2]; exact OwnP.nil _ _ _ _ _, by rw [hx2]; exact OwnP.nil _ _ _ _ _, Nat.le_refl _⟩
  change Calls _ _ _ (((((w.setCell ⟨b, 10, none⟩ (.slice Ah l.length caph)).setCell ⟨b, 11, none⟩ (.slice none 0 0)).setCell ⟨b, 12, none⟩ (.slice none 0 0)).setCell ⟨b, 9, none⟩ (.func (.func 29) #[] #[.pointer (some ⟨w.heap.size, 0, none⟩)])).alloc (.cells #[.func (.func 22) #[] #[.pointer (some ⟨k0, 0, none⟩)]] 62)) _
  rw [← hW]
  clear hW hx2
  refine (compactHash_any c b b w.heap.size k0 latest x2 [] [] l vh vr0 vp revs pss stp rt als W (HK.out.extX XS hcb) HW2 (by rw [hx2h]; exact (Rp.slice Rp.hs).toAny ((Rp.slice Rp.hs).extX XS HL.out (fun j hj => hj.1.2))) hn (by simp) (Lib.hid (hchk.out x2 hx2o)) hst0 hst1 hpl hps2 (Lib.hid (KC.cell rfl)) (Lib.hid (hk0.out.extX XS hout.2))
    (Lib.hid ((Rp.slice Rp.i64).mono (fun j hj => ⟨hj.1, fun h => hj.2 (hpr j h)⟩) ((Rp.slice Rp.i64).extX XS hrv.out (fun j hj => hj.2)))) (Lib.hid ((Rp.slice (Rp.slice Rp.ck)).mono (fun j hj => ⟨hj.1, fun h => hj.2 (hpr j h)⟩) ((Rp.slice (Rp.slice Rp.ck)).extX XS hpv.out (fun j hj => hj.2))))
    (Lib.hid ⟨⟨by omega, fun h => by have := hpr _ h; omega⟩, hout.1, fun h => hout.2 (hpr _ h)⟩) ⟨hcb, fun h => hcb (hpr _ h)⟩ hx2f).mono ?_
  rintro e w2 ⟨rfl, hK2, ⟨vr2, va2, hH2, hP2⟩, X2⟩
  have HK2 := Lib.hid hK2
  have HH2 := Lib.hid hH2
  have X02 : ExtX (fun k => k = c ∨ k = b) w w2 := (XS.mono fun _ _ h => .inr h).trans (X2.mono fun k _ h => h.imp (fun h => h) (fun h => hpr _ h))
  have KZ := HZ.out.extX X02 (fun h => h.elim hzc hzb)
  have z0 := KZ.cell (o := 0) rfl
  have z1 := KZ.cell (o := 1) rfl
  have d11 := hH2.blk.cell (o := 11) rfl
  have d12 := hH2.blk.cell (o := 12) rfl
  have hown2 : Hid (∀ k, HPriv b { x2 with revs := vr2, alarms := va2 } k → k ≠ b → w.heap.size ≤ k) := Lib.hid (fun k hk hkb => by
    rcases hP2 k hk with h1 | h1
    · exact absurd (hpr _ h1) hkb
    · have := XS.size; omega)
  have HX2O := Lib.hid hx2o
  clear hK2 hH2 hP2 X2 KZ hx2h hx2f hx2o KW KC HW2
  obtain ⟨Aa, na, ca, rfl⟩ := own_shape HH2.out.al
  obtain ⟨Ar, nr, cr, rfl⟩ := own_shape HH2.out.rl
  have d11 : w2.cell? ⟨b, 11, none⟩ = some (.slice Aa na ca) := d11
  have d12 : w2.cell? ⟨b, 12, none⟩ = some (.slice Ar nr cr) := d12
  go_wp2_with fail
  go_quiet (fail)
  go_wp2_with fail
  go_ret2
  have hx2o : x2.own = own := HX2O.out
  refine ⟨_, _, { x2 with revs := .slice Ar nr cr, alarms := .slice Aa na ca }, rfl, Blk.drewN HK2.out _, Blk.drewN HH2.out.blk _, hx2o, ?_, ?_, X02.drewN _⟩
  · exact (Rp.slice Rp.u64).ext (w := w2) (fun _ _ => rfl) ((HH2.out.al.flat' (ok' := fun k => w.heap.size ≤ k) (ExtX.refl (fun _ => False) w2) (fun _ _ h => h) (fun k hk => hown2.out k (.inr (.inl hk.symm)) (HH2.out.al.1 k hk).1)).slice)
  · exact (Rp.slice Rp.i64).ext (w := w2) (fun _ _ => rfl) ((HH2.out.rl.flat' (ok' := fun k => w.heap.size ≤ k) (ExtX.refl (fun _ => False) w2) (fun _ _ h => h) (fun k hk => hown2.out k (.inr (.inr hk.symm)) (HH2.out.rl.1 k hk).1)).slice)
end Go.Proofs.Ythnhgfpkmbgkdaa
