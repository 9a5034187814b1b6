/-
  The fragments of a response, as data (impl.Fragments).
-/
import Derived.Test.YtmimpfenlhfkiaaOut2
namespace Go.Proofs.Ytmimpfenlhfkiaa
open Go.RowKit
set_option linter.unusedSimpArgs false
set_option linter.unusedVariables false

theorem FragsOf.sub {x : RespD} {m : Nat} {rs : List RespD} (h : FragsOf x m rs) : ∀ r ∈ rs, (∀ y ∈ r.events, y ∈ x.events) ∧ r.events.length ≤ x.events.length := by
  rcases h with ⟨_, rfl⟩ | ⟨_, _, fs, l, hf, _, rfl⟩
  · intro r hr
    rw [List.mem_singleton] at hr
    subst hr
    exact ⟨fun _ h => h, Nat.le_refl _⟩
  · have key : ∀ f ∈ fs ++ [l], (∀ y ∈ f, y ∈ x.events) ∧ f.length ≤ x.events.length := by
      intro f hm
      have hsub : f.Sublist (fs ++ [l]).flatten := List.sublist_flatten_of_mem hm
      rw [List.flatten_append, List.flatten_singleton, hf] at hsub
      exact ⟨fun y hy => hsub.subset hy, hsub.length_le⟩
    intro r hr
    rcases List.mem_append.1 hr with hr | hr
    · obtain ⟨f, hm, rfl⟩ := List.mem_map.1 hr
      exact key f (by simp [hm])
    · rw [List.mem_singleton] at hr
      subst hr
      exact key l (by simp)
theorem FragsOf.len {x : RespD} {m : Nat} {rs : List RespD} (h : FragsOf x m rs) : rs.length ≤ x.events.length + 1 := by
  rcases h with ⟨_, rfl⟩ | ⟨_, _, fs, l, hf, hg, rfl⟩
  · simp
  · have := flat_len (fs := fs ++ [l]) hg
    rw [List.flatten_append, List.flatten_singleton, hf] at this
    simp at this ⊢
    omega

set_option maxHeartbeats 1000000 in
theorem zzFragments_any (b : Nat) (x : RespD) (m : Nat) (w : World) (hr : x.reason.size ≤ 1000000) (hn : x.events.length ≤ 1000) (ho : ∀ y : EvD, y ∈ x.events → y.ok) (hmm : m < 18446744073709551616)
    (h : RespAt w any x b) :
    Calls Try.prog 16 #[.pointer (some ⟨b, 0, none⟩), .int .u64 m] w fun e w' => ∃ v rs, e = .returned v ∧ FragsOf x m rs ∧ (Rp.slice Rp.respp).K w' any rs [v] ∧ Ext w w' := by
  have KW := Blk.new w 42 [.slice none 0 0]
  have T : SentTo (w.alloc (.cells #[.slice none 0 0] 42)) w.heap.size (w.alloc (.cells #[.slice none 0 0] 42)).heap.size (.slice none 0 0) [] :=
    ⟨KW, OwnP.nil _ _ _ _ _, Nat.le_refl _, by simp⟩
  have HR : RespAt (w.alloc (.cells #[.slice none 0 0] 42)) (fun k => k ≠ w.heap.size) x b := RespAt.mono (fun k hk => by have := hk.2; omega) (RespAt.ext h.lt ((Ext.refl w).alloc _))
  have HRR := Lib.hid HR
  have HT := Lib.hid T
  have HO := Lib.hid ho
  clear T HR ho KW
  go_enter Try.func16, Try.ntmps16
  go_wp2_with fail
  refine Calls.mono (show Calls _ _ _ _ (fun e w' => e = .returned .nilIface ∧ ∃ v' rs, FragsOf x m rs ∧ SentTo w' w.heap.size (w.alloc (.cells #[.slice none 0 0] 42)).heap.size v' rs ∧ ExtX (fun j => j = w.heap.size) (w.alloc (.cells #[.slice none 0 0] 42)) w') from ?_) ?_
  · by_cases hsm : x.size < m ∨ x.events.length < 2
    · exact frag_small w.heap.size _ b x m _ hr hn HO.out hsm hmm HRR.out HT.out
    · exact frag_big w.heap.size b x m _ hr hn HO.out (by omega) (by omega) HRR.out HT.out
  · rintro e w2 ⟨rfl, v, rs, hf, hs, hX⟩
    have c0 := hs.blk.cell (o := 0) rfl
    obtain ⟨A, n, c, rfl⟩ := hs.own.shape'
    have HF := Lib.hid hf
    have HS := Lib.hid hs
    clear hf hs
    go_wp2
    go_ret
    exact ⟨_, rs, rfl, HF.out, (Rp.slice Rp.respp).toAny HS.out.own.slice, ((((Ext.refl w).alloc _).toX _).trans hX).toExt (fun j hj => Nat.le_of_eq hj.symm)⟩

/-- a response as data, in cells -/
abbrev sentCells (x : RespD) (A : Option Addr) (cap : Nat) : List Value := [.int .i64 x.id, .int .i64 x.rev, .int .i64 x.compact, .bool x.created, .bool x.canceled, .bool x.fragment, .string x.reason, .slice A x.events.length cap]
def Rp.sent : Rp RespD where
  K w ok x cs := ∃ A cap, cs = sentCells x A cap ∧ (Rp.slice Rp.evx).K w ok x.events [.slice A x.events.length cap]
  sz := 8
  pos := by decide
  len := by rintro w ok x cs ⟨A, cap, rfl, _⟩; rfl
  ext := by rintro w w' ok x cs e ⟨A, cap, rfl, h⟩; exact ⟨A, cap, rfl, (Rp.slice Rp.evx).ext e h⟩
  mono := by rintro w ok ok' x cs e ⟨A, cap, rfl, h⟩; exact ⟨A, cap, rfl, (Rp.slice Rp.evx).mono e h⟩
  lt := by rintro w ok x cs ⟨A, cap, rfl, h⟩; exact ⟨A, cap, rfl, (Rp.slice Rp.evx).lt h⟩
  one := by rintro w ok x cs ⟨A, cap, rfl, h⟩ u hu; simp at hu; rcases hu with rfl | rfl | rfl | rfl | rfl | rfl | rfl | rfl <;> rfl
theorem infoSent : (Try.prog.info? 24).map (fun i => (i.zero.map (·.cells.size), i.size, i.bytes)) = some (some 8, 8, 72) := by kernel_rfl
theorem within_any (n : Int) (w : World) (h0 : 0 ≤ n) (h1 : n ≤ 4294967295) : Calls Try.prog 17 #[.int .i64 n, .int .i64 0, .int .i64 4294967295] w fun e w' => e = .returned (.int .i64 n) ∧ w = w' := by
  go_enter Try.func17, Try.ntmps17
  go_wp2
  · go_ret
    exact ⟨rfl, rfl⟩
  · go_ret
    have h2 : n = 0 := by omega
    exact ⟨by subst h2; rfl, rfl⟩

set_option maxHeartbeats 1000000 in
set_option maxRecDepth 20000 in
theorem fragments_any (x : RespD) (A : Option Addr) (cap : Nat) (m : Nat) (w : World) (hr : x.reason.size ≤ 1000000) (hn : x.events.length ≤ 900) (ho : ∀ y : EvD, y ∈ x.events → y.ok ∧ y.plain) (hm : m ≤ 4294967295)
    (h : (Rp.slice Rp.ev).K w any x.events [.slice A x.events.length cap]) :
    Calls Try.prog 9 #[sentV x A cap, .int .i64 m] w fun e w' => ∃ v rs, e = .returned v ∧ FragsOf x m rs ∧ (Rp.slice Rp.sent).K w' (fun j => w.heap.size ≤ j) rs [v] ∧ Ext w w' := by
  have HS := Lib.hid ((Rp.slice Rp.ev).ext' ((Ext.refl w).alloc (.cells (sentCells x A cap).toArray 24)) h)
  have HO := Lib.hid ho
  clear h ho
  go_enter Try.func9, Try.ntmps9
  go_wp2_with fail
  refine (sentIn_any x A cap _ (by unfold maxLen; omega) (by omega) HS.out).mono ?_
  rintro e w1 ⟨b, rfl, h1, E1⟩
  have H1 := Lib.hid h1
  clear h1
  go_wp2_with fail
  refine (within_any m w1 (by omega) (by omega)).mono ?_
  rintro e w2 ⟨rfl, rfl⟩
  go_wp2_with fail
  refine (zzFragments_any b x m w1 hr (by omega) (fun y hy => (HO.out y hy).1) (by omega) (RespAt.mono (fun _ _ => trivial) H1.out)).mono ?_
  rintro e w2 ⟨v, rs, rfl, hf, hv, E2⟩
  have hl := hf.len
  have HF := Lib.hid hf
  have hsub := Lib.hid hf.sub
  have HV := Lib.hid hv
  obtain ⟨Av, cv, hvv, p1, p2, p3, hrow⟩ := hv
  simp only [List.cons.injEq, and_true] at hvv
  subst hvv
  have HR := Lib.hid hrow
  clear hf hrow
  have E3 : Ext w w2 := (((Ext.refl w).alloc _).trans E1).trans E2
  clear E1 E2 HS
  go_wp2_with fail
  go_loopw [6, 7] (fun u i wr => ∃ k : Nat, i = .int .i64 k ∧ k ≤ rs.length ∧ Hid (OwnP Rp.sent wr (fun j => w.heap.size ≤ j) w2.heap.size 24 u (rs.take k)) ∧ Ext w2 wr) (fun _ i _ => rs.length - (intOf i).toNat)
  case atStart => exact ⟨0, rfl, Nat.zero_le _, Lib.hid (OwnP.nil _ _ _ _ _), Ext.refl _⟩
  case round =>
    obtain ⟨k, rfl, hk, hO, hE⟩ := hrel
    by_cases hlt : k < rs.length
    · obtain ⟨y, hy⟩ : ∃ y, rs[k]? = some y := ⟨_, List.getElem?_eq_getElem hlt⟩
      obtain ⟨ba, o, rfl, _⟩ := HR.out.addr (List.ne_nil_of_length_pos (by omega))
      obtain ⟨cs, _, ⟨be, rfl, hev⟩, hc⟩ := HR.out.at rfl hy
      have cE : wr.cell? ⟨ba, o + k, none⟩ = some (.pointer (some ⟨be, 0, none⟩)) := hE.cellS (by simpa [Rp.respp] using hc 0 (by decide))
      obtain ⟨hs1, hs2⟩ := hsub.out y (List.mem_of_getElem? hy)
      have HY := Lib.hid hy
      have HEV := Lib.hid (RespAt.ext hev hE)
      have hs1 := Lib.hid hs1
      have htl : (rs.take k).length ≤ 1000 := by rw [List.length_take]; omega
      have hsz := E3.size
      have hsz2 := hE.size
      clear hy hev hc
      go_wp2_with fail
      refine (sentOut_any be y wr (fun z hz => (HO.out z (hs1.out z hz)).2) (by omega) (RespAt.mono (fun _ _ => trivial) HEV.out)).mono ?_
      rintro e w3 ⟨A3, c3, rfl, h3, e3⟩
      have H3 := Lib.hid h3
      have s3 := e3.size
      obtain ⟨i0, z0, hi, hz0, hz1, hz2, hz3⟩ := info_parts2 infoSent
      clear h3
      go_wp2_with (at_builtin; refine wpList_app (d := Rp.sent) (base := w2.heap.size) rfl (.tmp 20) (.tmp 26) 29 rfl 24 i0 _ 72 Try.underlying29 hi hz0 hz1 hz2 hz3 (v := u6) rfl ((hO.out.ext e3).ext ((Ext.refl w3).alloc _)) (fun q hq => by simp at hq; omega) ⟨w3.heap.size, 0, none⟩ 1 (sentCells y A3 c3) [y] rfl rfl (lit_cells w3 _ _) (one_elem (p := fun i y' => Rp.sent.K (w3.alloc (.cells (sentCells y A3 c3).toArray 24)) (fun q => w.heap.size ≤ q ∧ some q ≠ Value.ownBlock u6) y' (((sentCells y A3 c3).drop (i * Rp.sent.sz)).take Rp.sent.sz)) ⟨A3, c3, rfl, (Rp.slice Rp.evx).mono (fun q hq => ⟨by have hq : wr.heap.size ≤ q := hq; omega, fun he => by have := (hO.out.own q he.symm).2; have hq : wr.heap.size ≤ q := hq; omega⟩) ((Rp.slice Rp.evx).ext' ((Ext.refl w3).alloc _) H3.out)⟩) (by simp [maxLen]; omega) (by simp; omega) (by simp; omega) ?_; intro v2 w4 own4 g4 f4; have O4 := Lib.hid own4; have E4 : Ext w2 w4 := ((hE.toX (fun q => some q = Value.ownBlock u6)).trans ((((e3.trans ((Ext.refl w3).alloc _)).toX (fun q => some q = Value.ownBlock u6)).grown g4 (fun q h => h.symm)))).toExt (fun q hq => (hO.out.own q hq.symm).1); clear own4 g4 f4)
      go_roundw
      case rel => exact ⟨k + 1, by go_num, by omega, Lib.hid (by rw [take_snoc HY.out]; exact O4.out), E4⟩
      case measure => simp [intOf]; omega
    · have hkn : Hid (k = rs.length) := Lib.hid (by omega)
      go_wp2
      go_ret
      have own := hO.out
      rw [hkn.out, List.take_length] at own
      exact ⟨_, rs, rfl, HF.out, own.slice, E3.trans hE⟩
end Go.Proofs.Ytmimpfenlhfkiaa
