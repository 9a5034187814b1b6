/-
  The members' versions as a map (impl.guard.GetMembersVersions).
-/
import Derived.Test.YtdokcengcekfgaaGreatDoorGuard
import Derived.Maps.RangeWalk
import Derived.Maps.OwnOps
import Derived.Maps.Views
import Derived.StringKeys
namespace Go.Proofs.YtdokcengcekfgaaGreatDoor
open Go.RowKit Go.Maps Go.WideMaps
set_option linter.unusedSimpArgs false
set_option linter.unusedVariables false

/-- how a pointer reads: by its block -/
def ptrElem (v : Value) : Option (DataW Nat × List MemPlace) := match v with
  | .pointer none => some (.nil, [])
  | .pointer (some ⟨b, 0, none⟩) => some (.held b, [])
  | _ => none
theorem strKeyed : Keyed Tryz.prog 9 := string_keyed Tryz.underlying9
def keyL (i : Nat) : List UInt8 := List.replicate i 109
def keyB (i : Nat) : ByteArray := strS (keyL i)
def kl (i : Nat) : Lit := .string (keyL (i + 1))
theorem kl_inj {i j : Nat} (h : kl i = kl j) : i = j := by
  unfold kl keyL at h
  have := congrArg (fun l => match l with | Lit.string b => b.length | _ => 0) h
  simpa using this
theorem keyB_step (i : Nat) : keyB i ++ ⟨#[109]⟩ = keyB (i + 1) := by
  rw [show (⟨#[109]⟩ : ByteArray) = strS [109] from rfl]
  unfold keyB
  rw [strS_add]
  unfold keyL
  rw [List.replicate_succ']
theorem keyB_key {i : Nat} (hi : i ≤ 20) : keyOf Tryz.prog 9 (.string (keyB (i + 1))) = some (kl i) := by
  rw [keyOf_string_mk Tryz.underlying9 (by show (keyL (i + 1)).length ≤ _; unfold keyL; simp [maxLen]; omega)]
  rfl
theorem kl_key (i : Nat) : WideAt.IsKeyLit (kl i) := trivial
/-- an element of the map, for a member -/
def ElOf (w : World) (d : DataW Nat) (m : ByteArray) : Prop := (m.size = 0 ∧ d = .nil) ∨ (m.size ≠ 0 ∧ ∃ c, d = .held c ∧ Blk w c 105 [.string m, .string ⟨#[]⟩])
/-- the map has the first k members -/
def MapHas (w : World) (D : DataW Nat) (ms : List ByteArray) (k : Nat) : Prop :=
  (∀ j m, j < k → ms[j]? = some m → has D (kl j) = true ∧ ∃ d, (∀ z, D.atKey (kl j) z = d) ∧ ElOf w d m) ∧ (∀ z, has D z = true → ∃ j, j < k ∧ z = kl j)
theorem ElOf.ext {w w' : World} {d : DataW Nat} {m : ByteArray} (h : ElOf w d m) (e : ∀ c T cs, Blk w c T cs → Blk w' c T cs) : ElOf w' d m := by
  rcases h with h | ⟨h1, c, h2, h3⟩
  · exact .inl h
  · exact .inr ⟨h1, c, h2, e _ _ _ h3⟩
theorem MapHas.ext {w w' : World} {D : DataW Nat} {ms : List ByteArray} {k : Nat} (h : MapHas w D ms k) (e : ∀ c T cs, Blk w c T cs → Blk w' c T cs) : MapHas w' D ms k :=
  ⟨fun j m hj hm => by obtain ⟨h1, d, h2, h3⟩ := h.1 j m hj hm; exact ⟨h1, d, h2, h3.ext e⟩, h.2⟩
theorem blk_grown {w w' : World} {b : Nat} (hg : w.grownBy w' (some b)) (hb : ∀ cs T f, w.heap[b]? ≠ some (.cells cs T f)) : ∀ c T cs, Blk w c T cs → Blk w' c T cs := by
  intro c T cs K
  have hc : c ≠ b := by
    intro e
    subst e
    exact hb _ _ _ K
  exact (hg.block c K.lt (by simp [hc])).trans K
theorem owns_notCells {w : World} {P : Program} {k : TypeId} {R : Value → Option (DataW Nat × List MemPlace)} {b n : Nat} {D : DataW Nat} (h : w.ownsMap P k R b n D) : ∀ cs T f, w.heap[b]? ≠ some (.cells cs T f) := by
  obtain ⟨es, cl, hb, _⟩ := h
  intro cs T f he
  rw [hb] at he
  cases he
theorem MapHas.put {w w' : World} {D : DataW Nat} {ms : List ByteArray} {k : Nat} {d : DataW Nat} {m : ByteArray} (h : MapHas w D ms k) (e : ∀ c T cs, Blk w c T cs → Blk w' c T cs) (hD : IsMap D) (hm : ms[k]? = some m) (hd : ElOf w' d m) :
    MapHas w' (D.put (kl k) d) ms (k + 1) := by
  refine ⟨fun j m' hj hm' => ?_, fun z hz => ?_⟩
  · by_cases hjk : j = k
    · subst hjk
      obtain rfl := Option.some.inj (hm.symm.trans hm')
      exact ⟨has_put_same hD (kl_key j) d, d, fun z => atKey_put_same hD (kl_key j) d z, hd⟩
    · have hne : kl j ≠ kl k := fun h => hjk (kl_inj h)
      obtain ⟨h1, d', h2, h3⟩ := h.1 j m' (by omega) hm'
      exact ⟨by rw [has_put_other hne]; exact h1, d', fun z => by rw [atKey_put_other hne]; exact h2 z, h3.ext e⟩
  · by_cases hzk : z = kl k
    · exact ⟨k, by omega, hzk⟩
    · rw [has_put_other hzk] at hz
      obtain ⟨j, hj, rfl⟩ := h.2 z hz
      exact ⟨j, by omega, rfl⟩
theorem MapHas.nil (w : World) (ms : List ByteArray) : MapHas w (.map []) ms 0 := ⟨fun j m hj => by omega, fun z hz => by simp [has] at hz⟩
theorem owns_isMap {w : World} {P : Program} {k : TypeId} {R : Value → Option (DataW Nat × List MemPlace)} {b n : Nat} {D : DataW Nat} (h : w.ownsMap P k R b n D) : IsMap D := by
  obtain ⟨es, cl, _, _, _, rfl⟩ := h
  exact ⟨_, rfl⟩
/-- the map that is handed out -/
def MapAns (ms : List ByteArray) (w : World) (e : Ending) (w' : World) : Prop :=
  ∃ b D, e = .returned (.map (some b)) ∧ w.heap.size ≤ b ∧ w'.ownsMap Tryz.prog 9 ptrElem b ms.length D ∧ MapHas w' D ms ms.length ∧ Ext w w'

theorem str_at {w wr : World} {ok : Nat → Prop} {A : Option Addr} {ms : List ByteArray} (h : Rp.str.row w ok A ms) {b o : Nat} (hA : A = some ⟨b, o, none⟩) {k : Nat} {m : ByteArray} (hm : ms[k]? = some m) (he : Ext w wr) : wr.cell? ⟨b, o + k, none⟩ = some (.string m) := by
  obtain ⟨cs, hl, hK, hc⟩ := h.at hA hm
  obtain ⟨rfl, _⟩ : cs = [.string m] ∧ _ := hK
  exact he.cellS (by have := hc 0 (by decide); simpa [Rp.str] using this)
theorem bytes_empty {s : ByteArray} (h : s.size = 0) : s.toList = [] := by
  rw [ByteArray.toList_eq]
  apply List.eq_nil_of_length_eq_zero
  rw [Array.length_toList]; exact h
theorem bytes_full {s : ByteArray} (h : s.size ≠ 0) : s.toList.isEmpty = false := by
  rw [ByteArray.toList_eq]
  cases hq : s.data.toList with
  | nil => exact absurd (by have := congrArg List.length hq; rwa [Array.length_toList] at this) h
  | cons => rfl
set_option maxRecDepth 20000 in
set_option maxHeartbeats 2000000 in
theorem getMembers_any (b : Nat) (g : GD) (A : Option Addr) (n cap : Nat) (x : VoteD) (w : World) (h : Grd w b g A n cap x) (hn : n = g.members.length) (hle : n ≤ 12) (hm : (Rp.slice Rp.str).K w any g.members [.slice A n cap]) :
    Calls Tryz.prog 106 #[.pointer (some ⟨b, 0, none⟩)] w (MapAns g.members w) := by
  obtain ⟨A', cap', hv, p1, p2, p3, hrow⟩ := hm
  simp only [List.cons.injEq, Value.slice.injEq, and_true] at hv
  obtain ⟨rfl, _, rfl⟩ := hv
  have HR := Lib.hid hrow
  have HN := Lib.hid hn
  have HG := Lib.hid h
  clear hrow hn h
  have hmm := @run_makeMap Tryz.prog
  go_enter Tryz.func106, Tryz.ntmps106
  go_wp2_with fail
  go_loopw [4, 5] (fun u4 u5 wr => ∃ (i : Nat) (D : DataW Nat), u4 = .string (keyB i) ∧ u5 = .int .i64 i ∧ i ≤ n ∧ Hid (wr.ownsMap Tryz.prog 9 ptrElem w.heap.size i D) ∧ Hid (MapHas wr D g.members i) ∧ Ext w wr) (fun _ u5 _ => n - (intOf u5).toNat)
  case atStart => exact ⟨0, .map [], rfl, rfl, Nat.zero_le _, Lib.hid (World.ownsMap_made _ _ _ _), Lib.hid (MapHas.nil _ _), (Ext.refl w).alloc _⟩
  case round =>
    obtain ⟨i, D, rfl, rfl, hi, hown, hD, hE⟩ := hrel
    have g5 := (HG.out.ext hE).cell (o := 5) rfl
    by_cases hlt : i < n
    · obtain ⟨m, hm⟩ : ∃ m, g.members[i]? = some m := ⟨_, List.getElem?_eq_getElem (by have := HN.out; omega)⟩
      obtain ⟨ba, o, rfl, _⟩ := HR.out.addr (List.ne_nil_of_length_pos (by have := HN.out; omega))
      have c1 := str_at HR.out rfl hm hE
      have HM := Lib.hid hm
      have hkey := keyB_key (i := i) (by omega)
      have hst := keyB_step i
      clear hm
      have z1 : (keyB i).size ≤ 12 := by show (keyL i).length ≤ 12; unfold keyL; simp; omega
      by_cases hz : m.size = 0
      · have hz1 := bytes_empty hz
        replace hz := Lib.hid hz
        go_wp2_with (at_mapUpdate; refine wpList_mapUpdate_own _ rfl (.tmp 28) (.tmp 29) (.const (.pointer none)) 101 rfl 9 103 strKeyed Tryz.underlying101 ptrElem w.heap.size i _ rfl hown.out (by unfold maxLen; omega) _ _ (kl i) rfl rfl hkey .nil [] rfl ?_; intro w1 hown1 hgrow1; have O1 := Lib.hid hown1; have G1 := Lib.hid hgrow1; clear hown1 hgrow1)
        go_roundw
        case rel =>
          refine ⟨i + 1, _, rfl, by go_num, by omega, O1, Lib.hid (hD.out.put (blk_grown G1.out (owns_notCells hown.out)) (owns_isMap hown.out) HM.out (.inl ⟨hz.out, rfl⟩)), ?_⟩
          exact ((hE.toX (fun k => k = w.heap.size)).grown G1.out (fun k hk => (Option.some.inj hk).symm)).toExt (fun k hk => by have hk : k = w.heap.size := hk; omega)
        case measure => simp [intOf]; omega
      · have hz1 := bytes_full hz
        replace hz := Lib.hid hz
        have hown2 : Hid ((wr.alloc (.cells #[.string m, .string ⟨#[]⟩] 105)).ownsMap Tryz.prog 9 ptrElem w.heap.size i D) := Lib.hid (hown.out.alloc _)
        go_wp2_with (at_mapUpdate; refine wpList_mapUpdate_own _ rfl (.tmp 30) (.tmp 31) (.tmp 41) 101 rfl 9 103 strKeyed Tryz.underlying101 ptrElem w.heap.size i _ rfl hown2.out (by unfold maxLen; omega) _ _ (kl i) rfl rfl hkey (.held wr.heap.size) [] rfl ?_; intro w1 hown1 hgrow1; have O1 := Lib.hid hown1; have G1 := Lib.hid hgrow1; clear hown1 hgrow1)
        have e1 : ∀ c T cs, Blk (wr.alloc (.cells #[.string m, .string ⟨#[]⟩] 105)) c T cs → Blk w1 c T cs := blk_grown G1.out (owns_notCells hown2.out)
        have K1 := Lib.hid (e1 _ _ _ (Blk.new wr 105 [.string m, .string ⟨#[]⟩]))
        replace e1 := Lib.hid e1
        go_roundw
        case rel =>
          refine ⟨i + 1, _, rfl, by go_num, by omega, O1, Lib.hid (hD.out.put (fun c T cs K => e1.out c T cs (K.ext ((Ext.refl wr).alloc _))) (owns_isMap hown.out) HM.out (.inr ⟨hz.out, _, rfl, K1.out⟩)), ?_⟩
          exact (((hE.alloc _).toX (fun k => k = w.heap.size)).grown G1.out (fun k hk => (Option.some.inj hk).symm)).toExt (fun k hk => by have hk : k = w.heap.size := hk; omega)
        case measure => simp [intOf]; omega
    · have hin : Hid (i = g.members.length) := Lib.hid (by have := HN.out; omega)
      go_wp2
      go_ret
      have h1 := hown.out
      have h2 := hD.out
      rw [hin.out] at h1 h2
      exact ⟨_, D, rfl, Nat.le_refl _, h1, h2, hE⟩
end Go.Proofs.YtdokcengcekfgaaGreatDoor
