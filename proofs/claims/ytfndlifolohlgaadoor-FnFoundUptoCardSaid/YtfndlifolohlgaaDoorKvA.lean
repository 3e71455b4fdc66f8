/-
  The walks of laws.small, laws.pairs and impl.table: a list of pairs copied; a map filled from it.
  Conditions: the slice reads as the pairs qs and lies below the heap's size; at most 2^20 pairs.
-/
import Derived.Test.YtfndlifolohlgaaDoorKv
import Derived.Test.YtfndlifolohlgaaDoorOrder
import Derived.Maps.OwnOps
namespace Go.Proofs.YtfndlifolohlgaaDoor
open Go Go.RowKit Go.Maps Kv
set_option maxRecDepth 100000

/-- a text's bytes as a cell -/
def sv (l : Bs) : Value := .string ⟨l.toArray⟩
def kvCells (qs : List KV) : List Value := qs.flatMap fun p => [sv p.1, sv p.2]
def QRd (w : World) (B : Nat) (ao : Option Addr) (n : Nat) (qs : List KV) : Prop :=
  qs.length = n ∧ (0 < n → ∃ b off, ao = some ⟨b, off, none⟩ ∧ b < B ∧ ∀ k, k < n →
    w.cell? ⟨b, off + k * 2, none⟩ = some (sv (qs.getD k ([], [])).1) ∧ w.cell? ⟨b, off + k * 2 + 1, none⟩ = some (sv (qs.getD k ([], [])).2))
theorem QRd.below {w w' : World} {B n : Nat} {ao : Option Addr} {ps : List KV} (h : QRd w B ao n ps) (hb : Below B w w') : QRd w' B ao n ps := by
  refine ⟨h.1, fun hn => ?_⟩
  obtain ⟨b, off, e, hlt, hc⟩ := h.2 hn
  refine ⟨b, off, e, hlt, fun k hk => ?_⟩
  obtain ⟨h1, h2⟩ := hc k hk
  exact ⟨(hb.cell (p := ⟨b, off + k * 2, none⟩) hlt).trans h1, (hb.cell (p := ⟨b, off + k * 2 + 1, none⟩) hlt).trans h2⟩
theorem QRd.more {w : World} {B B' n : Nat} {ao : Option Addr} {ps : List KV} (h : QRd w B ao n ps) (hB : B ≤ B') : QRd w B' ao n ps := by
  refine ⟨h.1, fun hn => ?_⟩
  obtain ⟨b, off, e, hlt, hc⟩ := h.2 hn
  exact ⟨b, off, e, by omega, hc⟩
theorem kv_len : ∀ qs : List KV, (kvCells qs).length = qs.length * 2
  | [] => rfl
  | p :: r => by
    have := kv_len r
    show ([sv p.1, sv p.2] ++ kvCells r).length = _
    rw [List.length_append, this]
    simp
    omega
theorem kv_at (j : Nat) (hj : j < 2) : ∀ (qs : List KV) (k : Nat), k < qs.length → (kvCells qs)[k * 2 + j]? = [sv (qs.getD k ([], [])).1, sv (qs.getD k ([], [])).2][j]?
  | p :: r, 0, _ => by
    show ([sv p.1, sv p.2] ++ kvCells r)[0 * 2 + j]? = _
    rw [List.getElem?_append_left (by simp; omega), Nat.zero_mul, Nat.zero_add]
    rfl
  | p :: r, k + 1, h => by
    show ([sv p.1, sv p.2] ++ kvCells r)[(k + 1) * 2 + j]? = _
    rw [List.getElem?_append_right (by simp; omega)]
    have := kv_at j hj r k (by simpa using h)
    rw [show (k + 1) * 2 + j - [sv p.1, sv p.2].length = k * 2 + j by simp; omega, this]
    rfl
theorem kv_snoc (qs : List KV) (k : Nat) (hk : k < qs.length) : kvCells (qs.take (k + 1)) = kvCells (qs.take k) ++ [sv (qs.getD k ([], [])).1, sv (qs.getD k ([], [])).2] := by
  unfold kvCells
  rw [List.take_succ_eq_append_getElem hk, List.flatMap_append]
  simp [List.getD, hk]
/-- a row of the call's own reads as its pairs -/
theorem own_rd {w : World} {base : Nat} {e : TypeId} {v : Value} {qs : List KV} (h : w.ownsRow base e 2 v qs.length (kvCells qs)) : ∃ ao cap, v = .slice ao qs.length cap ∧ QRd w w.heap.size ao qs.length qs := by
  rcases h.2 with ⟨hv, h0⟩ | ⟨g, cap, cur, rfl, hb, hh, h1, h2, h3, h4⟩
  · rw [h0]
    exact ⟨none, 0, hv, h0, fun hn => by omega⟩
  · refine ⟨_, cap, rfl, rfl, fun _ => ⟨g, 0, rfl, lt_of_block hh, fun k hk => ?_⟩⟩
    have hcl := h.cells (g := g) rfl
    have a1 := hcl (k * 2) (sv (qs.getD k ([], [])).1) (kv_at 0 (by omega) qs k hk)
    have a2 := hcl (k * 2 + 1) (sv (qs.getD k ([], [])).2) (kv_at 1 (by omega) qs k hk)
    have ea : ∀ j, Addr.add ⟨g, 0, none⟩ j = ⟨g, j, none⟩ := fun j => by unfold Addr.add; split <;> simp_all
    rw [ea] at a1 a2
    rw [Nat.zero_add]
    exact ⟨a1, a2⟩
/-- two cells that were just laid, behind another block -/
theorem news2 (w : World) (t t' : TypeId) (x y : Value) : ∀ j u, [x, y][j]? = some u → ((w.alloc (.cells #[x, y] t)).alloc (.cells #[x, y] t')).cell? (Addr.add ⟨w.heap.size + 1, 0, none⟩ j) = some u := by
  have hb := Bk.new (w.alloc (.cells #[x, y] t)) t' #[x, y]
  rw [World.size_alloc] at hb
  intro j u hj
  rw [show (Addr.add ⟨w.heap.size + 1, 0, none⟩ j) = ⟨w.heap.size + 1, j, none⟩ by unfold Addr.add; split <;> simp_all, hb.cell j]
  simpa using hj
theorem info52 : (Tryd.prog.info? 52).map (fun i => (i.zero, i.size, i.bytes)) = some (some (.agg #[.string ⟨#[]⟩, .string ⟨#[]⟩]), 2, 32) := by kernel_rfl
theorem law9 : Keyed Tryd.prog 9 := string_keyed Tryd.underlying9

theorem small_any (ao : Option Addr) (len cap : Nat) (w : World) : Calls Tryd.prog 22 #[.slice ao len cap] w fun e w' => e = .returned (.bool (decide ((len : Int) ≤ 1000))) ∧ w = w' := by
  go_enter Tryd.func22, Tryd.ntmps22
  go_wp2
  go_ret
  exact ⟨rfl, rfl⟩

/-- a copied list of pairs -/
def KvSay (e0 : TypeId) (qs : List KV) (w : World) (e : Ending) (w' : World) : Prop := ∃ v, e = .returned v ∧ w'.ownsRow w.heap.size e0 2 v qs.length (kvCells qs) ∧ Below w.heap.size w w'
def PrRel (qs : List KV) (w : World) (v : Value) (k : Nat) (wr : World) : Prop := wr.ownsRow w.heap.size 52 2 v k (kvCells (qs.take k)) ∧ Below w.heap.size w wr

set_option maxHeartbeats 2000000 in
theorem pairs_some (b off len cap : Nat) (qs : List KV) (w : World) (hl : 0 < len) (hm : len ≤ 1048576) (hr : QRd w w.heap.size (some ⟨b, off, none⟩) len qs) :
    Calls Tryd.prog 24 #[.slice (some ⟨b, off, none⟩) len cap] w (KvSay 52 qs w) := by
  have HR := Lib.hid hr
  have hlen := hr.1
  clear hr
  obtain ⟨i0, hi, hz0, hz1, hz2⟩ := info_parts info52
  go_enter Tryd.func24, Tryd.ntmps24
  go_wp2
  go_loopw [3, 8] (fun v i wr => ∃ k : Nat, i = .int .i64 k ∧ k ≤ len ∧ Hid (PrRel qs w v k wr)) (fun _ i _ => len - (intOf i).toNat)
  case atStart => exact ⟨0, rfl, Nat.zero_le _, World.ownsRow_nil _ _ _ _, Below.refl _ _⟩
  case round =>
    obtain ⟨k, rfl, hk, HS⟩ := hrel
    by_cases hlt : k < len
    · obtain ⟨hown, hbl⟩ := HS.out
      obtain ⟨b', off', he, _, hc⟩ := (HR.out.below hbl).2 hl
      simp only [Option.some.injEq, Addr.mk.injEq] at he
      obtain ⟨rfl, rfl, _⟩ := he
      obtain ⟨hc1, hc2⟩ := hc k hlt
      have hsn := kv_snoc qs k (by omega)
      generalize (qs.getD k ([], [])).1 = a at *
      generalize (qs.getD k ([], [])).2 = m at *
      unfold sv at hc1 hc2
      have HSN := Lib.hid hsn
      unfold sv at HSN
      generalize (⟨a.toArray⟩ : ByteArray) = sa at *
      generalize (⟨m.toArray⟩ : ByteArray) = sm at *
      have hsize := hbl.size
      have HB := Lib.hid (And.intro hown hbl)
      clear hc hsn hbl hown HS
      have HN := Lib.hid (news2 wr 53 52 (.string sa) (.string sm))
      go_wp2_with (at_builtin; refine wpList_append_own _ rfl _ _ 48 rfl w.heap.size 52 i0 (.agg #[.string ⟨#[]⟩, .string ⟨#[]⟩]) 2 32 Tryd.underlying48 hi hz0 hz1 hz2 rfl (by decide) u3 k (kvCells (qs.take k)) rfl ((HB.out.1.alloc _).alloc _) ⟨wr.heap.size + 1, 0, none⟩ 1 1 [.string sa, .string sm] rfl rfl HN.out (by simp [Value.oneCell']) (by unfold maxLen; omega) (by omega) (by simp; omega) ?_; intro v' w2 hown' hgrow _)
      have HF : Hid (PrRel qs w v' (k + 1) w2) := by
        refine ⟨?_, ?_⟩
        · rw [HSN.out]; exact hown'
        · exact ((HB.out.2.alloc hsize _).alloc (by simp; omega) _).grown hgrow (by simp; omega) (fun kk hkk => (HB.out.1.lt kk hkk).1)
      clear hown' hgrow HB
      go_roundw
      case rel => exact ⟨k + 1, by go_num, by omega, HF⟩
      case measure => simp [intOf]; omega
    · go_wp2
      go_ret
      obtain rfl : k = qs.length := by omega
      refine ⟨u3, rfl, ?_, HS.out.2⟩
      have := HS.out.1
      rwa [List.take_of_length_le (Nat.le_refl _)] at this
set_option maxHeartbeats 800000 in
theorem pairs_none (ao : Option Addr) (cap : Nat) (w : World) : Calls Tryd.prog 24 #[.slice ao 0 cap] w (KvSay 52 [] w) := by
  go_enter Tryd.func24, Tryd.ntmps24
  go_wp2
  refine wp_loop_rounds 1 ?_
  rw [rounds_succ]
  go_wp2
  go_ret
  exact ⟨_, rfl, World.ownsRow_nil _ _ _ _, Below.refl _ _⟩
theorem pairs_any (ao : Option Addr) (len cap : Nat) (qs : List KV) (w : World) (hm : len ≤ 1048576) (hr : QRd w w.heap.size ao len qs) : Calls Tryd.prog 24 #[.slice ao len cap] w (KvSay 52 qs w) := by
  rcases Nat.eq_zero_or_pos len with h0 | h0
  · subst h0
    have : qs = [] := List.eq_nil_of_length_eq_zero hr.1
    subst this
    exact pairs_none ao cap w
  · obtain ⟨b, off, rfl, _, _⟩ := hr.2 h0
    exact pairs_some b off len cap qs w h0 hm hr

/-- a map of the call's own that holds what the table T holds -/
def MpI (w : World) (B n : Nat) (T : List KV) : Prop := ∃ D : DataW Unit, w.ownsMap Tryd.prog 9 (plainElem Tryd.prog 9) B n D ∧ Agr D T
def TbRel (qs : List KV) (w : World) (k : Nat) (wr : World) : Prop := MpI wr w.heap.size k (tbl (qs.take k)) ∧ Below w.heap.size w wr
def TbSay (qs : List KV) (w : World) (e : Ending) (w' : World) : Prop := e = .returned (.map (some w.heap.size)) ∧ MpI w' w.heap.size qs.length (tbl qs) ∧ Below w.heap.size w w'

set_option maxHeartbeats 2000000 in
theorem table_some (b off len cap : Nat) (qs : List KV) (w : World) (hl : 0 < len) (hm : len ≤ 1048576) (hz : sz qs ≤ 1048576) (hr : QRd w w.heap.size (some ⟨b, off, none⟩) len qs) :
    Calls Tryd.prog 41 #[.slice (some ⟨b, off, none⟩) len cap] w (TbSay qs w) := by
  have HR := Lib.hid hr
  have hlen := hr.1
  clear hr
  have hmm := @run_makeMap Tryd.prog
  go_enter Tryd.func41, Tryd.ntmps41
  go_wp2
  go_loopw [9] (fun i wr => ∃ k : Nat, i = .int .i64 k ∧ k ≤ len ∧ Hid (TbRel qs w k wr)) (fun i _ => len - (intOf i).toNat)
  case atStart => exact ⟨0, rfl, Nat.zero_le _, ⟨_, World.ownsMap_made _ _ _ _, agr_nil⟩, (Below.refl _ _).alloc (Nat.le_refl _) _⟩
  case round =>
    obtain ⟨k, rfl, hk, HS⟩ := hrel
    by_cases hlt : k < len
    · obtain ⟨⟨D, hown, hagr⟩, hbl⟩ := HS.out
      obtain ⟨b', off', he, _, hc⟩ := (HR.out.below hbl).2 hl
      simp only [Option.some.injEq, Addr.mk.injEq] at he
      obtain ⟨rfl, rfl, _⟩ := he
      obtain ⟨hc1, hc2⟩ := hc k hlt
      have hsn := tbl_succ qs k (by omega)
      have hpm : (qs.getD k ([], [])).1.length + (qs.getD k ([], [])).2.length ≤ sz qs := sz_mem (by simp [List.getD, show k < qs.length by omega])
      generalize (qs.getD k ([], [])).1 = a at *
      generalize (qs.getD k ([], [])).2 = m at *
      unfold sv at hc1 hc2
      have hka : keyOf Tryd.prog 9 (.string ⟨a.toArray⟩) = some (.string a) := by
        have := WideMaps.keyOf_string_mk (P := Tryd.prog) (k := 9) Tryd.underlying9 (s := ⟨a.toArray⟩) (by show a.length ≤ maxLen; unfold maxLen; omega)
        simpa using this
      have hvm : plainElem (H := Unit) Tryd.prog 9 (.string ⟨m.toArray⟩) = some (.lit (.string m), []) := by
        have := plainElem_string (H := Unit) (P := Tryd.prog) (e := 9) Tryd.underlying9 (s := ⟨m.toArray⟩) (by show m.length ≤ maxLen; unfold maxLen; omega)
        simpa using this
      have HSN := Lib.hid hsn
      have hsize := hbl.size
      have HB := Lib.hid (And.intro hown (And.intro hagr hbl))
      have HK := Lib.hid hka
      have HV := Lib.hid hvm
      generalize (⟨a.toArray⟩ : ByteArray) = sa at *
      generalize (⟨m.toArray⟩ : ByteArray) = sm at *
      clear hc hsn hbl hown hagr HS hka hvm hpm
      go_wp2_with (at_mapUpdate; refine wpList_mapUpdate_own _ rfl _ _ _ 92 rfl 9 9 law9 Tryd.underlying92 _ w.heap.size k _ rfl (HB.out.1.alloc _) (by unfold maxLen; omega) _ _ _ rfl rfl HK.out _ [] HV.out ?_; intro w2 hown1 hgrow1)
      have HF : Hid (TbRel qs w (k + 1) w2) := by
        refine ⟨⟨_, hown1, ?_⟩, ?_⟩
        · rw [HSN.out]; exact agr_put HB.out.1.isMap HB.out.2.1 a m
        · exact (HB.out.2.2.alloc hsize _).grown hgrow1 (by simp; omega) (fun kk hkk => by injection hkk with hkk; omega)
      clear hown1 hgrow1 HB HK HV
      go_roundw
      case rel => exact ⟨k + 1, by go_num, by omega, HF⟩
      case measure => simp [intOf]; omega
    · go_wp2
      go_ret
      obtain rfl : k = qs.length := by omega
      refine ⟨rfl, ?_, HS.out.2⟩
      have := HS.out.1
      rwa [List.take_of_length_le (Nat.le_refl _)] at this
set_option maxHeartbeats 800000 in
theorem table_none (ao : Option Addr) (cap : Nat) (w : World) : Calls Tryd.prog 41 #[.slice ao 0 cap] w (TbSay [] w) := by
  have hmm := @run_makeMap Tryd.prog
  go_enter Tryd.func41, Tryd.ntmps41
  go_wp2
  refine wp_loop_rounds 1 ?_
  rw [rounds_succ]
  go_wp2
  go_ret
  exact ⟨rfl, ⟨_, World.ownsMap_made _ _ _ _, agr_nil⟩, (Below.refl _ _).alloc (Nat.le_refl _) _⟩
theorem table_any (ao : Option Addr) (len cap : Nat) (qs : List KV) (w : World) (hm : len ≤ 1048576) (hz : sz qs ≤ 1048576) (hr : QRd w w.heap.size ao len qs) : Calls Tryd.prog 41 #[.slice ao len cap] w (TbSay qs w) := by
  rcases Nat.eq_zero_or_pos len with h0 | h0
  · subst h0
    have : qs = [] := List.eq_nil_of_length_eq_zero hr.1
    subst this
    exact table_none ao cap w
  · obtain ⟨b, off, rfl, _, _⟩ := hr.2 h0
    exact table_some b off len cap qs w h0 hm hz hr
end Go.Proofs.YtfndlifolohlgaaDoor
