/-
  The walks of DecodeIntoMap and impl.Found: a table's bytes are read back into a map; what it holds at a key.
  Conditions: the table holds at most 2^20 pairs and 2^20 bytes; the key has at most 2^20 bytes.
-/
import Derived.Test.YtfndlifolohlgaaDoorKvE
import Derived.Test.YtfndlifolohlgaaDoorKvI
import Derived.Test.YtfndlifolohlgaaDoorKvD
namespace Go.Proofs.YtfndlifolohlgaaDoor
open Go Go.RowKit Go.Maps Kv
set_option maxRecDepth 100000

/-- a map's value that holds what the table T holds: nil where T is empty -/
def MapSays (w : World) (mv : Value) (T : List KV) : Prop := (mv = .map none ∧ T = []) ∨ ∃ b n, mv = .map (some b) ∧ MpI w b n T
theorem look_says {w : World} {mv : Value} {T : List KV} (h : MapSays w mv T) (key : Bs) (hk : key.length ≤ 1048576) :
    (Instr.lookup 92 mv (.string ⟨key.toArray⟩) true).run Tryd.prog w = .ok (.tuple #[.string ⟨((lk key T).getD []).toArray⟩, .bool (lk key T).isSome]) w := by
  have hkey : keyOf Tryd.prog 9 (.string ⟨key.toArray⟩) = some (.string key) := by
    have := WideMaps.keyOf_string_mk (P := Tryd.prog) (k := 9) Tryd.underlying9 (s := ⟨key.toArray⟩) (by show key.length ≤ maxLen; unfold maxLen; omega)
    simpa using this
  rcases h with ⟨rfl, rfl⟩ | ⟨b, n, rfl, D, hown, hagr⟩
  · exact Maps.look_nil true law9 Tryd.underlying92 (zero9 w) hkey
  · obtain ⟨v, ps, hrun, hv⟩ := hown.look_ok law9 Tryd.underlying92 (zero9 w) plain_empty hkey
    obtain ⟨h1, h2⟩ := hagr key
    rw [h2] at hv
    rw [h1] at hrun
    rw [hrun]
    obtain ⟨c, rfl, hc, _⟩ := plainElem_string_inv Tryd.underlying9 hv
    cases hl : lk key T with
    | none =>
      rw [hl] at hc
      simp only [Prod.mk.injEq, DataW.lit.injEq, Lit.string.injEq] at hc
      obtain ⟨hc, _⟩ := hc
      have : c = ⟨#[]⟩ := by
        cases c with
        | mk d =>
          have : d.toList = [] := hc.symm
          congr
          exact Array.toList_eq_nil_iff.1 this
      rw [this]
      rfl
    | some x =>
      rw [hl] at hc
      simp only [Prod.mk.injEq, DataW.lit.injEq, Lit.string.injEq] at hc
      obtain ⟨hc, _⟩ := hc
      have : c = ⟨x.toArray⟩ := by
        cases c with
        | mk d =>
          have : d.toList = x := hc.symm
          congr
          rw [← this]
      rw [this]
      rfl
theorem make_hint (n : Int) (w : World) : (Instr.makeMap 92 (some (.int .i64 n))).run Tryd.prog w = .ok (.map (some w.heap.size)) (w.alloc (.map #[] 0)) := by
  simp [Instr.makeMap, run_underlying Tryd.underlying92, asInt, asIntOf]
def MRel (T : List KV) (w w3 : World) (k : Nat) (wr : World) : Prop := MpI wr w3.heap.size k (tbl (T.take k)) ∧ Below w.heap.size w wr ∧ Below w3.heap.size w3 wr

set_option maxHeartbeats 2000000 in
theorem decm_any (T : List KV) (w : World) (hS : Srt T) (hl : T.length ≤ 1048576) (hz : sz T ≤ 1048576) :
    Calls Tryd.prog 43 #[.agg #[.string ⟨(enc T).toArray⟩]] w fun e w' => ∃ mv, e = .returned mv ∧ MapSays w' mv T ∧ Below w.heap.size w w' := by
  have HD := Lib.hid (dec_any T (w.alloc (.cells #[.string ⟨(enc T).toArray⟩] 63)) hl hz)
  generalize (⟨(enc T).toArray⟩ : ByteArray) = es at *
  have hmh := make_hint
  go_enter Tryd.func43, Tryd.ntmps43
  go_wp2_with fail
  refine HD.out.mono ?_
  rintro e w3 ⟨v3, rfl, own3, hb3⟩
  obtain ⟨a3, c3, rfl, rd3⟩ := own_rd own3
  have s3 := hb3.size
  have HB3 := Lib.hid (((Below.refl w.heap.size w).alloc (Nat.le_refl _) _).trans (hb3.mono (by simp)))
  have hs3 := HB3.out.size
  have HRD := Lib.hid rd3
  clear own3 rd3 hb3 HD
  rcases Nat.eq_zero_or_pos T.length with h0 | h0
  · obtain rfl := List.eq_nil_of_length_eq_zero h0
    go_wp2
    go_ret
    exact ⟨_, rfl, .inl ⟨rfl, rfl⟩, HB3.out⟩
  · have n0 : (0 : Int) < T.length := by omega
    go_wp2
    go_loopw [16] (fun i wr => ∃ k : Nat, i = .int .i64 k ∧ k ≤ T.length ∧ Hid (MRel T w w3 k wr)) (fun i _ => T.length - (intOf i).toNat)
    case atStart => exact ⟨0, rfl, Nat.zero_le _, ⟨_, World.ownsMap_made _ _ _ _, agr_nil⟩, HB3.out.alloc hs3 _, (Below.refl _ _).alloc (Nat.le_refl _) _⟩
    case round =>
      obtain ⟨k, rfl, hk, HS⟩ := hrel
      by_cases hlt : k < T.length
      · obtain ⟨⟨D, hown, hagr⟩, hbl, hbl3⟩ := HS.out
        obtain ⟨b, off, rfl, _, hc⟩ := (HRD.out.below hbl3).2 (by omega)
        obtain ⟨hc1, hc2⟩ := hc k hlt
        have hsn := tbl_succ T k hlt
        have hpm : (T.getD k ([], [])).1.length + (T.getD k ([], [])).2.length ≤ sz T := sz_mem (by simp [List.getD, hlt])
        have n1 : (k : Int) < T.length := by omega
        generalize (T.getD k ([], [])).1 = a at *
        generalize (T.getD k ([], [])).2 = m at *
        unfold sv at hc1 hc2
        have hka : keyOf Tryd.prog 9 (.string ⟨a.toArray⟩) = some (.string a) := by
          have := WideMaps.keyOf_string_mk (P := Tryd.prog) (k := 9) Tryd.underlying9 (s := ⟨a.toArray⟩) (by show a.length ≤ maxLen; unfold maxLen; omega)
          simpa using this
        have hvm : plainElem (H := Unit) Tryd.prog 9 (.string ⟨m.toArray⟩) = some (.lit (.string m), []) := by
          have := plainElem_string (H := Unit) (P := Tryd.prog) (e := 9) Tryd.underlying9 (s := ⟨m.toArray⟩) (by show m.length ≤ maxLen; unfold maxLen; omega)
          simpa using this
        have HSN := Lib.hid hsn
        have z4 := hbl.size
        have z5 := hbl3.size
        have HB := Lib.hid (And.intro hown (And.intro hagr (And.intro hbl hbl3)))
        have HK := Lib.hid hka
        have HV := Lib.hid hvm
        generalize (⟨a.toArray⟩ : ByteArray) = sa at *
        generalize (⟨m.toArray⟩ : ByteArray) = sm at *
        clear hc hsn hbl hbl3 hown hagr HS hka hvm hpm
        go_wp2_with (at_mapUpdate; refine wpList_mapUpdate_own _ rfl _ _ _ 92 rfl 9 9 law9 Tryd.underlying92 _ w3.heap.size k _ rfl (HB.out.1.alloc _) (by unfold maxLen; omega) _ _ _ rfl rfl HK.out _ [] HV.out ?_; intro w4 hown1 hgrow1)
        have HF : Hid (MRel T w w3 (k + 1) w4) := by
          refine ⟨⟨_, hown1, ?_⟩, ?_, ?_⟩
          · rw [HSN.out]; exact agr_put HB.out.1.isMap HB.out.2.1 a m
          · exact (HB.out.2.2.1.alloc z4 _).grown hgrow1 (by simp; omega) (fun kk hkk => by injection hkk with hkk; omega)
          · exact (HB.out.2.2.2.alloc z5 _).grown hgrow1 (by simp; omega) (fun kk hkk => by injection hkk with hkk; omega)
        clear hown1 hgrow1 HB HK HV
        go_roundw
        case rel => exact ⟨k + 1, by go_num, by omega, HF⟩
        case measure => simp [intOf]; omega
      · go_wp2
        go_ret
        obtain rfl : k = T.length := by omega
        refine ⟨_, rfl, .inr ⟨w3.heap.size, T.length, rfl, ?_⟩, HS.out.2.1⟩
        have h1 := HS.out.1
        rw [List.take_of_length_le (Nat.le_refl _), tbl_perm hS (List.Perm.refl _)] at h1
        exact h1

set_option maxHeartbeats 800000 in
theorem found_any (ao : Option Addr) (len cap : Nat) (qs : List KV) (key : Bs) (w : World) (hm : len ≤ 1048576) (hz : sz qs ≤ 1048576) (hk : key.length ≤ 1048576) (hr : QRd w w.heap.size ao len qs) :
    Calls Tryd.prog 27 #[.slice ao len cap, .string ⟨key.toArray⟩] w fun e w' => e = .returned (.tuple #[.string ⟨((lk key (tbl qs)).getD []).toArray⟩, .bool (lk key (tbl qs)).isSome]) ∧ Below w.heap.size w w' := by
  have e1 := hr.1
  have HR := Lib.hid hr
  have l1 := tbl_ln qs
  have z1 := tbl_sz qs
  clear hr
  subst e1
  have HL := Lib.hid (fun (w4 : World) mv (h : MapSays w4 mv (tbl qs)) => look_says h key hk)
  generalize (⟨key.toArray⟩ : ByteArray) = sk at *
  generalize (⟨((lk key (tbl qs)).getD []).toArray⟩ : ByteArray) = sv at *
  generalize (lk key (tbl qs)).isSome = bk at *
  go_enter Tryd.func27, Tryd.ntmps27
  go_wp2_with fail
  refine (table_any _ _ _ qs w hm hz HR.out).mono ?_
  rintro e w1 ⟨rfl, hm1, hb1⟩
  have HB1 := Lib.hid hb1
  have HE1 := Lib.hid (encode_any _ _ _ w1 hm1 (srt_tbl qs) (by omega) (by omega))
  have s1 := hb1.size
  clear hm1 hb1
  go_wp2_with fail
  refine HE1.out.mono ?_
  rintro e w2 ⟨rfl, hb2⟩
  have s2 := hb2.size
  have HB2 := Lib.hid (HB1.out.trans (hb2.mono s1))
  have HD2 := Lib.hid (decm_any (tbl qs) w2 (srt_tbl qs) (by omega) (by omega))
  clear hb2 HE1
  generalize (⟨(enc (tbl qs)).toArray⟩ : ByteArray) = es at *
  go_wp2_with fail
  refine HD2.out.mono ?_
  rintro e w3 ⟨mv, rfl, hms, hb3⟩
  have HB3 := Lib.hid (HB2.out.trans (hb3.mono (by omega)))
  have hlook := HL.out w3 mv hms
  clear hb3 HD2 hms
  go_wp2
  go_ret2
  exact ⟨rfl, HB3.out⟩
end Go.Proofs.YtfndlifolohlgaaDoor
