/-
  The walks of impl.Stored (pairs that are stored come back as their table) and of laws.FnStoredComeBack: it returns true for every list of pairs; what lay below stays.
  Conditions: the slice reads as its pairs and lies below the heap's size; at most 2^20 pairs and 2^20 bytes; the two tables of unicode/utf8 hold what the program's text lays.
-/
import Derived.Test.YtfndlifolohlgaaDoorKvI
import Derived.Test.YtfndlifolohlgaaDoorKvD
namespace Go.Proofs.YtfndlifolohlgaaDoor
open Go Go.RowKit Go.Maps Kv
set_option maxRecDepth 100000

theorem info53s : (Tryd.prog.info? 53).map (fun i => (i.zero, i.size, i.bytes)) = some (some (.agg #[.string ⟨#[]⟩, .string ⟨#[]⟩]), 2, 32) := by kernel_rfl
def SRel (T : List KV) (w w3 : World) (v : Value) (k : Nat) (wr : World) : Prop := wr.ownsRow w3.heap.size 53 2 v k (kvCells (T.take k)) ∧ Below w.heap.size w wr ∧ Below w3.heap.size w3 wr

set_option maxHeartbeats 2000000 in
theorem stored_any (ao : Option Addr) (len cap : Nat) (qs : List KV) (w : World) (hm : len ≤ 1048576) (hz : sz qs ≤ 1048576) (hr : QRd w w.heap.size ao len qs) :
    Calls Tryd.prog 26 #[.slice ao len cap] w (KvSay 53 (tbl qs) w) := by
  have e1 := hr.1
  have HR := Lib.hid hr
  have l1 := tbl_ln qs
  have z1 := tbl_sz qs
  clear hr
  subst e1
  obtain ⟨i0, hi, hz0, hz1, hz2⟩ := info_parts info53s
  go_enter Tryd.func26, Tryd.ntmps26
  go_wp2_with fail
  refine (table_any _ _ _ qs w hm hz HR.out).mono ?_
  rintro e w1 ⟨rfl, hm1, hb1⟩
  have HB1 := Lib.hid hb1
  have HE1 := Lib.hid (encode_any _ _ _ w1 hm1 (srt_tbl qs) (by omega) (by omega))
  have s1 := hb1.size
  clear hm1 hb1
  go_wp2_with fail
  refine HE1.out.mono ?_
  rintro e w2 ⟨rfl, hb2⟩
  have s2 := hb2.size
  have HB2 := Lib.hid (HB1.out.trans (hb2.mono s1))
  have HD2 := Lib.hid (dec_any (tbl qs) w2 (by omega) (by omega))
  clear hb2 HE1
  generalize (⟨(enc (tbl qs)).toArray⟩ : ByteArray) = es at *
  go_wp2_with fail
  refine HD2.out.mono ?_
  rintro e w3 ⟨v3, rfl, own3, hb3⟩
  obtain ⟨a3, c3, rfl, rd3⟩ := own_rd own3
  have s3 := hb3.size
  have HB3 := Lib.hid (HB2.out.trans (hb3.mono (by omega)))
  have hs3 := HB3.out.size
  have HRD := Lib.hid rd3
  clear own3 rd3 hb3 HD2
  generalize tbl qs = T at *
  go_wp2
  go_loopw [3, 11] (fun v i wr => ∃ k : Nat, i = .int .i64 k ∧ k ≤ T.length ∧ Hid (SRel T w w3 v k wr)) (fun _ i _ => T.length - (intOf i).toNat)
  case atStart => exact ⟨0, rfl, Nat.zero_le _, World.ownsRow_nil _ _ _ _, HB3.out, Below.refl _ _⟩
  case round =>
    obtain ⟨k, rfl, hk, HS⟩ := hrel
    by_cases hlt : k < T.length
    · obtain ⟨b, off, rfl, _, hc⟩ := (HRD.out.below HS.out.2.2).2 (by omega)
      obtain ⟨hc1, hc2⟩ := hc k hlt
      have hsn := kv_snoc T k hlt
      have n1 : (k : Int) < T.length := by omega
      generalize (T.getD k ([], [])).1 = a at *
      generalize (T.getD k ([], [])).2 = m at *
      unfold sv at hc1 hc2
      have HSN := Lib.hid hsn
      unfold sv at HSN
      generalize (⟨a.toArray⟩ : ByteArray) = sa at *
      generalize (⟨m.toArray⟩ : ByteArray) = sm at *
      have z4 := HS.out.2.1.size
      have z5 := HS.out.2.2.size
      clear hc hsn
      have HN := Lib.hid (news2 wr 96 53 (.string sa) (.string sm))
      go_wp2_with (at_builtin; refine wpList_append_own _ rfl _ _ 46 rfl w3.heap.size 53 i0 (.agg #[.string ⟨#[]⟩, .string ⟨#[]⟩]) 2 32 Tryd.underlying46 hi hz0 hz1 hz2 rfl (by decide) u3 k (kvCells (T.take k)) rfl ((HS.out.1.alloc _).alloc _) ⟨wr.heap.size + 1, 0, none⟩ 1 1 [.string sa, .string sm] rfl rfl HN.out (by simp [Value.oneCell']) (by unfold maxLen; omega) (by omega) (by simp; omega) ?_; intro v' w4 hown' hgrow _)
      have HF : Hid (SRel T w w3 v' (k + 1) w4) := by
        refine ⟨?_, ?_, ?_⟩
        · rw [HSN.out]; exact hown'
        · exact ((HS.out.2.1.alloc z4 _).alloc (by simp; omega) _).grown hgrow (by simp; omega) (fun kk hkk => Nat.le_trans hs3 (HS.out.1.lt kk hkk).1)
        · exact ((HS.out.2.2.alloc z5 _).alloc (by simp; omega) _).grown hgrow (by simp; omega) (fun kk hkk => (HS.out.1.lt kk hkk).1)
      clear hown' hgrow HS HN
      go_roundw
      case rel => exact ⟨k + 1, by go_num, by omega, HF⟩
      case measure => simp [intOf]; omega
    · go_wp2
      go_ret
      obtain rfl : k = T.length := by omega
      refine ⟨u3, rfl, ?_, HS.out.2.1⟩
      have h1 := HS.out.1
      rw [List.take_of_length_le (Nat.le_refl _)] at h1
      exact own_down h1 hs3

set_option maxHeartbeats 2000000 in
theorem storedlaw_any (ao : Option Addr) (len cap : Nat) (qs : List KV) (w : World) (hm : len ≤ 1048576) (hz : sz qs ≤ 1048576) (hr : QRd w w.heap.size ao len qs) (hT : Lib.Utf8Tabs 1 2 w) :
    Calls Tryd.prog 10 #[.slice ao len cap] w (Yes w) := by
  have h3 := tabs_lt hT
  have HT := Lib.hid hT
  have HR := Lib.hid hr
  have e1 := hr.1
  clear hT hr
  subst e1
  by_cases hs1 : (qs.length : Int) ≤ 1000
  · have d1 : decide ((qs.length : Int) ≤ 1000) = true := decide_eq_true hs1
    have l1 := tbl_ln qs
    go_enter Tryd.func10, Tryd.ntmps10
    go_wp2_with (go_at_call 22; refine (small_any _ _ _ _).mono ?_; rintro e w' ⟨rfl, rfl⟩)
    refine (stored_any _ _ _ qs w hm hz HR.out).mono ?_
    rintro e w1 ⟨v1, rfl, own1, hb1⟩
    have s1 := hb1.size
    have HB1 := Lib.hid hb1
    have HO1 := Lib.hid own1
    clear own1 hb1 d1
    go_wp2_with fail
    refine (pairs_any _ _ _ qs w1 hm ((HR.out.below HB1.out).more s1)).mono ?_
    rintro e w2 ⟨v2, rfl, own2, hb2⟩
    obtain ⟨a2, c2, rfl, rd2⟩ := own_rd own2
    have s2 := hb2.size
    have HB2 := Lib.hid (HB1.out.trans (hb2.mono s1))
    have HO2 := Lib.hid (own_lie HO1.out hb2)
    have HC2 := Lib.hid (tbl_any a2 _ c2 qs w2 (by omega) rd2)
    clear own2 rd2 hb2
    go_wp2_with fail
    refine HC2.out.mono ?_
    rintro e w3 ⟨v3, rfl, own3, hb3⟩
    have s3 := hb3.size
    have HB3 := Lib.hid (HB2.out.trans (hb3.mono (by omega)))
    obtain ⟨ga, gc, rfl, grd⟩ := own_rd (own_lie HO2.out hb3)
    obtain ⟨ta, tc, rfl, trd⟩ := own_rd own3
    have HRT := Lib.hid (And.intro grd trd)
    clear own3 hb3 HC2 HO1 HO2 grd trd
    generalize tbl qs = T at *
    go_wp2_with fail
    go_loopw [22] (fun i wr => ∃ k nq : Nat, i = .int .i64 k ∧ k ≤ T.length ∧ wr = w3.drewN nq) (fun i _ => T.length - (intOf i).toNat)
    case atStart => exact ⟨0, 0, rfl, Nat.zero_le _, rfl⟩
    case round =>
      obtain ⟨k, nq, rfl, hk, rfl⟩ := hrel
      by_cases hlt : k < T.length
      · obtain ⟨b1, o1, rfl, _, g1⟩ := HRT.out.1.2 (by omega)
        obtain ⟨b2, o2, rfl, _, g2⟩ := HRT.out.2.2 (by omega)
        obtain ⟨t1, t2⟩ := g1 k hlt
        obtain ⟨t3, t4⟩ := g2 k hlt
        unfold sv at t1 t2 t3 t4
        have n1 : (k : Int) < T.length := by omega
        clear g1 g2
        generalize (⟨(T.getD k ([], [])).1.toArray⟩ : ByteArray) = sx at *
        generalize (⟨(T.getD k ([], [])).2.toArray⟩ : ByteArray) = sy at *
        go_wp2_with fail
        go_quiet (fail)
        clear t1 t2 t3 t4
        go_wp2
        go_roundw
        case rel => exact ⟨k + 1, _, by go_num, by omega, rfl⟩
        case measure => simp [intOf]; omega
      · go_wp2_with fail
        refine (wakes_any _ (tabs_below HT.out (below_dN HB3.out nq) (by omega))).mono ?_
        rintro e w5 ⟨rfl, hb5⟩
        have HB5 := Lib.hid ((below_dN HB3.out nq).trans (hb5.mono HB3.out.size))
        clear hb5
        go_wp2
        go_ret
        exact ⟨rfl, HB5.out⟩
  · have d1 : decide ((qs.length : Int) ≤ 1000) = false := decide_eq_false hs1
    go_enter Tryd.func10, Tryd.ntmps10
    go_wp2_with (first | (go_at_call 22; refine (small_any _ _ _ _).mono ?_; rintro e w' ⟨rfl, rfl⟩) | (go_at_call 13; refine (wakes_any w HT.out).mono ?_; rintro e w2 ⟨rfl, hb2⟩))
    go_ret
    exact ⟨rfl, hb2⟩
end Go.Proofs.YtfndlifolohlgaaDoor
