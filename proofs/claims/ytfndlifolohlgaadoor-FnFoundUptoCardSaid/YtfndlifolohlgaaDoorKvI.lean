/-
  The walk of impl.Alike: whether two lists of pairs make the same table.
  Conditions: each slice reads as its pairs and lies below the heap's size; at most 2^20 pairs and 2^20 bytes each.
-/
import Derived.Test.YtfndlifolohlgaaDoorKvE
import Derived.Test.YtfndlifolohlgaaDoorKvT
namespace Go.Proofs.YtfndlifolohlgaaDoor
open Go Go.RowKit Go.Maps Kv
set_option maxRecDepth 100000

theorem tbl_sz (qs : List KV) : sz (tbl qs) ≤ sz qs := by
  have := sz_from qs []
  simpa [sz, tbl] using this
theorem tbl_ln (qs : List KV) : (tbl qs).length ≤ qs.length := by
  have := len_tbl qs []
  simpa [tbl] using this
theorem small_of {T : List KV} (h : sz T ≤ 1048576) : Small T := fun p hp => by
  have := sz_mem hp
  constructor <;> omega

set_option maxHeartbeats 800000 in
theorem alike_any (ao1 ao2 : Option Addr) (len1 cap1 len2 cap2 : Nat) (q1 q2 : List KV) (w : World) (h1 : len1 ≤ 1048576) (h2 : len2 ≤ 1048576) (z1 : sz q1 ≤ 1048576) (z2 : sz q2 ≤ 1048576)
    (r1 : QRd w w.heap.size ao1 len1 q1) (r2 : QRd w w.heap.size ao2 len2 q2) :
    Calls Tryd.prog 25 #[.slice ao1 len1 cap1, .slice ao2 len2 cap2] w fun e w' => e = .returned (.bool (decide (tbl q1 = tbl q2))) ∧ Below w.heap.size w w' := by
  have l1 := tbl_ln q1
  have l2 := tbl_ln q2
  have s1 := tbl_sz q1
  have s2 := tbl_sz q2
  have e1 := r1.1
  have e2 := r2.1
  have HR := Lib.hid (And.intro r1 r2)
  clear r1 r2
  have hdec : (ByteArray.toList ⟨(enc (tbl q1)).toArray⟩ == ByteArray.toList ⟨(enc (tbl q2)).toArray⟩) = decide (tbl q1 = tbl q2) := by
    rw [same_eq]
    by_cases h : tbl q1 = tbl q2
    · rw [h]; simp
    · rw [decide_eq_false h, decide_eq_false]
      intro he
      exact h (enc_inj (small_of (by omega)) (small_of (by omega)) he)
  have HD := Lib.hid hdec
  clear hdec
  go_enter Tryd.func25, Tryd.ntmps25
  go_wp2_with fail
  refine (table_any _ _ _ q1 w h1 z1 HR.out.1).mono ?_
  rintro e w1 ⟨rfl, hm1, hb1⟩
  have HB1 := Lib.hid hb1
  have HE1 := Lib.hid (encode_any _ _ _ w1 hm1 (srt_tbl q1) (by omega) (by omega))
  have hz1 := hb1.size
  clear hm1 hb1
  go_wp2_with fail
  refine HE1.out.mono ?_
  rintro e w2 ⟨rfl, hb2⟩
  have hz2 := hb2.size
  have HB2 := Lib.hid (HB1.out.trans (hb2.mono hz1))
  clear hb2 HE1
  go_wp2_with fail
  refine (table_any _ _ _ q2 w2 h2 z2 ((HR.out.2.below HB2.out).more (by omega))).mono ?_
  rintro e w3 ⟨rfl, hm3, hb3⟩
  have hz3 := hb3.size
  have HB3 := Lib.hid (HB2.out.trans (hb3.mono (by omega)))
  have HE3 := Lib.hid (encode_any _ _ _ w3 hm3 (srt_tbl q2) (by omega) (by omega))
  clear hm3 hb3
  go_wp2_with fail
  refine HE3.out.mono ?_
  rintro e w4 ⟨rfl, hb4⟩
  have HB4 := Lib.hid (HB3.out.trans (hb4.mono (by omega)))
  clear hb4 HE3
  generalize hsa : (⟨(enc (tbl q1)).toArray⟩ : ByteArray) = sa at *
  generalize hsb : (⟨(enc (tbl q2)).toArray⟩ : ByteArray) = sb at *
  clear hsa hsb
  go_wp2
  all_goals
    go_ret
    refine ⟨?_, HB4.out⟩
    rw [← HD.out]
    simp_all
end Go.Proofs.YtfndlifolohlgaaDoor
