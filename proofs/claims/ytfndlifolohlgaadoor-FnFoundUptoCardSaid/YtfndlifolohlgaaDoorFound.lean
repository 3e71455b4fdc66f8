/-
  The walk of laws.FnFound: it returns true for every list of pairs and every key; what lay below stays.
  Conditions: the slice reads as its pairs and lies below the heap's size; at most 2^20 pairs and 2^20 bytes; a key of at most 2^20 bytes; the two tables of unicode/utf8 hold what the program's text lays.
-/
import Derived.Test.YtfndlifolohlgaaDoorKvM
namespace Go.Proofs.YtfndlifolohlgaaDoor
open Go Go.RowKit Go.Maps Kv
set_option maxRecDepth 100000

theorem lk_append (k : Bs) (p : KV) : ∀ A : List KV, lk k (A ++ [p]) = (lk k A).or (if p.1 = k then some p.2 else none)
  | [] => by simp [lk]
  | q :: A => by
    have ih := lk_append k p A
    show lk k (q :: (A ++ [p])) = _
    rw [lk, lk, ih]
    by_cases h : q.1 = k
    · simp [h]
    · simp [h]
/-- one pair more -/
theorem lk_take {T : List KV} (hT : Srt T) (k : Bs) (i : Nat) (hi : i < T.length) :
    lk k (T.take (i + 1)) = if (T.getD i ([], [])).1 = k then some (T.getD i ([], [])).2 else lk k (T.take i) := by
  have e : T.getD i ([], []) = T[i] := by simp [List.getD, hi]
  rw [e, List.take_succ_eq_append_getElem hi, lk_append]
  by_cases h : T[i].1 = k
  · rw [if_pos h, if_pos h, lk_none]
    · rfl
    · intro q hq e'
      obtain ⟨j, hj, rfl⟩ := List.mem_iff_getElem.1 hq
      rw [List.length_take] at hj
      rw [List.getElem_take] at e'
      have := (List.pairwise_iff_getElem.1 (srt_apart hT)) j i (by omega) hi (by omega)
      exact this (e'.trans h.symm)
  · rw [if_neg h, if_neg h, Option.or_none]
/-- the look-up's two answers, as values -/
def fs (o : Option Bs) : Value := .string ⟨(o.getD []).toArray⟩
def fb (o : Option Bs) : Value := .bool o.isSome

def FRel (w w3 : World) (T : List KV) (key : Bs) (vw vb : Value) (i : Nat) (wr : World) : Prop := vw = fs (lk key (T.take i)) ∧ vb = fb (lk key (T.take i)) ∧ Below w.heap.size w wr ∧ Below w3.heap.size w3 wr

set_option maxHeartbeats 2000000 in
theorem foundlaw_any (ao : Option Addr) (len cap : Nat) (qs : List KV) (s : ByteArray) (w : World) (hm : len ≤ 1048576) (hz : sz qs ≤ 1048576) (hs : s.size ≤ 1048576) (hr : QRd w w.heap.size ao len qs) (hT : Lib.Utf8Tabs 1 2 w) :
    Calls Tryd.prog 11 #[.slice ao len cap, .string s] w (Yes w) := by
  have h3 := tabs_lt hT
  have HT := Lib.hid hT
  have HR := Lib.hid hr
  have e1 := hr.1
  clear hT hr
  subst e1
  by_cases hs1 : (qs.length : Int) ≤ 1000
  · have d1 : decide ((qs.length : Int) ≤ 1000) = true := decide_eq_true hs1
    have l1 := tbl_ln qs
    obtain ⟨key, hkey⟩ : ∃ key : Bs, s = ⟨key.toArray⟩ := ⟨s.data.toList, by cases s; simp⟩
    have hkl : key.length ≤ 1048576 := by rw [hkey] at hs; simpa [ByteArray.size] using hs
    have HFD := Lib.hid (found_any ao _ cap qs key w hm hz hkl HR.out)
    rw [← hkey] at HFD
    have HKEY := Lib.hid hkey
    clear hkey
    go_enter Tryd.func11, Tryd.ntmps11
    go_wp2_with (go_at_call 22; refine (small_any _ _ _ _).mono ?_; rintro e w' ⟨rfl, rfl⟩)
    refine HFD.out.mono ?_
    rintro e w1 ⟨rfl, hb1⟩
    have s1 := hb1.size
    have HB1 := Lib.hid hb1
    clear hb1 d1 HFD
    generalize hvs : (⟨((lk key (tbl qs)).getD []).toArray⟩ : ByteArray) = vs at *
    generalize hvb : (lk key (tbl qs)).isSome = vb at *
    have HV := Lib.hid (And.intro hvs hvb)
    clear hvs hvb
    go_wp2_with fail
    refine (pairs_any _ _ _ qs w1 hm ((HR.out.below HB1.out).more s1)).mono ?_
    rintro e w2 ⟨v2, rfl, own2, hb2⟩
    obtain ⟨a2, c2, rfl, rd2⟩ := own_rd own2
    have s2 := hb2.size
    have HB2 := Lib.hid (HB1.out.trans (hb2.mono s1))
    have HC2 := Lib.hid (tbl_any a2 _ c2 qs w2 (by omega) rd2)
    clear own2 rd2 hb2
    go_wp2_with fail
    refine HC2.out.mono ?_
    rintro e w3 ⟨v3, rfl, own3, hb3⟩
    have s3 := hb3.size
    have HB3 := Lib.hid (HB2.out.trans (hb3.mono (by omega)))
    obtain ⟨ta, tc, rfl, trd⟩ := own_rd own3
    have HRT := Lib.hid trd
    have HSR := Lib.hid (srt_tbl qs)
    clear own3 hb3 HC2 trd
    generalize tbl qs = T at *
    go_wp2_with fail
    go_loopw [7, 8, 25] (fun vw vi i wr => ∃ k : Nat, i = .int .i64 k ∧ k ≤ T.length ∧ Hid (FRel w w3 T key vw vi k wr)) (fun _ _ i _ => T.length - (intOf i).toNat)
    case atStart => exact ⟨0, rfl, Nat.zero_le _, rfl, rfl, HB3.out, Below.refl _ _⟩
    case round =>
      obtain ⟨k, rfl, hk, HS⟩ := hrel
      by_cases hlt : k < T.length
      · obtain ⟨b1, o1, rfl, _, g1⟩ := (HRT.out.below HS.out.2.2.2).2 (by omega)
        obtain ⟨t1, t2⟩ := g1 k hlt
        unfold sv at t1 t2
        have n1 : (k : Int) < T.length := by omega
        have hst := lk_take HSR.out key k hlt
        have hq := same_eq (T.getD k ([], [])).1 key
        rw [← HKEY.out] at hq
        clear g1
        generalize (T.getD k ([], [])).1 = p1 at *
        generalize (T.getD k ([], [])).2 = p2 at *
        have z4 := HS.out.2.2.1.size
        have z5 := HS.out.2.2.2.size
        by_cases hpk : p1 = key
        · rw [decide_eq_true hpk] at hq
          rw [if_pos hpk] at hst
          have HF : Hid (FRel w w3 T key (.string ⟨p2.toArray⟩) (.bool true) (k + 1) (wr.alloc (.cells #[.string ⟨p1.toArray⟩, .string ⟨p2.toArray⟩] 52))) :=
            ⟨by rw [hst]; rfl, by rw [hst]; rfl, HS.out.2.2.1.alloc z4 _, HS.out.2.2.2.alloc z5 _⟩
          generalize (⟨p1.toArray⟩ : ByteArray) = sp1 at *
          generalize (⟨p2.toArray⟩ : ByteArray) = sp2 at *
          clear hst HS hpk
          go_wp2
          go_roundw
          case rel => exact ⟨k + 1, by go_num, by omega, HF⟩
          case measure => simp [intOf]; omega
        · rw [decide_eq_false hpk] at hq
          rw [if_neg hpk] at hst
          have HF : Hid (FRel w w3 T key u7 u8 (k + 1) (wr.alloc (.cells #[.string ⟨p1.toArray⟩, .string ⟨p2.toArray⟩] 52))) :=
            ⟨by rw [hst]; exact HS.out.1, by rw [hst]; exact HS.out.2.1, HS.out.2.2.1.alloc z4 _, HS.out.2.2.2.alloc z5 _⟩
          generalize (⟨p1.toArray⟩ : ByteArray) = sp1 at *
          generalize (⟨p2.toArray⟩ : ByteArray) = sp2 at *
          clear hst HS hpk
          go_wp2
          go_roundw
          case rel => exact ⟨k + 1, by go_num, by omega, HF⟩
          case measure => simp [intOf]; omega
      · obtain rfl : k = T.length := by omega
        obtain ⟨q1, q2, q3, q4⟩ := HS.out
        rw [List.take_of_length_le (Nat.le_refl _)] at q1 q2
        obtain ⟨w1e, w2e⟩ := HV.out
        have q1' : u7 = .string vs := by rw [q1, ← w1e]; rfl
        have q2' : u8 = .bool vb := by rw [q2, ← w2e]; rfl
        have sz4 := q3.size
        have HQ := Lib.hid (And.intro q3 (tabs_below HT.out q3 (by omega)))
        clear q1 q2 q3 q4 w1e w2e HV HS
        subst q1' q2'
        go_wp2_with fail
        refine (wakes_any _ HQ.out.2).mono ?_
        rintro e w5 ⟨rfl, hb5⟩
        have HB5 := Lib.hid (HQ.out.1.trans (hb5.mono sz4))
        clear hb5
        go_wp2
        go_ret
        exact ⟨rfl, HB5.out⟩
  · have d1 : decide ((qs.length : Int) ≤ 1000) = false := decide_eq_false hs1
    go_enter Tryd.func11, Tryd.ntmps11
    go_wp2_with (first | (go_at_call 22; refine (small_any _ _ _ _).mono ?_; rintro e w' ⟨rfl, rfl⟩) | (go_at_call 13; refine (wakes_any w HT.out).mono ?_; rintro e w2 ⟨rfl, hb2⟩))
    go_ret
    exact ⟨rfl, hb2⟩
end Go.Proofs.YtfndlifolohlgaaDoor
