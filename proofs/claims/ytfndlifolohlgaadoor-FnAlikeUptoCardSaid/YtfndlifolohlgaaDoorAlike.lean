/-
  The walk of laws.FnAlike: it returns true for every two lists of pairs; what lay below stays.
  Conditions: each slice reads as its pairs and lies below the heap's size; at most 2^20 pairs and 2^20 bytes each; the two tables of unicode/utf8 hold what the program's text lays.
-/
import Derived.Test.YtfndlifolohlgaaDoorKvI
namespace Go.Proofs.YtfndlifolohlgaaDoor
open Go Go.RowKit Go.Maps Kv
set_option maxRecDepth 100000

theorem own_below {w w' : World} {base e size n : Nat} {v : Value} {xs : List Value} (h : w.ownsRow base e size v n xs) (hb : Below w.heap.size w w') : w'.ownsRow base e size v n xs :=
  h.kept (gb_below hb (g := none)) (by
    rcases h.2 with ⟨hv, _⟩ | ⟨g, cap, cur, hv, _⟩
    · exact .inl (by rw [hv]; rfl)
    · exact .inr (by rw [hv]; simp [Value.ownBlock]))
theorem own_mono {w : World} {base base' e size n : Nat} {v : Value} {xs : List Value} (h : w.ownsRow base e size v n xs) (hb : base' ≤ base) : w.ownsRow base' e size v n xs := by
  refine ⟨h.1, ?_⟩
  rcases h.2 with h0 | ⟨g, cap, cur, hv, h1, r⟩
  · exact .inl h0
  · exact .inr ⟨g, cap, cur, hv, Nat.le_trans hb h1, r⟩
/-- pairs, then Table -/
theorem tblpairs {v : Value} {w w1 : World} {qs : List KV} (h : w1.ownsRow w.heap.size 52 2 v qs.length (kvCells qs)) : ∃ ao cap, v = .slice ao qs.length cap ∧ QRd w1 w1.heap.size ao qs.length qs := own_rd h

theorem info53 : (Tryd.prog.info? 53).map (fun i => (i.zero, i.size, i.bytes)) = some (some (.agg #[.string ⟨#[]⟩, .string ⟨#[]⟩]), 2, 32) := by kernel_rfl
def BackRel (w w5 : World) (g : Nat) (T : List KV) (i : Nat) (wr : World) : Prop :=
  (∃ cs : Array Value, Bk wr g 53 cs ∧ cs.size = T.length * 2 ∧ ∀ j, j < i → cs[(T.length - 1 - j) * 2]? = some (sv (T.getD j ([], [])).1) ∧ cs[(T.length - 1 - j) * 2 + 1]? = some (sv (T.getD j ([], [])).2)) ∧ Below w.heap.size w wr ∧ Below w5.heap.size w5 wr
theorem back_start {w w5 w6 : World} {T : List KV} {xs : List Value} (hb : Below w.heap.size w w5) (h : w6.ownsRow w5.heap.size 53 2 (.slice (some ⟨w5.heap.size, 0, none⟩) T.length T.length) T.length xs) (hg : w5.grownBy w6 none) : BackRel w w5 w5.heap.size T 0 w6 := by
  have hb6 : Below w5.heap.size w5 w6 := (Below.refl _ _).grown hg (Nat.le_refl _) (fun k hk => by cases hk)
  refine ⟨?_, hb.trans (hb6.mono hb.size), hb6⟩
  rcases h.2 with ⟨hv, _⟩ | ⟨g, cap, cur, hv, h0, hh, h1, h2, h3, h4⟩
  · cases hv
  · simp only [Value.slice.injEq, Option.some.injEq, Addr.mk.injEq, and_true, true_and] at hv
    obtain ⟨rfl, rfl⟩ := hv
    exact ⟨cur, hh, h3, fun j hj => by omega⟩
theorem back_step {w w5 wr : World} {g i r : Nat} {T : List KV} (h : BackRel w w5 g T i wr) (hg : w5.heap.size ≤ g) (hw : w.heap.size ≤ w5.heap.size) (hi : i < T.length) (o : Obj) (hr : r = T.length - 1 - i) :
    (∃ y0 y1, (wr.alloc o).cell? ⟨g, r * 2, none⟩ = some y0 ∧ (wr.alloc o).cell? ⟨g, r * 2 + 1, none⟩ = some y1 ∧ (wr.alloc o).frozen? ⟨g, r * 2, none⟩ = false ∧ (wr.alloc o).frozen? ⟨g, r * 2 + 1, none⟩ = false) ∧
    BackRel w w5 g T (i + 1) (((wr.alloc o).setCell ⟨g, r * 2, none⟩ (sv (T.getD i ([], [])).1)).setCell ⟨g, r * 2 + 1, none⟩ (sv (T.getD i ([], [])).2)) := by
  obtain ⟨⟨cs, hbk, hsz, hat⟩, hb, hb5⟩ := h
  have hk := hbk.alloc o
  refine ⟨⟨cs[r * 2]'(by omega), cs[r * 2 + 1]'(by omega), ?_, ?_, hk.free _, hk.free _⟩, ⟨_, (hk.put _ _).put _ _, ?_, fun j hj => ?_⟩, ?_, ?_⟩
  · rw [hk.cell]; exact Array.getElem?_eq_getElem (by omega)
  · rw [hk.cell]; exact Array.getElem?_eq_getElem (by omega)
  · simpa using hsz
  · rcases (show j < i ∨ j = i by omega) with h' | h'
    · have e1 : r * 2 ≠ (T.length - 1 - j) * 2 := by omega
      have e2 : r * 2 + 1 ≠ (T.length - 1 - j) * 2 := by omega
      have e3 : r * 2 ≠ (T.length - 1 - j) * 2 + 1 := by omega
      have e4 : r * 2 + 1 ≠ (T.length - 1 - j) * 2 + 1 := by omega
      have := hat j h'
      rw [Array.getElem?_setIfInBounds_ne e2, Array.getElem?_setIfInBounds_ne e1, Array.getElem?_setIfInBounds_ne e4, Array.getElem?_setIfInBounds_ne e3]
      exact this
    · subst h'
      rw [← hr]
      have e1 : r * 2 < cs.size := by omega
      have e2 : r * 2 + 1 < (cs.setIfInBounds (r * 2) (sv (T.getD j ([], [])).1)).size := by simp; omega
      refine ⟨?_, ?_⟩
      · rw [Array.getElem?_setIfInBounds_ne (by omega), Array.getElem?_setIfInBounds_self_of_lt e1]
      · rw [Array.getElem?_setIfInBounds_self_of_lt e2]
  · exact ((hb.alloc hb.size _).setCell (p := ⟨g, r * 2, none⟩) (Nat.le_trans hw hg) _).setCell (p := ⟨g, r * 2 + 1, none⟩) (Nat.le_trans hw hg) _
  · exact ((hb5.alloc hb5.size _).setCell (p := ⟨g, r * 2, none⟩) hg _).setCell (p := ⟨g, r * 2 + 1, none⟩) hg _
theorem back_end {w w5 wr : World} {g : Nat} {T : List KV} (h : BackRel w w5 g T T.length wr) : QRd wr wr.heap.size (some ⟨g, 0, none⟩) T.length T.reverse := by
  obtain ⟨⟨cs, hbk, hsz, hat⟩, _, _⟩ := h
  refine ⟨by simp, fun _ => ⟨g, 0, rfl, hbk.lt, fun k hk => ?_⟩⟩
  have h1 := hat (T.length - 1 - k) (by omega)
  rw [show T.length - 1 - (T.length - 1 - k) = k by omega] at h1
  have e : T.reverse.getD k ([], []) = T.getD (T.length - 1 - k) ([], []) := by
    unfold List.getD
    rw [List.getElem?_reverse hk]
  rw [e, Nat.zero_add, hbk.cell, hbk.cell]
  exact h1
theorem kv_ext {T U : List KV} (h : T.length = U.length) (he : ∀ j, j < T.length → T.getD j ([], []) = U.getD j ([], [])) : T = U := by
  refine List.ext_getElem h fun j h1 h2 => ?_
  have := he j h1
  simpa [List.getD, h1, h2] using this
set_option maxHeartbeats 4000000 in
theorem alikelaw_any (ao1 ao2 : Option Addr) (len1 cap1 len2 cap2 : Nat) (q1 q2 : List KV) (w : World) (h1 : len1 ≤ 1048576) (h2 : len2 ≤ 1048576) (z1 : sz q1 ≤ 1048576) (z2 : sz q2 ≤ 1048576)
    (r1 : QRd w w.heap.size ao1 len1 q1) (r2 : QRd w w.heap.size ao2 len2 q2) (hT : Lib.Utf8Tabs 1 2 w) :
    Calls Tryd.prog 9 #[.slice ao1 len1 cap1, .slice ao2 len2 cap2] w (Yes w) := by
  have h3 := tabs_lt hT
  obtain ⟨i3, hi3, hz03, hz13, hz23⟩ := info_parts info53
  have HT := Lib.hid hT
  have HR := Lib.hid (And.intro r1 r2)
  have e1 := r1.1
  have e2 := r2.1
  clear hT r1 r2
  subst e1 e2
  by_cases hs1 : (q1.length : Int) ≤ 1000
  · by_cases hs2 : (q2.length : Int) ≤ 1000
    · have d1 : decide ((q1.length : Int) ≤ 1000) = true := decide_eq_true hs1
      have d2 : decide ((q2.length : Int) ≤ 1000) = true := decide_eq_true hs2
      go_enter Tryd.func9, Tryd.ntmps9
      go_wp2_with (go_at_call 22; refine (small_any _ _ _ _).mono ?_; rintro e w' ⟨rfl, rfl⟩)
      refine (pairs_any _ _ _ q1 w h1 HR.out.1).mono ?_
      rintro e w1 ⟨v1, rfl, own1, hb1⟩
      obtain ⟨a1, c1, rfl, rd1⟩ := own_rd own1
      have s1 := hb1.size
      have HB1 := Lib.hid hb1
      have HC1 := Lib.hid (tbl_any a1 _ c1 q1 w1 (by omega) rd1)
      clear own1 rd1 hb1 d1 d2
      go_wp2_with fail
      refine HC1.out.mono ?_
      rintro e w2 ⟨v2, rfl, own2, hb2⟩
      have s2 := hb2.size
      have HB2 := Lib.hid (HB1.out.trans (hb2.mono s1))
      have HO2 := Lib.hid (own_mono own2 s1)
      clear hb2 own2 HC1
      go_wp2_with fail
      refine (pairs_any _ _ _ q2 w2 h2 ((HR.out.2.below HB2.out).more (by omega))).mono ?_
      rintro e w3 ⟨v3, rfl, own3, hb3⟩
      obtain ⟨a3, c3, rfl, rd3⟩ := own_rd own3
      have s3 := hb3.size
      have HB3 := Lib.hid (HB2.out.trans (hb3.mono (by omega)))
      have HO3 := Lib.hid (own_below HO2.out hb3)
      have HC3 := Lib.hid (tbl_any a3 _ c3 q2 w3 (by omega) rd3)
      clear own3 rd3 hb3
      go_wp2_with fail
      refine HC3.out.mono ?_
      rintro e w4 ⟨v4, rfl, own4, hb4⟩
      have s4 := hb4.size
      have HB4 := Lib.hid (HB3.out.trans (hb4.mono (by omega)))
      have HO4 := Lib.hid (And.intro (own_below HO3.out hb4) (own_mono own4 (show w.heap.size ≤ w3.heap.size by omega)))
      clear own4 hb4 HC3
      obtain ⟨ta, tc, rfl, trd⟩ := own_rd HO4.out.1
      obtain ⟨ua, uc, rfl, urd⟩ := own_rd HO4.out.2
      have HRT := Lib.hid (And.intro trd urd)
      have lT := tbl_ln q1
      have lU := tbl_ln q2
      clear trd urd
      have hst : ((((tbl q1).length : Nat) : Int) == ((tbl q2).length : Nat)) = decide ((tbl q1).length = (tbl q2).length) := by
        rw [Bool.eq_iff_iff]; simp; omega
      have HST := Lib.hid hst
      clear hst
      generalize hT : tbl q1 = T at *
      generalize hU : tbl q2 = U at *
      have HTU := Lib.hid (And.intro hT hU)
      clear hT hU
      go_wp2_with fail
      go_loopw [7, 8] (fun vw vi wr => ∃ (i nq : Nat) (bw : Bool), vw = .bool bw ∧ vi = .int .i64 i ∧ wr = w4.drewN nq ∧ i ≤ T.length ∧ Hid (bw = true ↔ T.length = U.length ∧ ∀ j, j < i → T.getD j ([], []) = U.getD j ([], []))) (fun _ vi _ => T.length - (intOf vi).toNat)
      case atStart =>
        refine ⟨0, 0, _, rfl, rfl, rfl, Nat.zero_le _, ?_⟩
        show _ ↔ _
        rw [HST.out]
        simp
      case round =>
        obtain ⟨i, nq, bw, rfl, rfl, rfl, hi, HW⟩ := hrel
        cases bw with
        | false =>
          have HWD : Hid (false = decide (T = U)) := by
            show _ = _
            rw [eq_comm, decide_eq_false_iff_not]
            intro h
            have := HW.out.2 ⟨by rw [h], fun j _ => by rw [h]⟩
            cases this
          generalize hw5 : World.drewN w4 nq = w5
          have hrd5 : QRd w5 w5.heap.size ta T.length T := by rw [← hw5]; exact HRT.out.1
          have hbl5 : Below w.heap.size w w5 := by rw [← hw5]; exact below_dN HB4.out _
          have s5 := hbl5.size
          have H5 := Lib.hid (And.intro hrd5 hbl5)
          clear hw5 hrd5 hbl5 HW HO4 HRT
          go_wp2_with (at_make; refine wpList_make_full _ rfl _ _ 46 rfl w5.heap.size 53 i3 (.agg #[.string ⟨#[]⟩, .string ⟨#[]⟩]) 2 Tryd.underlying46 hi3 hz03 hz13 _ _ _ _ T.length rfl rfl rfl rfl (by rw [hz23]; omega) (by unfold maxLen; omega) (Nat.le_refl _) ?_; intro w6 hrow6 hg6)
          have HBK : Hid (BackRel w w5 w5.heap.size T 0 w6) := back_start H5.out.2 hrow6 hg6
          clear hrow6 hg6
          generalize hg : w5.heap.size = g at *
          have HG := Lib.hid hg
          clear hg
          go_loopw [55] (fun vi wr => ∃ i : Nat, vi = .int .i64 i ∧ i ≤ T.length ∧ Hid (BackRel w w5 g T i wr)) (fun vi _ => T.length - (intOf vi).toNat)
          case atStart => exact ⟨0, rfl, Nat.zero_le _, HBK.out⟩
          case round =>
            clear HBK
            obtain ⟨i, rfl, hi, HS⟩ := hrel
            by_cases hlt : i < T.length
            · obtain ⟨b1, o1, rfl, _, g1⟩ := ((HG.out ▸ H5.out.1 : QRd w5 g ta T.length T).below (HG.out ▸ HS.out.2.2)).2 (by omega)
              obtain ⟨t1, t2⟩ := g1 i hlt
              unfold sv at t1 t2
              have n1 : (i : Int) < T.length := by omega
              obtain ⟨r, hr⟩ : ∃ r, r = T.length - 1 - i := ⟨_, rfl⟩
              have HST := Lib.hid (back_step HS.out (HG.out ▸ Nat.le_refl _) (by have := HG.out; omega) hlt (.cells #[sv (T.getD i ([], [])).1, sv (T.getD i ([], [])).2] 52) hr)
              have x1 : IntKind.i64.wrap ((T.length : Int) - 1) = (T.length : Int) - 1 := IntWalk.i64_in _ (by omega)
              have x2 : IntKind.i64.wrap ((T.length : Int) - 1 - i) = (r : Int) := by rw [IntWalk.i64_in _ (by omega)]; omega
              have n3 : (r : Int) < T.length := by omega
              obtain ⟨y0, y1, q0, q1', q2', q3'⟩ := HST.out.1
              have HNX := Lib.hid HST.out.2
              unfold sv at q0 q1' q2' q3' HNX
              generalize (⟨(T.getD i ([], [])).1.toArray⟩ : ByteArray) = sx at *
              generalize (⟨(T.getD i ([], [])).2.toArray⟩ : ByteArray) = sy at *
              clear g1 HS HST hr
              go_wp2
              go_roundw
              case rel => exact ⟨i + 1, by go_num, by omega, HNX.out⟩
              case measure => simp [intOf]; omega
            · obtain rfl : i = T.length := by omega
              have sr := HS.out.2.1.size
              have hTr := tabs_below HT.out HS.out.2.1 (by omega)
              have hrv : tbl T.reverse = T := tbl_perm (HTU.out.1 ▸ srt_tbl q1) (List.reverse_perm T)
              have hsr : sz T.reverse ≤ 1048576 := by
                have e1 : sz T.reverse = sz T := by unfold sz; rw [List.map_reverse, List.sum_reverse]
                have e2 := tbl_sz q1
                rw [HTU.out.1] at e2
                omega
              have HC7 : Hid (Calls Tryd.prog 25 #[.slice ao1 q1.length cap1, .slice ao2 q2.length cap2] wr fun e w' => e = .returned (.bool false) ∧ Below wr.heap.size wr w') :=
                (alike_any ao1 ao2 _ cap1 _ cap2 q1 q2 wr h1 h2 z1 z2 ((HR.out.1.below HS.out.2.1).more sr) ((HR.out.2.below HS.out.2.1).more sr)).mono (fun e w' ⟨he, hb⟩ => ⟨by rw [he, HTU.out.1, HTU.out.2, ← HWD.out], hb⟩)
              have HC8 : Hid (∀ w7, Below wr.heap.size wr w7 → Calls Tryd.prog 25 #[.slice ao1 q1.length cap1, .slice (some ⟨g, 0, none⟩) T.length T.length] w7 fun e w' => e = .returned (.bool true) ∧ Below w7.heap.size w7 w') := fun w7 hb7 =>
                (alike_any ao1 _ _ cap1 _ T.length q1 T.reverse w7 h1 (by omega) z1 hsr (((HR.out.1.below HS.out.2.1).more sr).below hb7 |>.more hb7.size) ((back_end HS.out).below hb7 |>.more hb7.size)).mono (fun e w' ⟨he, hb⟩ => ⟨by rw [he, HTU.out.1, hrv, decide_eq_true rfl], hb⟩)
              have HBR := Lib.hid (And.intro HS.out.2.1 hTr)
              clear hTr hrv hsr HS
              go_wp2_with fail
              refine HC7.out.mono ?_
              rintro e w7 ⟨rfl, hb7⟩
              have s7 := hb7.size
              have HC9 := Lib.hid (HC8.out w7 hb7)
              have HB7 := Lib.hid (And.intro (HBR.out.1.trans (hb7.mono sr)) (tabs_below HBR.out.2 hb7 (by omega)))
              clear HC7 HC8 hb7 HBR
              go_wp2_with fail
              refine HC9.out.mono ?_
              rintro e w8 ⟨rfl, hb8⟩
              have s8 := hb8.size
              have HB8 := Lib.hid (And.intro (HB7.out.1.trans (hb8.mono (by omega))) (tabs_below HB7.out.2 hb8 (by omega)))
              clear HC9 hb8 HB7
              go_wp2_with fail
              refine (wakes_any w8 HB8.out.2).mono ?_
              rintro e w9 ⟨rfl, hb9⟩
              have HB9 := Lib.hid (HB8.out.1.trans (hb9.mono (by omega)))
              clear hb9
              go_wp2
              go_ret
              exact ⟨rfl, HB9.out⟩
        | true =>
          by_cases hlt : i < T.length
          · have hlU := (HW.out.1 (by simp)).1
            obtain ⟨b1, o1, rfl, _, g1⟩ := HRT.out.1.2 (by omega)
            obtain ⟨b2, o2, rfl, _, g2⟩ := HRT.out.2.2 (by omega)
            obtain ⟨t1, t2⟩ := g1 i hlt
            obtain ⟨t3, t4⟩ := g2 i (by omega)
            unfold sv at t1 t2 t3 t4
            have n1 : (i : Int) < T.length := by omega
            have n2 : (i : Int) < U.length := by omega
            clear g1 g2 hlU
            by_cases hpq : T.getD i ([], []) = U.getD i ([], [])
            · rw [← hpq] at t3 t4
              generalize (⟨(T.getD i ([], [])).1.toArray⟩ : ByteArray) = sx at *
              generalize (⟨(T.getD i ([], [])).2.toArray⟩ : ByteArray) = sy at *
              have HPQ := Lib.hid hpq
              clear hpq
              go_wp2_with fail
              go_quiet (fail)
              clear t1 t2 t3 t4
              go_wp2
              go_roundw
              case rel =>
                refine ⟨i + 1, _, true, rfl, by go_num, rfl, by omega, ?_⟩
                show _ ↔ _
                refine ⟨fun _ => ⟨(HW.out.1 (by simp)).1, fun j hj => ?_⟩, fun _ => rfl⟩
                rcases (show j < i ∨ j = i by omega) with h | h
                · exact (HW.out.1 (by simp)).2 j h
                · rw [h]; exact HPQ.out
              case measure => simp [intOf]; omega
            · have hne : (T.getD i ([], [])).1 ≠ (U.getD i ([], [])).1 ∨ ((T.getD i ([], [])).1 = (U.getD i ([], [])).1 ∧ (T.getD i ([], [])).2 ≠ (U.getD i ([], [])).2) := by
                rcases Decidable.em ((T.getD i ([], [])).1 = (U.getD i ([], [])).1) with h | h
                · exact .inr ⟨h, fun h' => hpq (Prod.ext h h')⟩
                · exact .inl h
              have HPQ := Lib.hid hpq
              clear hpq
              rcases hne with hk | ⟨hk, hv⟩
              · have hk' : ¬ (⟨(T.getD i ([], [])).1.toArray⟩ : ByteArray) = ⟨(U.getD i ([], [])).1.toArray⟩ := fun e => hk (by injection e with e; simpa using e)
                have hk2 := same_eq (T.getD i ([], [])).1 (U.getD i ([], [])).1
                rw [decide_eq_false hk] at hk2
                clear hk
                generalize (⟨(T.getD i ([], [])).1.toArray⟩ : ByteArray) = sx at *
                generalize (⟨(T.getD i ([], [])).2.toArray⟩ : ByteArray) = sy at *
                generalize (⟨(U.getD i ([], [])).1.toArray⟩ : ByteArray) = sx' at *
                generalize (⟨(U.getD i ([], [])).2.toArray⟩ : ByteArray) = sy' at *
                go_wp2_with fail
                go_quiet (fail)
                clear t1 t2 t3 t4 hk' hk2
                go_wp2
                go_roundw
                case rel =>
                  refine ⟨i + 1, _, false, rfl, by go_num, rfl, by omega, ?_⟩
                  show _ ↔ _
                  exact ⟨(fun h => by cases h), fun h => absurd (h.2 i (by omega)) HPQ.out⟩
                case measure => simp [intOf]; omega
              · have hv' : ¬ (⟨(T.getD i ([], [])).2.toArray⟩ : ByteArray) = ⟨(U.getD i ([], [])).2.toArray⟩ := fun e => hv (by injection e with e; simpa using e)
                have hv2 := same_eq (T.getD i ([], [])).2 (U.getD i ([], [])).2
                rw [decide_eq_false hv] at hv2
                rw [← hk] at t3
                clear hk hv
                generalize (⟨(T.getD i ([], [])).1.toArray⟩ : ByteArray) = sx at *
                generalize (⟨(T.getD i ([], [])).2.toArray⟩ : ByteArray) = sy at *
                generalize (⟨(U.getD i ([], [])).2.toArray⟩ : ByteArray) = sy' at *
                go_wp2_with fail
                go_quiet (fail)
                clear t1 t2 t3 t4 hv' hv2
                go_wp2
                go_roundw
                case rel =>
                  refine ⟨i + 1, _, false, rfl, by go_num, rfl, by omega, ?_⟩
                  show _ ↔ _
                  exact ⟨(fun h => by cases h), fun h => absurd (h.2 i (by omega)) HPQ.out⟩
                case measure => simp [intOf]; omega
          · have HWD : Hid (true = decide (T = U)) := by
              show _ = _
              rw [eq_comm, decide_eq_true_iff]
              have h := HW.out.1 (by simp)
              exact kv_ext h.1 (fun j hj => h.2 j (by omega))
            generalize hw5 : World.drewN w4 nq = w5
            have hrd5 : QRd w5 w5.heap.size ta T.length T := by rw [← hw5]; exact HRT.out.1
            have hbl5 : Below w.heap.size w w5 := by rw [← hw5]; exact below_dN HB4.out _
            have s5 := hbl5.size
            have H5 := Lib.hid (And.intro hrd5 hbl5)
            clear hw5 hrd5 hbl5 HW HO4 HRT
            go_wp2_with (at_make; refine wpList_make_full _ rfl _ _ 46 rfl w5.heap.size 53 i3 (.agg #[.string ⟨#[]⟩, .string ⟨#[]⟩]) 2 Tryd.underlying46 hi3 hz03 hz13 _ _ _ _ T.length rfl rfl rfl rfl (by rw [hz23]; omega) (by unfold maxLen; omega) (Nat.le_refl _) ?_; intro w6 hrow6 hg6)
            have HBK : Hid (BackRel w w5 w5.heap.size T 0 w6) := back_start H5.out.2 hrow6 hg6
            clear hrow6 hg6
            generalize hg : w5.heap.size = g at *
            have HG := Lib.hid hg
            clear hg
            go_loopw [55] (fun vi wr => ∃ i : Nat, vi = .int .i64 i ∧ i ≤ T.length ∧ Hid (BackRel w w5 g T i wr)) (fun vi _ => T.length - (intOf vi).toNat)
            case atStart => exact ⟨0, rfl, Nat.zero_le _, HBK.out⟩
            case round =>
              clear HBK
              obtain ⟨i, rfl, hi, HS⟩ := hrel
              by_cases hlt : i < T.length
              · obtain ⟨b1, o1, rfl, _, g1⟩ := ((HG.out ▸ H5.out.1 : QRd w5 g ta T.length T).below (HG.out ▸ HS.out.2.2)).2 (by omega)
                obtain ⟨t1, t2⟩ := g1 i hlt
                unfold sv at t1 t2
                have n1 : (i : Int) < T.length := by omega
                obtain ⟨r, hr⟩ : ∃ r, r = T.length - 1 - i := ⟨_, rfl⟩
                have HST := Lib.hid (back_step HS.out (HG.out ▸ Nat.le_refl _) (by have := HG.out; omega) hlt (.cells #[sv (T.getD i ([], [])).1, sv (T.getD i ([], [])).2] 52) hr)
                have x1 : IntKind.i64.wrap ((T.length : Int) - 1) = (T.length : Int) - 1 := IntWalk.i64_in _ (by omega)
                have x2 : IntKind.i64.wrap ((T.length : Int) - 1 - i) = (r : Int) := by rw [IntWalk.i64_in _ (by omega)]; omega
                have n3 : (r : Int) < T.length := by omega
                obtain ⟨y0, y1, q0, q1', q2', q3'⟩ := HST.out.1
                have HNX := Lib.hid HST.out.2
                unfold sv at q0 q1' q2' q3' HNX
                generalize (⟨(T.getD i ([], [])).1.toArray⟩ : ByteArray) = sx at *
                generalize (⟨(T.getD i ([], [])).2.toArray⟩ : ByteArray) = sy at *
                clear g1 HS HST hr
                go_wp2
                go_roundw
                case rel => exact ⟨i + 1, by go_num, by omega, HNX.out⟩
                case measure => simp [intOf]; omega
              · obtain rfl : i = T.length := by omega
                have sr := HS.out.2.1.size
                have hTr := tabs_below HT.out HS.out.2.1 (by omega)
                have hrv : tbl T.reverse = T := tbl_perm (HTU.out.1 ▸ srt_tbl q1) (List.reverse_perm T)
                have hsr : sz T.reverse ≤ 1048576 := by
                  have e1 : sz T.reverse = sz T := by unfold sz; rw [List.map_reverse, List.sum_reverse]
                  have e2 := tbl_sz q1
                  rw [HTU.out.1] at e2
                  omega
                have HC7 : Hid (Calls Tryd.prog 25 #[.slice ao1 q1.length cap1, .slice ao2 q2.length cap2] wr fun e w' => e = .returned (.bool true) ∧ Below wr.heap.size wr w') :=
                  (alike_any ao1 ao2 _ cap1 _ cap2 q1 q2 wr h1 h2 z1 z2 ((HR.out.1.below HS.out.2.1).more sr) ((HR.out.2.below HS.out.2.1).more sr)).mono (fun e w' ⟨he, hb⟩ => ⟨by rw [he, HTU.out.1, HTU.out.2, ← HWD.out], hb⟩)
                have HC8 : Hid (∀ w7, Below wr.heap.size wr w7 → Calls Tryd.prog 25 #[.slice ao1 q1.length cap1, .slice (some ⟨g, 0, none⟩) T.length T.length] w7 fun e w' => e = .returned (.bool true) ∧ Below w7.heap.size w7 w') := fun w7 hb7 =>
                  (alike_any ao1 _ _ cap1 _ T.length q1 T.reverse w7 h1 (by omega) z1 hsr (((HR.out.1.below HS.out.2.1).more sr).below hb7 |>.more hb7.size) ((back_end HS.out).below hb7 |>.more hb7.size)).mono (fun e w' ⟨he, hb⟩ => ⟨by rw [he, HTU.out.1, hrv, decide_eq_true rfl], hb⟩)
                have HBR := Lib.hid (And.intro HS.out.2.1 hTr)
                clear hTr hrv hsr HS
                go_wp2_with fail
                refine HC7.out.mono ?_
                rintro e w7 ⟨rfl, hb7⟩
                have s7 := hb7.size
                have HC9 := Lib.hid (HC8.out w7 hb7)
                have HB7 := Lib.hid (And.intro (HBR.out.1.trans (hb7.mono sr)) (tabs_below HBR.out.2 hb7 (by omega)))
                clear HC7 HC8 hb7 HBR
                go_wp2_with fail
                refine HC9.out.mono ?_
                rintro e w8 ⟨rfl, hb8⟩
                have s8 := hb8.size
                have HB8 := Lib.hid (And.intro (HB7.out.1.trans (hb8.mono (by omega))) (tabs_below HB7.out.2 hb8 (by omega)))
                clear HC9 hb8 HB7
                go_wp2_with fail
                refine (wakes_any w8 HB8.out.2).mono ?_
                rintro e w9 ⟨rfl, hb9⟩
                have HB9 := Lib.hid (HB8.out.1.trans (hb9.mono (by omega)))
                clear hb9
                go_wp2
                go_ret
                exact ⟨rfl, HB9.out⟩
    · have d1 : decide ((q1.length : Int) ≤ 1000) = true := decide_eq_true hs1
      have d2 : decide ((q2.length : Int) ≤ 1000) = false := decide_eq_false hs2
      go_enter Tryd.func9, Tryd.ntmps9
      go_wp2_with (first | (go_at_call 22; refine (small_any _ _ _ _).mono ?_; rintro e w' ⟨rfl, rfl⟩) | (go_at_call 13; refine (wakes_any w HT.out).mono ?_; rintro e w2 ⟨rfl, hb2⟩))
      go_ret
      exact ⟨rfl, hb2⟩
  · have d1 : decide ((q1.length : Int) ≤ 1000) = false := decide_eq_false hs1
    go_enter Tryd.func9, Tryd.ntmps9
    go_wp2_with (first | (go_at_call 22; refine (small_any _ _ _ _).mono ?_; rintro e w' ⟨rfl, rfl⟩) | (go_at_call 13; refine (wakes_any w HT.out).mono ?_; rintro e w2 ⟨rfl, hb2⟩))
    go_ret
    exact ⟨rfl, hb2⟩
end Go.Proofs.YtfndlifolohlgaaDoor
