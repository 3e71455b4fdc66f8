/-
  The walk of laws.FnTrackersForgetNothing: it returns true for every text and every list of pieces; what lay below stays.
  Conditions: the text is no longer than 2^47 bytes; at most 2^20 pieces; the slice reads as the pieces ps; the two tables of unicode/utf8 hold what the program's text lays.
-/
import Derived.Test.YtfndlifolohlgaaDoorSpotsLaw
namespace Go.Proofs.YtfndlifolohlgaaDoor
open Go Go.RowKit Ln
set_option maxRecDepth 100000

set_option maxHeartbeats 1600000 in
theorem tracklaw_none (s : ByteArray) (ao : Option Addr) (cap : Nat) (w : World) (hs : s.size ≤ 140737488355328) (hr : PcRd w w.heap.size ao 0 []) (hT : Lib.Utf8Tabs 1 2 w) :
    Calls Tryd.prog 5 #[.string s, .slice ao 0 cap] w (Yes w) := by
  have h3 := tabs_lt hT
  have HA := Lib.hid (all_any s ao 0 cap [] w hs (by omega) hr)
  have HT := Lib.hid hT
  have HR := Lib.hid hr
  clear hT hr
  go_enter Tryd.func5, Tryd.ntmps5
  go_wp2_with fail
  refine HA.out.mono ?_
  rintro e w1 ⟨bb, HB, rfl, hb1⟩
  have hz1 := hb1.size
  have HB1 := Lib.hid (And.intro hb1 (And.intro (tabs_below HT.out hb1 (by omega)) (HR.out.below hb1)))
  clear HA HT HR hb1
  cases bb with
  | false =>
    go_wp2_with fail
    refine (wakes_any w1 HB1.out.2.1).mono ?_
    rintro e w2 ⟨rfl, hb2⟩
    have HB2 := Lib.hid (HB1.out.1.trans (hb2.mono (by omega)))
    clear hb2
    go_wp2
    go_ret
    exact ⟨rfl, HB2.out⟩
  | true =>
    go_wp2_with fail
    refine (spots_any s ao 0 cap [] w1 (by omega) (HB.out trivial) HB1.out.2.1 (HB1.out.2.2.more hz1)).mono ?_
    rintro e w2 ⟨v, rfl, hown, hb2⟩
    have hz2 := hb2.size
    have hT2 := tabs_below HB1.out.2.1 hb2 (by omega)
    have HB2 := Lib.hid (And.intro (HB1.out.1.trans (hb2.mono (by omega))) hT2)
    have hv := hown.2
    rcases hv with ⟨rfl, _⟩ | ⟨g', cap', cur, rfl, _, hh, _⟩
    all_goals
      clear hown hb2 hT2 HB
      go_wp2_with fail
      refine wp_loop_rounds 1 ?_
      rw [rounds_succ]
      go_wp2_with fail
      refine (wakes_any w2 HB2.out.2).mono ?_
      rintro e w3 ⟨rfl, hb3⟩
      have HB3 := Lib.hid (HB2.out.1.trans (hb3.mono (by omega)))
      clear hb3
      go_wp2
      go_ret
      exact ⟨rfl, HB3.out⟩


set_option maxHeartbeats 4000000 in
theorem tracklaw_some (s : ByteArray) (b off len cap : Nat) (ps : List (Int × Int)) (w : World) (hs : s.size ≤ 140737488355328) (hl : 0 < len) (hm : len ≤ 1048576)
    (hr : PcRd w w.heap.size (some ⟨b, off, none⟩) len ps) (hT : Lib.Utf8Tabs 1 2 w) :
    Calls Tryd.prog 5 #[.string s, .slice (some ⟨b, off, none⟩) len cap] w (Yes w) := by
  have h3 := tabs_lt hT
  have HA := Lib.hid (all_any s _ len cap ps w hs (by omega) hr)
  have HT := Lib.hid hT
  have HR := Lib.hid hr
  clear hT hr
  go_enter Tryd.func5, Tryd.ntmps5
  go_wp2_with fail
  refine HA.out.mono ?_
  rintro e w1 ⟨bb, HB, rfl, hb1⟩
  have hz1 := hb1.size
  have HB1 := Lib.hid (And.intro hb1 (And.intro (tabs_below HT.out hb1 (by omega)) (HR.out.below hb1)))
  clear HA hb1
  cases bb with
  | false =>
    go_wp2_with fail
    refine (wakes_any w1 HB1.out.2.1).mono ?_
    rintro e w2 ⟨rfl, hb2⟩
    have HB2 := Lib.hid (HB1.out.1.trans (hb2.mono (by omega)))
    clear hb2
    go_wp2
    go_ret
    exact ⟨rfl, HB2.out⟩
  | true =>
    go_wp2_with fail
    refine (spots_any s _ len cap ps w1 (by omega) (HB.out trivial) HB1.out.2.1 (HB1.out.2.2.more hz1)).mono ?_
    rintro e w2 ⟨v, rfl, hown, hb2⟩
    have hlen := HR.out.1
    rw [hlen] at hown
    obtain ⟨g, gcap, hv, hg1, hg2⟩ := hown.form hl
    subst hv
    have hz2 := hb2.size
    have hT2 := tabs_below HB1.out.2.1 hb2 (by omega)
    have HB2 := Lib.hid (HB1.out.1.trans (hb2.mono (by omega)))
    have HCL := Lib.hid (hown.cells (g := g) rfl)
    have HT2 := Lib.hid hT2
    have hcg : g < w2.heap.size := by
      rcases hown.2 with ⟨h, _⟩ | ⟨g', cap', cur, h, _, hh, _⟩
      · cases h
      · simp only [Value.slice.injEq, Option.some.injEq, Addr.mk.injEq] at h
        obtain ⟨⟨rfl, _⟩, _⟩ := h
        exact lt_of_block hh
    have hok := HB.out trivial
    have HP := Lib.hid hok.2.2
    have HV := Lib.hid hok.2.1
    have hz := hok.1
    clear hb2 hT2 HB1 HT hok HB
    clear hown
    go_wp2_with fail
    go_loopw [24] (fun i wr => ∃ k : Nat, i = .int .i64 k ∧ k ≤ len ∧ Hid (SLRel w w2 wr)) (fun i _ => len - (intOf i).toNat)
    case atStart => exact ⟨0, rfl, Nat.zero_le _, HB2.out, Below.refl _ _⟩
    case round =>
      obtain ⟨k, rfl, hk, HS⟩ := hrel
      by_cases hlt : k < len
      · obtain ⟨hbl, hbl2⟩ := HS.out
        obtain ⟨b', off', he, _, hc⟩ := (HR.out.below hbl).2 hl
        simp only [Option.some.injEq, Addr.mk.injEq] at he
        obtain ⟨rfl, rfl, _⟩ := he
        have hcell := hc k hlt
        have hpk := HP.out k (by omega)
        have gat : ∀ j v, j < 4 → (spotCells s (ps.getD k (0, 0)))[j]? = some v → wr.cell? ⟨g, k * 4 + j, none⟩ = some v := fun j v hj hv => by
          have hx := HCL.out (k * 4 + j) v (by rw [← hlen, spots_at s ps j k hj ps.length (Nat.le_refl _) (by omega)]; exact hv)
          rw [show (({ block := g, off := 0 } : Addr).add (k * 4 + j)) = ⟨g, k * 4 + j, none⟩ by unfold Addr.add; split <;> simp_all] at hx
          exact (hbl2.cell (p := ⟨g, k * 4 + j, none⟩) hcg).trans hx
        obtain ⟨a, m, hap⟩ : ∃ a m, ps.getD k (0, 0) = (a, m) := ⟨_, _, rfl⟩
        rw [hap] at hcell hpk gat
        obtain ⟨hc1, hc2⟩ := hcell
        obtain ⟨p1, p2, p3, p4, p5, p6⟩ := hpk
        simp only at hc1 hc2 p1 p2 p3 p4 p5 p6
        obtain ⟨q, rfl⟩ := Int.eq_ofNat_of_zero_le p1
        obtain ⟨n, rfl⟩ := Int.eq_ofNat_of_zero_le p2
        rw [Int.toNat_natCast] at p5 p6
        have g0 : wr.cell? ⟨g, k * 4, none⟩ = some (.int .i64 ((Ln.L s.data.toList q : Nat) + 1)) := gat 0 _ (by omega) rfl
        have g1 : wr.cell? ⟨g, k * 4 + 1, none⟩ = some (.int .i64 ((q : Int) - (Ln.S s.data.toList q : Nat))) := gat 1 _ (by omega) rfl
        have g2 : wr.cell? ⟨g, k * 4 + 2, none⟩ = some (.int .i64 n) := gat 2 _ (by omega) rfl
        have g3 : wr.cell? ⟨g, k * 4 + 3, none⟩ = some (.string (s.extract (Ln.S s.data.toList q) (Ln.E s.data.toList q))) := gat 3 _ (by omega) rfl
        have hsize := hbl.size
        have hsize2 := hbl2.size
        have hok1 : AllOk s [((q : Int), (n : Int))] := ⟨hz, HV.out, fun k hk => by
          obtain rfl : k = 0 := by simpa using hk
          exact ⟨p1, p2, p3, p4, by simpa using p5, by simpa using p6⟩⟩
        have HOK := Lib.hid hok1
        clear hc hap hbl hbl2 gat p5 p6 HP HCL hok1
        go_wp2_with fail
        generalize hw3 : (wr.alloc _).alloc _ = w3
        have hb3 : Below wr.heap.size wr w3 := by rw [← hw3]; exact ((Below.refl _ _).alloc (Nat.le_refl _) _).alloc (by simp) _
        have hz3 : w3.heap.size = wr.heap.size + 2 := by rw [← hw3]; simp
        have hr3 : PcRd w3 w3.heap.size (some ⟨wr.heap.size + 1, 0, none⟩) 1 [((q : Int), (n : Int))] := by
          refine ⟨rfl, fun _ => ⟨wr.heap.size + 1, 0, rfl, by omega, fun k hk => ?_⟩⟩
          obtain rfl : k = 0 := by omega
          rw [← hw3]
          have hbk := Bk.new (wr.alloc (.cells #[.int .i64 q, .int .i64 n] 23)) 23 #[.int .i64 (q : Int), .int .i64 (n : Int)]
          rw [show (wr.alloc (.cells #[.int .i64 (q : Int), .int .i64 (n : Int)] 23)).heap.size = wr.heap.size + 1 by simp] at hbk
          exact ⟨hbk.cell 0, hbk.cell 1⟩
        have hcr : g < wr.heap.size := by omega
        replace g0 := (hb3.cell (p := ⟨g, k * 4, none⟩) hcr).trans g0
        replace g1 := (hb3.cell (p := ⟨g, k * 4 + 1, none⟩) hcr).trans g1
        replace g2 := (hb3.cell (p := ⟨g, k * 4 + 2, none⟩) hcr).trans g2
        replace g3 := (hb3.cell (p := ⟨g, k * 4 + 3, none⟩) hcr).trans g3
        have HB3 := Lib.hid (And.intro (HS.out.1.trans (hb3.mono hsize)) (HS.out.2.trans (hb3.mono hsize2)))
        refine (spots_any s _ 1 1 _ w3 (by omega) HOK.out (tabs_below HT2.out HB3.out.2 (by omega)) hr3).mono ?_
        rintro e w4 ⟨v, rfl, hown4, hb4⟩
        obtain ⟨g', gcap', hv, hg1', hg2'⟩ := hown4.form (by simp)
        subst hv
        have hcl := hown4.cells (g := g') rfl
        have k0 : w4.cell? ⟨g', 0, none⟩ = some (.int .i64 ((Ln.L s.data.toList q : Nat) + 1)) := hcl 0 _ rfl
        have k1 : w4.cell? ⟨g', 1, none⟩ = some (.int .i64 ((q : Int) - (Ln.S s.data.toList q : Nat))) := hcl 1 _ rfl
        have k2 : w4.cell? ⟨g', 2, none⟩ = some (.int .i64 n) := hcl 2 _ rfl
        have k3 : w4.cell? ⟨g', 3, none⟩ = some (.string (s.extract (Ln.S s.data.toList q) (Ln.E s.data.toList q))) := hcl 3 _ rfl
        have hcr3 : g < w3.heap.size := by omega
        replace g0 := (hb4.cell (p := ⟨g, k * 4, none⟩) hcr3).trans g0
        replace g1 := (hb4.cell (p := ⟨g, k * 4 + 1, none⟩) hcr3).trans g1
        replace g2 := (hb4.cell (p := ⟨g, k * 4 + 2, none⟩) hcr3).trans g2
        replace g3 := (hb4.cell (p := ⟨g, k * 4 + 3, none⟩) hcr3).trans g3
        have HB4 := Lib.hid (And.intro (HB3.out.1.trans (hb4.mono HB3.out.1.size)) (HB3.out.2.trans (hb4.mono HB3.out.2.size)))
        clear hw3 hb3 hr3 hb4 hown4 hcl HB3 HS hc1 hc2
        generalize Ln.L s.data.toList q = Lq at *
        generalize Ln.S s.data.toList q = Sq at *
        generalize s.extract Sq (Ln.E s.data.toList q) = tx at *
        have j1 : (k : Int) < len := by omega
        have j2 : (0 : Int) ≤ k := by omega
        have j3 : (k : Int).toNat = k := by omega
        go_wp2_with fail
        go_quiet (fail)
        clear g0 g1 g2 g3 k0 k1 k2 k3
        go_wp2
        go_roundw
        case rel => exact ⟨k + 1, by go_num, by omega, below_dN HB4.out.1 _, below_dN HB4.out.2 _⟩
        case measure => simp [intOf]; omega
      · go_wp2_with fail
        refine (wakes_any wr (tabs_below HT2.out HS.out.2 (by omega))).mono ?_
        rintro e w3 ⟨rfl, hb3⟩
        have HB3 := Lib.hid (HS.out.1.trans (hb3.mono HS.out.1.size))
        clear hb3
        go_wp2
        go_ret
        exact ⟨rfl, HB3.out⟩
theorem tracklaw_any (s : ByteArray) (ao : Option Addr) (len cap : Nat) (ps : List (Int × Int)) (w : World) (hs : s.size ≤ 140737488355328) (hm : len ≤ 1048576)
    (hr : PcRd w w.heap.size ao len ps) (hT : Lib.Utf8Tabs 1 2 w) : Calls Tryd.prog 5 #[.string s, .slice ao len cap] w (Yes w) := by
  rcases Nat.eq_zero_or_pos len with h0 | h0
  · subst h0
    have : ps = [] := List.eq_nil_of_length_eq_zero hr.1
    subst this
    exact tracklaw_none s ao cap w hs hr hT
  · obtain ⟨b, off, rfl, _, _⟩ := hr.2 h0
    exact tracklaw_some s b off len cap ps w hs h0 hm hr hT
end Go.Proofs.YtfndlifolohlgaaDoor
