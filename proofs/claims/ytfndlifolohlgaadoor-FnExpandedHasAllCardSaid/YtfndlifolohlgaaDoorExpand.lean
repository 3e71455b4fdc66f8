/-
  The walk of laws.FnExpandedHasAll: it returns true for every piece and every list of pieces; what lay below stays.
  Conditions: the list has at most 2^43 - 1 pieces (the form's own reach); the two tables of unicode/utf8 hold what the program's text lays.
-/
import Derived.Test.YtfndlifolohlgaaDoorExpA
import Derived.Laws.AppendOwnNone
import Derived.Deep.DeepCutAuto
namespace Go.Proofs.YtfndlifolohlgaaDoor
open Go Go.RowKit Ln
set_option maxRecDepth 100000

theorem info23 : (Tryd.prog.info? 23).map (fun i => (i.zero, i.size, i.bytes)) = some (some (.agg #[.int .i64 0, .int .i64 0]), 2, 16) := by kernel_rfl
/-- the cells of pieces -/
def pcCells : List (Int × Int) → List Value
  | [] => []
  | p :: r => .int .i64 p.1 :: .int .i64 p.2 :: pcCells r
theorem pc_length : ∀ ps : List (Int × Int), (pcCells ps).length = ps.length * 2
  | [] => rfl
  | p :: r => by simp [pcCells, pc_length r]; omega
theorem pc_at : ∀ (ps : List (Int × Int)) (k : Nat), k < ps.length → (pcCells ps)[k * 2]? = some (.int .i64 (ps.getD k (0, 0)).1) ∧ (pcCells ps)[k * 2 + 1]? = some (.int .i64 (ps.getD k (0, 0)).2)
  | [], k, h => by simp at h
  | p :: r, 0, _ => ⟨rfl, rfl⟩
  | p :: r, k + 1, h => by
    have := pc_at r k (by simpa using h)
    simp only [pcCells, List.getD_cons_succ, show (k + 1) * 2 = k * 2 + 1 + 1 by omega, List.getElem?_cons_succ]
    exact this
theorem pc_news {w : World} {b off : Nat} {ps : List (Int × Int)} (hc : ∀ k, k < ps.length → w.cell? ⟨b, off + k * 2, none⟩ = some (.int .i64 (ps.getD k (0, 0)).1) ∧ w.cell? ⟨b, off + k * 2 + 1, none⟩ = some (.int .i64 (ps.getD k (0, 0)).2)) :
    ∀ j u, (pcCells ps)[j]? = some u → w.cell? ((⟨b, off, none⟩ : Addr).add j) = some u := by
  intro j u hu
  have hj : j < (pcCells ps).length := (List.getElem?_eq_some_iff.1 hu).1
  rw [pc_length] at hj
  have e : (⟨b, off, none⟩ : Addr).add j = ⟨b, off + j, none⟩ := by
    unfold Addr.add
    split
    · rename_i h; subst h; rfl
    · rfl
  rw [e]
  rcases (show j = j / 2 * 2 ∨ j = j / 2 * 2 + 1 by omega) with h | h
  · rw [h] at hu ⊢
    rw [(pc_at ps (j / 2) (by omega)).1] at hu
    rw [(hc (j / 2) (by omega)).1]
    exact hu
  · rw [h] at hu ⊢
    rw [(pc_at ps (j / 2) (by omega)).2] at hu
    rw [← Nat.add_assoc, (hc (j / 2) (by omega)).2]
    exact hu
theorem pc_one : ∀ (ps : List (Int × Int)), ∀ u ∈ pcCells ps, u.oneCell' = true
  | [], u, h => by cases h
  | p :: r, u, h => by
    simp only [pcCells, List.mem_cons] at h
    rcases h with rfl | rfl | h
    · rfl
    · rfl
    · exact pc_one r u h

/-- what is known of the new slice and of the world, ahead of the loop -/
def ExStart (p : Int × Int) (ps : List (Int × Int)) (w : World) (v : Value) (w1 : World) : Prop :=
  w1.ownsRow w.heap.size 23 2 v (1 + ps.length) (pcCells (p :: ps)) ∧ Bk w1 w.heap.size 23 #[.int .i64 p.1, .int .i64 p.2] ∧ Bk w1 (w.heap.size + 1) 35 #[.int .i64 p.1, .int .i64 p.2] ∧ Below w.heap.size w w1
/-- the loop's relation -/
def LwRel (p : Int × Int) (ps : List (Int × Int)) (w w1 : World) (k : Nat) (wr : World) : Prop :=
  w1.grownBy wr (some (w.heap.size + 1)) ∧ Bk wr (w.heap.size + 1) 35 #[.int .i64 (foldB p ps (k - 1)).1, .int .i64 (foldB p ps (k - 1)).2] ∧ ∀ j, j < k → InB ((p :: ps).getD j (0, 0))

set_option maxHeartbeats 3200000 in
theorem expandlaw_any (p1 p2 : Int) (ao : Option Addr) (len cap : Nat) (ps : List (Int × Int)) (w : World) (hm : len ≤ 8796093022207) (hnil : ao = none → len = 0 ∧ cap = 0)
    (hr : PcRd w w.heap.size ao len ps) (hT : Lib.Utf8Tabs 1 2 w) :
    Calls Tryd.prog 7 #[.agg #[.int .i64 p1, .int .i64 p2], .slice ao len cap] w (Yes w) := by
  have h3 := tabs_lt hT
  have HT := Lib.hid hT
  have HR := Lib.hid hr
  have hlen := hr.1
  have HNIL := Lib.hid hnil
  obtain ⟨i0, hi0, hz0, hz1, hz2⟩ := info_parts info23
  clear hT hr hnil
  go_enter Tryd.func7, Tryd.ntmps7
  go_upto_region 2 with (fail)
  generalize hwa : w.alloc _ = wa
  generalize hwb : wa.alloc _ = wb
  have hba : Below w.heap.size w wa := by rw [← hwa]; exact (Below.refl _ _).alloc (Nat.le_refl _) _
  have hza : wa.heap.size = w.heap.size + 1 := by rw [← hwa]; simp
  have hbb : Below w.heap.size w wb := by rw [← hwb]; exact hba.alloc hba.size _
  have hzb : wb.heap.size = w.heap.size + 2 := by rw [← hwb, World.size_alloc, hza]
  have hk0 : Bk wb w.heap.size 23 #[.int .i64 p1, .int .i64 p2] := by rw [← hwb, ← hwa]; exact (Bk.new w 23 _).alloc _
  have hk1 : Bk wb (w.heap.size + 1) 35 #[.int .i64 p1, .int .i64 p2] := by rw [← hwb, ← hza]; exact Bk.new wa 35 _
  have c0 : wb.cell? ⟨w.heap.size, 0, none⟩ = some (.int .i64 p1) := hk0.cell 0
  have c1 : wb.cell? ⟨w.heap.size, 1, none⟩ = some (.int .i64 p2) := hk0.cell 1
  have HW := Lib.hid (And.intro hbb (And.intro hk0 (And.intro hk1 hzb)))
  have hzb' : w.heap.size + 2 ≤ wb.heap.size := by omega
  clear hwa hwb hba hza hbb hzb hk0 hk1
  go_cut [14, 15, 16] (fun v n i wx => n = .int .i64 (1 + (len : Int)) ∧ i = .int .i64 0 ∧ (∃ g cap', v = .slice (some ⟨g, 0, none⟩) (1 + len) cap') ∧ Hid (ExStart (p1, p2) ps w v wx))
  case first =>
    have hown0 := World.ownsRow_lit (base := w.heap.size) (e := 23) (size := 2) wb #[.int .i64 p1, .int .i64 p2] 1 (by omega) (by unfold maxLen; omega) rfl
    have HO := Lib.hid hown0
    clear hown0
    cases ao with
    | none =>
      obtain ⟨rfl, rfl⟩ := HNIL.out rfl
      have hps : ps = [] := List.eq_nil_of_length_eq_zero hlen
      subst hps
      go_wp2_with (at_builtin; refine wpList_append_own_none rfl _ _ 24 rfl w.heap.size 23 i0 2 Tryd.underlying24 hi0 _ 1 _ rfl HO.out rfl ?_)
      go_meet
      refine ⟨rfl, rfl, ⟨wb.heap.size, 1, rfl⟩, ?_⟩
      exact ⟨HO.out, HW.out.2.1.alloc _, HW.out.2.2.1.alloc _, HW.out.1.alloc (by omega) _⟩
    | some ad =>
      have HL : (pcCells ps).length = len * 2 := by rw [pc_length, hlen]
      have HN : ∀ o1 : Obj, ∀ j u, (pcCells ps)[j]? = some u → (wb.alloc o1).cell? (ad.add j) = some u := by
        intro o1
        rcases Nat.eq_zero_or_pos len with h0 | h0
        · have hps : ps = [] := List.eq_nil_of_length_eq_zero (by omega)
          subst hps
          intro j u hu
          simp [pcCells] at hu
        · obtain ⟨b, off, he, hb, hc⟩ := (HR.out.below (HW.out.1.alloc (by omega) o1)).2 h0
          injection he with he
          subst he
          rw [← hlen] at hc
          exact pc_news hc
      have HL' := Lib.hid HL
      have HN' := Lib.hid HN
      clear HL HN
      go_wp2_with (at_builtin; refine wpList_append_own _ rfl _ _ 24 rfl w.heap.size 23 i0 _ 2 16 Tryd.underlying24 hi0 hz0 hz1 hz2 rfl (by decide) _ 1 _ rfl HO.out ad len cap (pcCells ps) rfl HL'.out (HN'.out _) (pc_one ps) (by unfold maxLen; omega) (by omega) (by simp; omega) ?_; intro v' w1 hown' hgrow hnl; obtain ⟨g, cap', hv, hg1, hg2⟩ := hown'.form (by omega))
      rw [hv] at hown'
      have hz1 := hgrow.size
      simp only [World.size_alloc] at hz1
      have HS : Hid (ExStart (p1, p2) ps w (.slice (some ⟨g, 0, none⟩) (1 + len) cap') w1) := by
        have hgrow : (wb.alloc (.cells #[.int .i64 p1, .int .i64 p2] 23)).grownBy w1 (some wb.heap.size) := hgrow
        refine ⟨?_, (HW.out.2.1.alloc _).grown hgrow (fun e => by injection e with e; omega), (HW.out.2.2.1.alloc _).grown hgrow (fun e => by injection e with e; omega), ?_⟩
        · rw [hlen]; exact hown'
        · exact below_gb (HW.out.1.alloc (by omega) _) hgrow (by simp; omega) (by omega)
      clear hown' hgrow hnl hv
      go_meet
      exact ⟨by go_num, rfl, ⟨g, cap', rfl⟩, HS⟩
  case rest =>
    obtain ⟨rfl, rfl, ⟨g, cap', rfl⟩, HS⟩ := hcut
    obtain ⟨w1, rfl⟩ : ∃ w1 : World, w1 = wc := ⟨_, rfl⟩
    have hgw : g ≠ w.heap.size + 1 := by
      have := own_ne HS.out.1 HS.out.2.2.1 (show (23 : TypeId) ≠ 35 by decide)
      intro e
      exact this (by simp [Value.ownBlock, e])
    have hg1 := (HS.out.1.lt g rfl).2
    clear HW c0 c1 hzb' hi0 hz0 hz1 hz2
    go_wp2_with fail
    go_loopw [16] (fun i wr => ∃ k : Nat, i = .int .i64 k ∧ k ≤ 1 + len ∧ Hid (LwRel (p1, p2) ps w w1 k wr)) (fun i _ => 1 + len - (intOf i).toNat)
    case atStart => exact ⟨0, rfl, Nat.zero_le _, World.grownBy.refl _ _, HS.out.2.2.1, fun j hj => by omega⟩
    case round =>
      obtain ⟨k, rfl, hk, HK⟩ := hrel
      have hsz := HK.out.1.size
      by_cases hlt : k < 1 + len
      · have hc : wr.cell? ⟨g, k * 2, none⟩ = some (.int .i64 (((p1, p2) :: ps).getD k (0, 0)).1) ∧ wr.cell? ⟨g, k * 2 + 1, none⟩ = some (.int .i64 (((p1, p2) :: ps).getD k (0, 0)).2) := by
          have hcl := HS.out.1.cells (g := g) rfl
          have hat := pc_at ((p1, p2) :: ps) k (by simp; omega)
          have e : ∀ j, (⟨g, 0, none⟩ : Addr).add j = ⟨g, j, none⟩ := by
            intro j
            unfold Addr.add
            split
            · rename_i h; subst h; rfl
            · simp
          have z1 := hcl _ _ hat.1
          have z2 := hcl _ _ hat.2
          rw [e] at z1 z2
          have hbl : wr.heap[g]? = w1.heap[g]? := HK.out.1.block g hg1 (fun e => by injection e with e; exact hgw e)
          exact ⟨(World.cell?_of_block (w := w1) (w' := wr) (a := ⟨g, k * 2, none⟩) hbl).trans z1, (World.cell?_of_block (w := w1) (w' := wr) (a := ⟨g, k * 2 + 1, none⟩) hbl).trans z2⟩
        obtain ⟨a, m, hap⟩ : ∃ a m, ((p1, p2) :: ps).getD k (0, 0) = (a, m) := ⟨_, _, rfl⟩
        rw [hap] at hc
        obtain ⟨hc1, hc2⟩ := hc
        simp only at hc1 hc2
        have HAP := Lib.hid hap
        clear hap
        by_cases hin : InB (a, m)
        · have HIN := Lib.hid hin
          unfold InB at hin
          obtain ⟨y1, y2, y3, y4⟩ := hin
          simp only at y1 y2 y3 y4
          by_cases hk0 : 0 < k
          · have hkw := HK.out.2.1
            have d0 : wr.cell? ⟨w.heap.size + 1, 0, none⟩ = some (.int .i64 (foldB (p1, p2) ps (k - 1)).1) := hkw.cell 0
            have d1 : wr.cell? ⟨w.heap.size + 1, 1, none⟩ = some (.int .i64 (foldB (p1, p2) ps (k - 1)).2) := hkw.cell 1
            have hkl := hkw.lt
            have hgz : g < wr.heap.size := by omega
            have hInW : InW (foldB (p1, p2) ps (k - 1)) := by
              have h0 := HK.out.2.2 0 hk0
              have key : ∀ n, n ≤ k - 1 → InW (foldB (p1, p2) ps n) := by
                intro n
                induction n with
                | zero => intro _; exact inW_of h0
                | succ n ih =>
                  intro hn
                  rw [foldB_succ _ ps n (by omega)]
                  refine inW_both (ih (by omega)) ?_
                  have := HK.out.2.2 (n + 1) (by omega)
                  simpa using this
              exact key _ (Nat.le_refl _)
            have HC : ∀ W : World, Hid (Calls Tryd.prog 18 #[.agg #[.int .i64 (foldB (p1, p2) ps (k - 1)).1, .int .i64 (foldB (p1, p2) ps (k - 1)).2], .agg #[.int .i64 a, .int .i64 m]] W fun e w' => e = .returned (.agg #[.int .i64 (bothP (foldB (p1, p2) ps (k - 1)) (a, m)).1, .int .i64 (bothP (foldB (p1, p2) ps (k - 1)) (a, m)).2]) ∧ Below W.heap.size W w') := fun W =>
              both_any (foldB (p1, p2) ps (k - 1)) (a, m) W hInW HIN.out
            have hnx : bothP (foldB (p1, p2) ps (k - 1)) (a, m) = foldB (p1, p2) ps k := by
              have := foldB_succ (p1, p2) ps (k - 1) (by omega)
              rw [show k - 1 + 1 = k by omega] at this
              rw [this]
              congr 1
              have e := HAP.out
              rw [show k = (k - 1) + 1 by omega, List.getD_cons_succ] at e
              exact e.symm
            rw [hnx] at HC
            clear hInW hnx hkw
            go_wp2_with fail
            refine (HC _).out.mono ?_
            rintro e w2 ⟨rfl, hb2⟩
            have hz2 := hb2.size
            simp only [World.size_alloc] at hz2
            have hb2' := ((Below.refl wr.heap.size wr).alloc (Nat.le_refl _) _).trans (hb2.mono (by simp))
            have hkw2 := HK.out.2.1.below hb2' hkl
            have e0 : w2.cell? ⟨w.heap.size + 1, 0, none⟩ = some (.int .i64 (foldB (p1, p2) ps (k - 1)).1) := hkw2.cell 0
            have e1 : w2.cell? ⟨w.heap.size + 1, 1, none⟩ = some (.int .i64 (foldB (p1, p2) ps (k - 1)).2) := hkw2.cell 1
            have f0 := hkw2.free 0
            have f1 := hkw2.free 1
            have H2 := Lib.hid (And.intro hkw2 hb2')
            clear hb2 hb2' hkw2 hc1 hc2 d0 d1
            go_wp2
            go_roundw
            case rel =>
              refine ⟨k + 1, by go_num, by omega, ?_, ?_, fun j hj => ?_⟩
              · exact gb_trans (gb_trans HK.out.1 (gb_below H2.out.2)) (gb_trans (gb_set _ _ _ _) (gb_set _ _ _ _))
              · rw [show k + 1 - 1 = k by omega]
                exact (H2.out.1.put 0 _).put 1 _
              · rcases (show j < k ∨ j = k by omega) with h | h
                · exact HK.out.2.2 j h
                · subst h; rw [HAP.out]; exact HIN.out
            case measure => simp [intOf]; omega
          · obtain rfl : k = 0 := by omega
            go_wp2
            go_roundw
            case rel =>
              refine ⟨0 + 1, by go_num, by omega, gb_trans HK.out.1 (gb_alloc _ _ _), HK.out.2.1.alloc _, fun j hj => ?_⟩
              obtain rfl : j = 0 := by omega
              rw [HAP.out]; exact HIN.out
            case measure => simp [intOf]
        · have hTr : Lib.Utf8Tabs 1 2 wr := tabs_gb (tabs_below HT.out HS.out.2.2.2 (by omega)) HK.out.1 (by omega)
          have hbr : Below w.heap.size w wr := below_gb HS.out.2.2.2 HK.out.1 (by have := HS.out.2.2.2.size; omega) (by omega)
          have hbs := hbr.size
          have HX := Lib.hid (And.intro (tabs_below hTr ((Below.refl wr.heap.size wr).alloc (Nat.le_refl _) (.cells #[.int .i64 a, .int .i64 m] 23)) (by omega)) (hbr.alloc hbs (.cells #[.int .i64 a, .int .i64 m] 23)))
          have hcs : a < 0 ∨ (0 ≤ a ∧ m < 0) ∨ (0 ≤ a ∧ 0 ≤ m ∧ 268435456 < a) ∨ (0 ≤ a ∧ 0 ≤ m ∧ a ≤ 268435456 ∧ 268435456 < m) := by
            unfold InB at hin; simp only at hin; omega
          clear hin hTr hbr
          rcases hcs with y1 | ⟨y1, y2⟩ | ⟨y1, y2, y3⟩ | ⟨y1, y2, y3, y4⟩
          all_goals
            go_wp2_with fail
            refine (wakes_any _ HX.out.1).mono ?_
            rintro e w5 ⟨rfl, hb5⟩
            have HB5 := Lib.hid (HX.out.2.trans (hb5.mono (by simp; omega)))
            clear hb5
            go_wp2
            go_ret
            exact ⟨rfl, HB5.out⟩
      · obtain rfl : k = 1 + len := by omega
        have hTr : Lib.Utf8Tabs 1 2 wr := tabs_gb (tabs_below HT.out HS.out.2.2.2 (by omega)) HK.out.1 (by omega)
        have hbr : Below w.heap.size w wr := below_gb HS.out.2.2.2 HK.out.1 (by have := HS.out.2.2.2.size; omega) (by omega)
        have hbs := hbr.size
        have hkp : Bk wr w.heap.size 23 #[.int .i64 p1, .int .i64 p2] := HS.out.2.1.grown HK.out.1 (fun e => by injection e with e; omega)
        have hkw := HK.out.2.1
        rw [show 1 + len - 1 = ps.length by omega] at hkw
        have hpin : InB (p1, p2) := HK.out.2.2 0 (by omega)
        have hall : ∀ j, j < ps.length → InB (ps.getD j (0, 0)) := fun j hj => by
          have := HK.out.2.2 (j + 1) (by omega)
          simpa using this
        have hInW := foldB_in hpin hall ps.length (Nat.le_refl _)
        have d0 : wr.cell? ⟨w.heap.size, 0, none⟩ = some (.int .i64 p1) := hkp.cell 0
        have d1 : wr.cell? ⟨w.heap.size, 1, none⟩ = some (.int .i64 p2) := hkp.cell 1
        have hkl := hkw.lt
        have HC := Lib.hid (expanded_any (p1, p2) ao len cap ps wr hpin hall hm ((HR.out.below hbr).more hbs))
        have HX := Lib.hid (And.intro hTr (And.intro hbr hkw))
        clear hTr hbr hkp hkw hpin hall HK
        go_wp2_with fail
        refine HC.out.mono ?_
        rintro e w2 ⟨rfl, hb2⟩
        have hz2 := hb2.size
        have hkw2 := HX.out.2.2.below hb2 hkl
        generalize foldB (p1, p2) ps ps.length = c at *
        obtain ⟨ca, cb⟩ := c
        unfold InW at hInW
        obtain ⟨q1, q2, q3, q4⟩ := hInW
        simp only at q1 q2 q3 q4 hkw2 ⊢
        have e0 : ∀ o1 : Obj, (w2.alloc o1).cell? ⟨w.heap.size + 1, 0, none⟩ = some (.int .i64 ca) := fun o1 => (hkw2.alloc o1).cell 0
        have e1 : ∀ o1 : Obj, (w2.alloc o1).cell? ⟨w.heap.size + 1, 1, none⟩ = some (.int .i64 cb) := fun o1 => (hkw2.alloc o1).cell 1
        have HY := Lib.hid (And.intro (tabs_below HX.out.1 hb2 (by omega)) (HX.out.2.1.trans (hb2.mono (by omega))))
        clear hb2 hkw2 HX HC d0 d1
        go_wp2_with fail
        refine (wakes_any _ (tabs_below HY.out.1 ((Below.refl w2.heap.size w2).alloc (Nat.le_refl _) _) (by omega))).mono ?_
        rintro e w5 ⟨rfl, hb5⟩
        have HB5 := Lib.hid ((HY.out.2.alloc (by omega) _).trans (hb5.mono (by simp; omega)))
        clear hb5
        go_wp2
        go_ret
        exact ⟨rfl, HB5.out⟩
end Go.Proofs.YtfndlifolohlgaaDoor
