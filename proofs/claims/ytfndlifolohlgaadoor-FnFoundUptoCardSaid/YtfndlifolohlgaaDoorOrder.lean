/-
  The walk of laws.FnLinesInOrder: it returns true for every text and every two places; what lay below stays.
  Conditions: the text is no longer than 2^47 bytes; the two tables of unicode/utf8 hold what the program's text lays.
-/
import Derived.Test.YtfndlifolohlgaaDoorWakes
import Derived.Outline
namespace Go.Proofs.YtfndlifolohlgaaDoor
open Go Go.RowKit Ln
set_option maxRecDepth 100000
attribute [local irreducible] Go.wpStill

theorem PcRd.more {w : World} {B B' n : Nat} {ao : Option Addr} {ps : List (Int × Int)} (h : PcRd w B ao n ps) (hB : B ≤ B') : PcRd w B' ao n ps := by
  refine ⟨h.1, fun hn => ?_⟩
  obtain ⟨b, off, e, hlt, hc⟩ := h.2 hn
  exact ⟨b, off, e, by omega, hc⟩
def Yes (w : World) (e : Ending) (w' : World) : Prop := e = .returned (.bool true) ∧ Below w.heap.size w w'

set_option maxHeartbeats 1600000 in
theorem order_any (s : ByteArray) (a b : Int) (w : World) (hs : s.size ≤ 140737488355328) (hT : Lib.Utf8Tabs 1 2 w) :
    Calls Tryd.prog 3 #[.string s, .int .i64 a, .int .i64 b] w (Yes w) := by
  have h3 := tabs_lt hT
  obtain ⟨wa, hwa⟩ : ∃ wa, wa = w.alloc (.cells #[.int .i64 a, .int .i64 0, .int .i64 b, .int .i64 0] 23) := ⟨_, rfl⟩
  have hba : Below w.heap.size w wa := by rw [hwa]; exact (Below.refl _ _).alloc (Nat.le_refl _) _
  have hTa := tabs_below hT hba (by omega)
  have hra : PcRd wa wa.heap.size (some ⟨w.heap.size, 0, none⟩) 2 [(a, 0), (b, 0)] := by
    have hbk := Bk.new w 23 #[.int .i64 a, .int .i64 0, .int .i64 b, .int .i64 0]
    rw [← hwa] at hbk
    refine ⟨rfl, fun _ => ⟨w.heap.size, 0, rfl, hbk.lt, fun k hk => ?_⟩⟩
    rcases (show k = 0 ∨ k = 1 by omega) with rfl | rfl
    · exact ⟨hbk.cell 0, hbk.cell 1⟩
    · exact ⟨hbk.cell 2, hbk.cell 3⟩
  have hsa := hba.size
  have HA := Lib.hid (all_any s _ 2 2 [(a, 0), (b, 0)] wa hs (by omega) hra)
  have HBA := Lib.hid (And.intro hba (And.intro hTa hra))
  have HWA := Lib.hid hwa
  clear hba hTa hra
  go_enter Tryd.func3, Tryd.ntmps3
  go_wp2_with fail
  rw [← hwa]
  clear hwa
  refine HA.out.mono ?_
  rintro e w1 ⟨bb, HB, rfl, hb1⟩
  have hz1 := hb1.size
  have HB1 := Lib.hid (And.intro (HBA.out.1.trans (hb1.mono hsa)) (And.intro (tabs_below HBA.out.2.1 hb1 (by omega)) (HBA.out.2.2.below hb1)))
  clear HA HBA hb1
  cases bb with
  | false =>
    go_wp2_with fail
    refine (wakes_any w1 HB1.out.2.1).mono ?_
    rintro e w2 ⟨rfl, hb2⟩
    have HB2 := Lib.hid (HB1.out.1.trans (hb2.mono (by omega)))
    clear hb2
    go_wp2
    go_ret
    exact ⟨rfl, HB2.out⟩
  | true =>
    by_cases hab : b ≤ a
    · go_wp2_with fail
      refine (wakes_any w1 HB1.out.2.1).mono ?_
      rintro e w2 ⟨rfl, hb2⟩
      have HB2 := Lib.hid (HB1.out.1.trans (hb2.mono (by omega)))
      clear hb2
      go_wp2
      go_ret
      exact ⟨rfl, HB2.out⟩
    · have hok := HB.out rfl
      have oka := hok.2.2 0 (by simp)
      have okb := hok.2.2 1 (by simp)
      obtain ⟨a1, _, a3, _, a5, a6⟩ := oka
      obtain ⟨b1, _, b3, _, b5, b6⟩ := okb
      simp only [List.getD_cons_zero, List.getD_cons_succ] at a1 a3 a5 a6 b1 b3 b5 b6
      obtain ⟨qa, rfl⟩ := Int.eq_ofNat_of_zero_le a1
      obtain ⟨qb, rfl⟩ := Int.eq_ofNat_of_zero_le b1
      rw [Int.toNat_natCast] at a5 a6 b5 b6
      have hord := order (l := s.data.toList) (a := qa) (b := qb) (by omega) a6
      have hSa := S_le hok.2.1 qa qa (Nat.le_refl _) a5
      have hSb := S_le hok.2.1 qb qb (Nat.le_refl _) b5
      have hLa := L_le s.data.toList qa
      have hLb := L_le s.data.toList qb
      have hzz := hok.1
      have HO := Lib.hid hord
      have HC := Lib.hid (spots_any s _ 2 2 _ w1 (by omega) hok HB1.out.2.1 (HB1.out.2.2.more hz1))
      clear hord a5 a6 b5 b6 hok HB
      go_wp2_with fail
      refine HC.out.mono ?_
      rintro e w2 ⟨v, rfl, hown, hb2⟩
      obtain ⟨g, cap, hv, hg1, hg2⟩ := hown.form (by simp)
      subst hv
      have hcl := hown.cells (g := g) rfl
      have c0 : w2.cell? ⟨g, 0, none⟩ = some (.int .i64 ((Ln.L s.data.toList qa : Nat) + 1)) := hcl 0 _ rfl
      have c1 : w2.cell? ⟨g, 1, none⟩ = some (.int .i64 ((qa : Int) - (Ln.S s.data.toList qa : Nat))) := hcl 1 _ rfl
      have c4 : w2.cell? ⟨g, 4, none⟩ = some (.int .i64 ((Ln.L s.data.toList qb : Nat) + 1)) := hcl 4 _ rfl
      have c5 : w2.cell? ⟨g, 5, none⟩ = some (.int .i64 ((qb : Int) - (Ln.S s.data.toList qb : Nat))) := hcl 5 _ rfl
      have hz2 := hb2.size
      have HB2 := Lib.hid (And.intro (HB1.out.1.trans (hb2.mono (by omega))) (tabs_below HB1.out.2.1 hb2 (by omega)))
      clear hcl hown hb2 HC HB1
      generalize Ln.L s.data.toList qa = La at *
      generalize Ln.L s.data.toList qb = Lb at *
      generalize Ln.S s.data.toList qa = Sa at *
      generalize Ln.S s.data.toList qb = Sb at *
      rcases HO.out with hlt | ⟨heq, hSe⟩
      · have t1 : decide ((La : Int) + 1 < (Lb : Int) + 1) = true := by simp; omega
        have t1' : (La : Int) + 1 < (Lb : Int) + 1 := by omega
        clear HO
        go_wp2_with fail
        go_still_tail 41, (by kernel_rfl)
        change wpList _ _ _ _ _ w2.drew
        clear c0 c1 c4 c5 t1 t1'
        go_wp2_with fail
        refine (wakes_any w2.drew HB2.out.2).mono ?_
        rintro e w5 ⟨rfl, hb5⟩
        have HB5 := Lib.hid (HB2.out.1.drew.trans (hb5.mono (by simp; omega)))
        clear hb5
        go_wp2
        go_ret
        exact ⟨rfl, HB5.out⟩
      · subst heq hSe
        have w1' : IntKind.i64.wrap ((qb : Int) - Sa - ((qa : Int) - Sa)) = (qb : Int) - qa := by rw [IntWalk.i64_in _ (by omega)]; omega
        have w2' : IntKind.i64.wrap ((qb : Int) - qa) = (qb : Int) - qa := IntWalk.i64_in _ (by omega)
        clear HO
        go_wp2_with fail
        go_still_tail 41, (by kernel_rfl)
        change wpList _ _ _ _ _ w2.drew
        clear c0 c1 c4 c5 w1' w2'
        go_wp2_with fail
        refine (wakes_any w2.drew HB2.out.2).mono ?_
        rintro e w5 ⟨rfl, hb5⟩
        have HB5 := Lib.hid (HB2.out.1.drew.trans (hb5.mono (by simp; omega)))
        clear hb5
        go_wp2
        go_ret
        exact ⟨rfl, HB5.out⟩
end Go.Proofs.YtfndlifolohlgaaDoor
