/-
  The walks of Source.TextForRange, impl.Cut and laws.FnCutIsThere: the law returns true for every text and every piece; what lay below stays.
  Conditions: the text is no longer than 2^47 bytes; the two tables of unicode/utf8 hold what the program's text lays.
-/
import Derived.Test.YtfndlifolohlgaaDoorOrder
namespace Go.Proofs.YtfndlifolohlgaaDoor
open Go Go.RowKit Ln
set_option maxRecDepth 100000
attribute [local irreducible] Go.wpStill

set_option maxHeartbeats 800000 in
theorem textFor_any (s : ByteArray) (h a n : Nat) (w : World) (c3 : w.cell? ⟨h, 3, none⟩ = some (.string s)) (hh : h < w.heap.size) (hz : s.size ≤ 1048576) (han : a + n ≤ s.size) :
    Calls Tryd.prog 35 #[.pointer (some ⟨h, 0, none⟩), .agg #[.int .i32 a, .int .i32 n]] w fun e w' => e = .returned (.string (s.extract a (a + n))) ∧ Below w.heap.size w w' := by
  have e3 : ∀ o1 : Obj, (w.alloc o1).cell? ⟨h, 3, none⟩ = some (.string s) := fun o1 => (World.cell?_alloc_lt w o1 _ hh).trans c3
  have wr : IntKind.i32.wrap ((a : Int) + n) = (a : Int) + n := by rw [IntKind.wrap_i32]; omega
  have tn : ((a : Int) + n).toNat = a + n := by omega
  have h0 : (0 : Int) ≤ (a : Int) + n := by omega
  have h1 : (a : Int) ≤ (a : Int) + n := by omega
  have h2 : (a : Int) + n ≤ s.size := by omega
  go_enter Tryd.func35, Tryd.ntmps35
  go_wp2
  go_quiet (fail)
  go_wp2
  go_ret
  exact ⟨rfl, below_dN ((Below.refl _ _).alloc (Nat.le_refl _) _) _⟩

set_option maxHeartbeats 800000 in
theorem cut_any (s : ByteArray) (a n : Nat) (w : World) (hz : s.size ≤ 1048576) (han : a + n ≤ s.size) :
    Calls Tryd.prog 17 #[.string s, .agg #[.int .i64 a, .int .i64 n]] w fun e w' => e = .returned (.string (s.extract a (a + n))) ∧ Below w.heap.size w w' := by
  go_enter Tryd.func17, Tryd.ntmps17
  go_wp2_with fail
  generalize hwa : w.alloc (.cells #[.int .i64 a, .int .i64 n] 23) = wa
  generalize hwb : wa.alloc _ = wb
  have c3 : wb.cell? ⟨wa.heap.size, 3, none⟩ = some (.string s) := by rw [← hwb]; exact (Bk.new wa 69 _).cell 3
  have hba : Below w.heap.size w wa := by rw [← hwa]; exact (Below.refl _ _).alloc (Nat.le_refl _) _
  have hbb : Below w.heap.size w wb := by rw [← hwb]; exact hba.alloc hba.size _
  have hzb : wa.heap.size < wb.heap.size := by rw [← hwb]; simp
  have hza : w.heap.size + 1 = wa.heap.size := by rw [← hwa]; simp
  refine (of_any _ _ _ (by omega) (by omega) (by omega) (by omega)).mono ?_
  rintro e w2 ⟨rfl, hb2⟩
  have hz2 := hb2.size
  have d3 : w2.cell? ⟨wa.heap.size, 3, none⟩ = some (.string s) := (hb2.cell (p := ⟨wa.heap.size, 3, none⟩) hzb).trans c3
  go_wp2_with fail
  refine (textFor_any s _ a n w2 d3 (by omega) hz han).mono ?_
  rintro e w3 ⟨rfl, hb3⟩
  have HB := Lib.hid ((hbb.trans (hb2.mono hbb.size)).trans (hb3.mono (by have := hbb.size; omega)))
  clear hb2 hb3 hba hbb c3 d3
  go_wp2
  go_ret
  exact ⟨rfl, HB.out⟩

set_option maxHeartbeats 1600000 in
theorem cutlaw_any (s : ByteArray) (a n : Int) (w : World) (hs : s.size ≤ 140737488355328) (hT : Lib.Utf8Tabs 1 2 w) :
    Calls Tryd.prog 6 #[.string s, .agg #[.int .i64 a, .int .i64 n]] w (Yes w) := by
  have h3 := tabs_lt hT
  have hT1 := tabs_below hT ((Below.refl w.heap.size w).alloc (Nat.le_refl _) (.cells #[.int .i64 a, .int .i64 n] 23)) (by omega)
  by_cases hz : (1048576 : Int) < s.size
  · have HT1 := Lib.hid hT1
    clear hT1
    go_enter Tryd.func6, Tryd.ntmps6
    go_wp2_with fail
    refine (wakes_any _ HT1.out).mono ?_
    rintro e w2 ⟨rfl, hb2⟩
    have HB := Lib.hid (((Below.refl w.heap.size w).alloc (Nat.le_refl _) _).trans (hb2.mono (by simp)))
    clear hb2
    go_wp2
    go_ret
    exact ⟨rfl, HB.out⟩
  · by_cases hp : 0 ≤ a ∧ 0 ≤ n ∧ a ≤ s.size ∧ n ≤ s.size - a
    · obtain ⟨p1, p2, p3, p4⟩ := hp
      obtain ⟨q, rfl⟩ := Int.eq_ofNat_of_zero_le p1
      obtain ⟨m, rfl⟩ := Int.eq_ofNat_of_zero_le p2
      have HT1 := Lib.hid hT1
      clear hT1
      go_enter Tryd.func6, Tryd.ntmps6
      go_wp2_with fail
      refine (isPiece_true s _ _ _ hs (by omega) (by omega) (by omega) (by omega)).mono ?_
      rintro e w2 ⟨rfl, hb2⟩
      have c0 : w2.cell? ⟨w.heap.size, 0, none⟩ = some (.int .i64 q) := cell_new hb2 (by simp) 0
      have c1 : w2.cell? ⟨w.heap.size, 1, none⟩ = some (.int .i64 m) := cell_new hb2 (by simp) 1
      have hz2 := hb2.size
      simp only [World.size_alloc] at hz2
      have HB := Lib.hid (And.intro (((Below.refl w.heap.size w).alloc (Nat.le_refl _) _).trans (hb2.mono (by simp))) (tabs_below HT1.out hb2 (by simp; omega)))
      clear hb2 HT1
      have wr : IntKind.i64.wrap ((q : Int) + m) = (q : Int) + m := IntWalk.i64_in _ (by omega)
      have tn : ((q : Int) + m).toNat = q + m := by omega
      have h0 : (0 : Int) ≤ (q : Int) + m := by omega
      have h1 : (q : Int) ≤ (q : Int) + m := by omega
      have h2 : (q : Int) + m ≤ s.size := by omega
      go_wp2_with fail
      go_region_held3 (fun w' => w'.cell? ⟨w.heap.size, 0, none⟩ = some (.int .i64 q) ∧ w'.cell? ⟨w.heap.size, 1, none⟩ = some (.int .i64 m))
        (first
          | go_keep
          | (go_split_ands
             refine ⟨?_, ?_⟩
             · (rw [hb3.cell (p := ⟨w.heap.size, 0, none⟩) (by simp; omega)]; assumption)
             · (rw [hb3.cell (p := ⟨w.heap.size, 1, none⟩) (by simp; omega)]; assumption))
          | (go_split_ands
             refine ⟨?_, ?_⟩
             · (rw [hb4.cell (p := ⟨w.heap.size, 0, none⟩) (by have hx := hb3.size; simp at hx ⊢; omega)]; assumption)
             · (rw [hb4.cell (p := ⟨w.heap.size, 1, none⟩) (by have hx := hb3.size; simp at hx ⊢; omega)]; assumption)))
        (first
          | (go_at_call 17; refine (cut_any s q m _ (by omega) (by omega)).mono ?_; rintro e w3 ⟨rfl, hb3⟩)
          | (go_at_call 13; refine (wakes_any _ (tabs_below (show Lib.Utf8Tabs 1 2 w2.drew from HB.out.2) hb3 (by simp; omega))).mono ?_; rintro e w4 ⟨rfl, hb4⟩))
      have hx3 := hb3.size
      have hx4 : w2.heap.size ≤ w3.heap.size := hx3
      have HB4 := Lib.hid ((HB.out.1.drew.trans (hb3.mono (by simp; omega))).trans (hb4.mono (by omega)))
      clear hb3 hb4 c0 c1
      go_wp2
      go_ret
      exact ⟨rfl, HB4.out⟩
    · have HT1 := Lib.hid hT1
      clear hT1
      go_enter Tryd.func6, Tryd.ntmps6
      go_wp2_with fail
      refine (isPiece_false s _ _ _ hs hp).mono ?_
      rintro e w2 ⟨rfl, hb2⟩
      have hz2 := hb2.size
      simp only [World.size_alloc] at hz2
      have HB := Lib.hid (And.intro (((Below.refl w.heap.size w).alloc (Nat.le_refl _) _).trans (hb2.mono (by simp))) (tabs_below HT1.out hb2 (by simp; omega)))
      clear hb2 HT1 hp
      go_wp2_with fail
      refine (wakes_any _ HB.out.2).mono ?_
      rintro e w3 ⟨rfl, hb3⟩
      have HB3 := Lib.hid (HB.out.1.trans (hb3.mono (by omega)))
      clear hb3
      go_wp2
      go_ret
      exact ⟨rfl, HB3.out⟩
end Go.Proofs.YtfndlifolohlgaaDoor
