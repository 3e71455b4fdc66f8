/-
  The walk of laws.wakes: it returns true; what lay below stays.
  Conditions: the two tables of unicode/utf8 hold what the program's text lays.
-/
import Derived.Test.YtfndlifolohlgaaDoorSpots
namespace Go.Proofs.YtfndlifolohlgaaDoor
open Go Go.RowKit Ln
set_option maxRecDepth 100000

theorem ascii_vt (l : List UInt8) (h : ∀ p, bt l p < 128) : VT l := by
  refine ⟨⟨Nat.zero_le _, fun _ => by have := h 0; omega⟩, fun p hp _ => ⟨.inl (h p), ?_⟩⟩
  rw [dc_N, Lib.decodeN_ascii _ _ _ _ _ (h p)]
  exact ⟨by simp only; omega, fun _ => by simp only; have := h (p + 1); omega⟩
def wk : ByteArray := ⟨#[97, 10, 98]⟩
theorem wk_ok : AllOk wk [(2, 1)] := by
  have hb : ∀ p, bt wk.data.toList p < 128 := by
    intro p
    rcases (show p = 0 ∨ p = 1 ∨ p = 2 ∨ 3 ≤ p by omega) with rfl | rfl | rfl | h
    · decide
    · decide
    · decide
    · rw [bt_end _ _ (by simpa [wk] using h)]; omega
  refine ⟨by decide, ascii_vt _ hb, fun k hk => ?_⟩
  obtain rfl : k = 0 := by simpa using hk
  refine ⟨by decide, by decide, by decide, by decide, ⟨by decide, fun _ => ?_⟩, by unfold Nm; decide⟩
  have := hb 2
  show bt wk.data.toList 2 / 64 ≠ 2
  omega
theorem wk_cells : spotsCells wk [(2, 1)] 1 = [.int .i64 2, .int .i64 0, .int .i64 1, .string ⟨#[98]⟩] := by
  rfl

set_option maxHeartbeats 800000 in
theorem wakes_any (w : World) (hT : Lib.Utf8Tabs 1 2 w) : Calls Tryd.prog 13 #[] w fun e w' => e = .returned (.bool true) ∧ Below w.heap.size w w' := by
  have h3 := tabs_lt hT
  have HC : ∀ cap : Nat, Hid (Calls Tryd.prog 14 #[.string wk, .slice (some ⟨w.heap.size, 0, none⟩) 1 cap] (w.alloc (.cells #[.int .i64 2, .int .i64 1] 23)) (SpotsSay wk [(2, 1)] (w.alloc (.cells #[.int .i64 2, .int .i64 1] 23)))) := fun cap =>
    spots_any wk _ 1 cap [(2, 1)] _ (by omega) wk_ok (tabs_below hT ((Below.refl w.heap.size w).alloc (Nat.le_refl _) _) (by omega))
      ⟨rfl, fun _ => ⟨w.heap.size, 0, rfl, by simp, fun k hk => by
        obtain rfl : k = 0 := by omega
        exact ⟨(Bk.new w 23 _).cell 0, (Bk.new w 23 _).cell 1⟩⟩⟩
  go_enter Tryd.func13, Tryd.ntmps13
  go_wp2_with fail
  refine (HC 1).out.mono ?_
  rintro e w1 ⟨v, rfl, hown, hb⟩
  obtain ⟨g, cap, hv, hg1, hg2⟩ := hown.form (by decide)
  subst hv
  have hcl := hown.cells (g := g) rfl
  rw [show ([(2, 1)] : List (Int × Int)).length = 1 from rfl, wk_cells] at hcl
  have c0 : w1.cell? ⟨g, 0, none⟩ = some (.int .i64 2) := hcl 0 _ rfl
  have c1 : w1.cell? ⟨g, 1, none⟩ = some (.int .i64 0) := hcl 1 _ rfl
  have c2 : w1.cell? ⟨g, 2, none⟩ = some (.int .i64 1) := hcl 2 _ rfl
  have c3 : w1.cell? ⟨g, 3, none⟩ = some (.string ⟨#[98]⟩) := hcl 3 _ rfl
  have HB := Lib.hid (((Below.refl w.heap.size w).alloc (Nat.le_refl _) _).trans (hb.mono (by simp)))
  clear hown hcl hb HC
  go_wp2
  go_ret
  exact ⟨rfl, HB.out⟩
end Go.Proofs.YtfndlifolohlgaaDoor
