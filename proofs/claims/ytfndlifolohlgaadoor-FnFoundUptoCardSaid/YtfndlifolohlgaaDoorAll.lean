/-
  The walks of spec.IsPiece and laws.all: where 'all' says yes, the text is no longer than 2^20 bytes, valid UTF-8, and each piece lies within it and begins at a boundary that is not within a pair.
  Conditions: the text is no longer than 2^47 bytes; the slice reads as the pieces ps, and lies below the heap's size.
-/
import Derived.Test.YtfndlifolohlgaaDoorSpecA
import Derived.Test.YtfndlifolohlgaaDoorMem
namespace Go.Proofs.YtfndlifolohlgaaDoor
open Go Go.RowKit Ln
set_option maxRecDepth 100000

set_option maxHeartbeats 400000 in
theorem isPiece_true (s : ByteArray) (a n : Int) (w : World) (hs : s.size ≤ 140737488355328) (h1 : 0 ≤ a) (h2 : 0 ≤ n) (h3 : a ≤ s.size) (h4 : n ≤ s.size - a) :
    Calls Tryd.prog 16 #[.string s, .agg #[.int .i64 a, .int .i64 n]] w fun e w' => e = .returned (.bool true) ∧ Below w.heap.size w w' := by
  go_enter Tryd.func16, Tryd.ntmps16
  go_wp2
  go_ret
  exact ⟨rfl, (Below.refl _ _).alloc (Nat.le_refl _) _⟩
set_option maxHeartbeats 800000 in
theorem isPiece_false (s : ByteArray) (a n : Int) (w : World) (hs : s.size ≤ 140737488355328) (h : ¬ (0 ≤ a ∧ 0 ≤ n ∧ a ≤ s.size ∧ n ≤ s.size - a)) :
    Calls Tryd.prog 16 #[.string s, .agg #[.int .i64 a, .int .i64 n]] w fun e w' => e = .returned (.bool false) ∧ Below w.heap.size w w' := by
  rcases (show a < 0 ∨ (0 ≤ a ∧ n < 0) ∨ (0 ≤ a ∧ 0 ≤ n ∧ (s.size : Int) < a) ∨ (0 ≤ a ∧ 0 ≤ n ∧ a ≤ s.size ∧ (s.size : Int) - a < n) by omega) with h1 | ⟨h1, h2⟩ | ⟨h1, h2, h3⟩ | ⟨h1, h2, h3, h4⟩
  all_goals
    clear h
    try have hd : decide (n ≤ (s.size : Int) - a) = false := by simp; omega
    go_enter Tryd.func16, Tryd.ntmps16
    go_wp2
    go_ret
    exact ⟨rfl, (Below.refl _ _).alloc (Nat.le_refl _) _⟩

/-- a piece of the text that begins where a character does -/
def PcOk (s : ByteArray) (p : Int × Int) : Prop := 0 ≤ p.1 ∧ 0 ≤ p.2 ∧ p.1 ≤ s.size ∧ p.2 ≤ s.size - p.1 ∧ Bd s.data.toList p.1.toNat ∧ Nm s.data.toList p.1.toNat
def AllOk (s : ByteArray) (ps : List (Int × Int)) : Prop := s.size ≤ 1048576 ∧ VT s.data.toList ∧ ∀ k, k < ps.length → PcOk s (ps.getD k (0, 0))
/-- 'all says b' -/
def AllSays (s : ByteArray) (ps : List (Int × Int)) (w : World) (e : Ending) (w' : World) : Prop := ∃ b : Bool, Hid (b = true → AllOk s ps) ∧ e = .returned (.bool b) ∧ Below w.heap.size w w'

set_option maxHeartbeats 1600000 in
theorem all_some (s : ByteArray) (b off len cap : Nat) (ps : List (Int × Int)) (w : World) (hs : s.size ≤ 140737488355328) (hl : 0 < len) (hm : len ≤ 9223372036854775807)
    (hr : PcRd w w.heap.size (some ⟨b, off, none⟩) len ps) : Calls Tryd.prog 12 #[.string s, .slice (some ⟨b, off, none⟩) len cap] w (AllSays s ps w) := by
  have HR := Lib.hid hr
  clear hr
  have HT := Lib.hid (isText_any s w hs)
  go_enter Tryd.func12, Tryd.ntmps12
  go_wp2_with (go_at_call 28; refine HT.out.mono ?_; rintro e w' ⟨bt', hbb, rfl, rfl⟩; have HBB := Lib.hid hbb; clear hbb)
  · go_ret
    exact ⟨false, (fun h => by cases h), rfl, Below.refl _ _⟩
  · have hbt : bt' = true := by assumption
    have hv := Lib.hid (HBB.out hbt)
    have HZ : s.size ≤ 1048576 := by omega
    go_loopw [17] (fun i wr => ∃ k : Nat, i = .int .i64 k ∧ k ≤ len ∧ Below w.heap.size w wr ∧ Hid (∀ j, j < k → PcOk s (ps.getD j (0, 0)))) (fun i _ => len - (intOf i).toNat)
    case atStart => exact ⟨0, rfl, Nat.zero_le _, Below.refl _ _, fun j hj => by omega⟩
    case round =>
      obtain ⟨k, rfl, hk, hbl, HJ⟩ := hrel
      by_cases hlt : k < len
      · obtain ⟨b', off', he, _, hc⟩ := (HR.out.below hbl).2 hl
        simp only [Option.some.injEq, Addr.mk.injEq] at he
        obtain ⟨rfl, rfl, _⟩ := he
        have hcell := hc k hlt
        obtain ⟨a, m, hap⟩ : ∃ a m, ps.getD k (0, 0) = (a, m) := ⟨_, _, rfl⟩
        rw [hap] at hcell
        obtain ⟨hc1, hc2⟩ := hcell
        simp only at hc1 hc2
        have HAP := Lib.hid hap
        clear hc hap
        have hsize := hbl.size
        by_cases hp : 0 ≤ a ∧ 0 ≤ m ∧ a ≤ s.size ∧ m ≤ s.size - a
        · obtain ⟨p1, p2, p3, p4⟩ := hp
          obtain ⟨q, rfl⟩ := Int.eq_ofNat_of_zero_le p1
          go_wp2_with (first | (go_at_call 16; refine (isPiece_true s _ _ _ hs (by omega) (by omega) (by omega) (by omega)).mono ?_; rintro e w1 ⟨rfl, hb1⟩; have hcl : w1.cell? ⟨wr.heap.size, 0, none⟩ = some (.int .i64 q) := cell_new hb1 (by simp) 0) | (go_at_call 29; refine (begins_any s q _ hs hv.out (by omega)).mono ?_; rintro e w' ⟨bg, hbg, rfl, rfl⟩; have HBG := Lib.hid hbg; clear hbg))
          · go_ret
            exact ⟨false, (fun h => by cases h), rfl, (hbl.alloc hsize _).trans (hb1.mono (by simp; omega))⟩
          · have hbg : bg = true := by
              have h : (!bg) = false := by assumption
              simpa using h
            go_roundw
            case rel =>
              refine ⟨k + 1, by go_num, by omega, (hbl.alloc hsize _).trans (hb1.mono (by simp; omega)), fun j hj => ?_⟩
              rcases (show j < k ∨ j = k by omega) with h | h
              · exact HJ.out j h
              · subst h
                rw [HAP.out]
                exact ⟨p1, p2, p3, p4, HBG.out hbg⟩
            case measure => simp [intOf]; omega
        · go_wp2_with (go_at_call 16; refine (isPiece_false s _ _ _ hs hp).mono ?_; rintro e w1 ⟨rfl, hb1⟩)
          go_ret
          exact ⟨false, (fun h => by cases h), rfl, (hbl.alloc hsize _).trans (hb1.mono (by simp; omega))⟩
      · go_wp2
        go_ret
        refine ⟨true, fun _ => ⟨HZ, hv.out, fun j hj => HJ.out j ?_⟩, rfl, hbl⟩
        have := HR.out.1
        omega
  · go_ret
    exact ⟨false, (fun h => by cases h), rfl, Below.refl _ _⟩
set_option maxHeartbeats 800000 in
theorem all_none (s : ByteArray) (ao : Option Addr) (cap : Nat) (w : World) (hs : s.size ≤ 140737488355328) : Calls Tryd.prog 12 #[.string s, .slice ao 0 cap] w (AllSays s [] w) := by
  have HT := Lib.hid (isText_any s w hs)
  go_enter Tryd.func12, Tryd.ntmps12
  go_wp2_with (go_at_call 28; refine HT.out.mono ?_; rintro e w' ⟨bt', hbb, rfl, rfl⟩; have HBB := Lib.hid hbb; clear hbb)
  · go_ret
    exact ⟨false, (fun h => by cases h), rfl, Below.refl _ _⟩
  · have hbt : bt' = true := by assumption
    have hv := Lib.hid (HBB.out hbt)
    have HZ : s.size ≤ 1048576 := by omega
    refine wp_loop_rounds 1 ?_
    rw [rounds_succ]
    go_wp2
    go_ret
    exact ⟨true, fun _ => ⟨HZ, hv.out, fun j hj => by simp at hj⟩, rfl, Below.refl _ _⟩
  · go_ret
    exact ⟨false, (fun h => by cases h), rfl, Below.refl _ _⟩

theorem all_any (s : ByteArray) (ao : Option Addr) (len cap : Nat) (ps : List (Int × Int)) (w : World) (hs : s.size ≤ 140737488355328) (hm : len ≤ 9223372036854775807)
    (hr : PcRd w w.heap.size ao len ps) : Calls Tryd.prog 12 #[.string s, .slice ao len cap] w (AllSays s ps w) := by
  rcases Nat.eq_zero_or_pos len with h0 | h0
  · subst h0
    have : ps = [] := List.eq_nil_of_length_eq_zero hr.1
    subst this
    exact all_none s ao cap w hs
  · obtain ⟨b, off, rfl, _, _⟩ := hr.2 h0
    exact all_some s b off len cap ps w hs h0 hm hr
end Go.Proofs.YtfndlifolohlgaaDoor
