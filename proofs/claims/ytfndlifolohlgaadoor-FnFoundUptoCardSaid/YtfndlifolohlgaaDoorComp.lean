/-
  The walk of LineColumnTracker.computeLineAndColumn: asked for a boundary of a valid text it returns its line (from 0 on), its column, and where its line begins and ends; nothing but the tracker's own block is written.
  Conditions: the text is valid UTF-8 and no longer than 2^20 bytes; the place is a boundary; the two tables of unicode/utf8 hold what the program's text lays.
-/
import Derived.Test.YtfndlifolohlgaaDoorScanB
import Derived.Deep.DeepCutAuto
import Derived.Deep.QuietTactic
import Derived.BigQuiet
namespace Go.Proofs.YtfndlifolohlgaaDoor
open Go Go.RowKit Ln
set_option maxRecDepth 100000

set_option maxHeartbeats 400000 in
theorem scan_same (s : ByteArray) (g q : Nat) (w : World) (hI : TkI w g s q q) : Calls Tryd.prog 51 #[.pointer (some ⟨g, 0, none⟩), .int .i32 q] w (Scanned s g q w) := by
  have HI := Lib.hid hI
  obtain ⟨ls, le, hs, he, hbk, _, _⟩ := hI
  have c0 : w.cell? ⟨g, 0, none⟩ = some (.string s) := hbk.cell 0
  have c3 : w.cell? ⟨g, 3, none⟩ = some (.int .i32 q) := hbk.cell 3
  clear hbk
  go_enter Tryd.func51, Tryd.ntmps51
  go_wp2
  go_end0
  exact ⟨rfl, HI.out, World.grownBy.refl _ _⟩
theorem scan_any (s : ByteArray) (g o q : Nat) (w : World) (hz : s.size ≤ 1048576) (hv : VT s.data.toList) (ho : Bd s.data.toList o) (hq : Bd s.data.toList q) (h3 : 3 ≤ g) (hT : Lib.Utf8Tabs 1 2 w) (hI : TkI w g s o o) :
    Calls Tryd.prog 51 #[.pointer (some ⟨g, 0, none⟩), .int .i32 q] w (Scanned s g q w) := by
  rcases Nat.lt_trichotomy o q with h | h | h
  · exact scan_fwd s g o q w hz hv ho hq h h3 hT hI
  · subst h
    exact scan_same s g o w hI
  · exact scan_bwd s g o q w hz hv ho hq h h3 hT hI

theorem bd_len (s : ByteArray) : Bd s.data.toList s.size := ⟨by rw [len_eq]; exact Nat.le_refl _, fun h => by rw [len_eq] at h; omega⟩
theorem res4 {fn : Func} {t u v x : Tmp} (h : fn.results = #[.tmp t, .tmp u, .tmp v, .tmp x]) (tmps : Array Value) (P : Program) (w : World) :
    (results fn tmps).run P w = .ok (.tuple #[tmps.getD t undef, tmps.getD u undef, tmps.getD v undef, tmps.getD x undef]) w := by simp [results, h]

/-- what is marked as known is known -/
def Kn (b : Bool) (x : Int) (y : Nat) : Prop := b = true → x = (y : Int)
/-- behind the first half: the line's beginning is known -/
def HalfA (s : ByteArray) (g q : Nat) (w wx : World) : Prop :=
  ∃ (le : Int) (he : Bool), Bk wx g 71 (tkCells s q (Ln.L s.data.toList q : Nat) (Ln.S s.data.toList q : Nat) le true he) ∧ (he = true → le = (Ln.E s.data.toList q : Nat)) ∧ w.grownBy wx (some g)
/-- behind the second half -/
def HalfB (s : ByteArray) (g q : Nat) (w wx : World) : Prop :=
  Bk wx g 71 (tkCells s q (Ln.L s.data.toList q : Nat) (Ln.S s.data.toList q : Nat) (Ln.E s.data.toList q : Nat) true true) ∧ w.grownBy wx (some g)
def Computed (s : ByteArray) (g q : Nat) (w : World) (e : Ending) (w' : World) : Prop :=
  e = .returned (.tuple #[.int .i64 (Ln.L s.data.toList q : Nat), .int .i64 ((q : Int) - (Ln.S s.data.toList q : Nat)), .int .i64 (Ln.S s.data.toList q : Nat), .int .i64 (Ln.E s.data.toList q : Nat)]) ∧ TkI w' g s q q ∧ w.grownBy w' (some g)

set_option maxHeartbeats 4000000 in
theorem compute_any (s : ByteArray) (g o q : Nat) (w : World) (hz : s.size ≤ 1048576) (hv : VT s.data.toList) (ho : Bd s.data.toList o) (hq : Bd s.data.toList q) (h3 : 3 ≤ g) (hT : Lib.Utf8Tabs 1 2 w) (hI : TkI w g s o o) :
    Calls Tryd.prog 44 #[.pointer (some ⟨g, 0, none⟩), .int .i64 q] w (Computed s g q w) := by
  have hqs := hq.1
  rw [len_eq] at hqs
  have hSq := S_le hv q q (Nat.le_refl _) hq
  have hEq := E_bd s.data.toList q hq.1
  rw [len_eq] at hEq
  have hEq2 := hEq.2
  have hLq := L_le s.data.toList q
  have HC := Lib.hid (scan_any s g o q w hz hv ho hq h3 hT hI)
  have HV := Lib.hid (And.intro hv hq)
  have HT := Lib.hid hT
  clear hv ho hq hT hI hEq
  go_enter Tryd.func44, Tryd.ntmps44
  go_upto_if 25 with (go_at_call 51; refine HC.out.mono ?_; rintro e w1 ⟨rfl, ⟨ls, le, hs, he, hbk, (hls : Kn _ _ _), (hle : Kn _ _ _)⟩, hg⟩; have d7 : w1.cell? ⟨g, 7, none⟩ = some (.bool hs) := hbk.cell 7; have HB := Lib.hid (And.intro hbk (And.intro hls (And.intro hle hg))); clear hbk hls hle hg)
  go_cut [25] (fun _ wx => HalfA s g q w wx)
  case first =>
    cases hs with
    | true =>
      go_wp2
      go_meet
      exact ⟨le, he, by rw [← HB.out.2.1 rfl]; exact HB.out.1, HB.out.2.2.1, HB.out.2.2.2⟩
    | false =>
      simp only [Bool.not_false]
      have d0 : w1.cell? ⟨g, 0, none⟩ = some (.string s) := HB.out.1.cell 0
      have d3 : w1.cell? ⟨g, 3, none⟩ = some (.int .i32 q) := HB.out.1.cell 3
      go_wp2
      clear d0 d3 d7
      go_loopw [9] (fun i wr => ∃ k : Nat, i = .int .i32 k ∧ k ≤ q ∧ Hid (Bd s.data.toList k ∧ Ln.S s.data.toList k = Ln.S s.data.toList q ∧ Below w1.heap.size w1 wr)) (fun i _ => (intOf i).toNat)
      case atStart => exact ⟨q, rfl, Nat.le_refl _, HV.out.2, rfl, Below.refl _ _⟩
      case round =>
        obtain ⟨k, rfl, hkq, HR⟩ := hrel
        have HTr := Lib.hid (tabs_gb (tabs_gb HT.out HB.out.2.2.2 h3) (gb_below HR.out.2.2) h3)
        have hbk := HB.out.1.below HR.out.2.2 HB.out.1.lt
        by_cases hk0 : 0 < k
        · obtain ⟨p, c, n, hpn, hqp, hks, hd, hn1, hn4, hcm, hbn, h10, hbrk, hn10, hL, hS, hE⟩ := bwd_facts HV.out.1 HR.out.1 HV.out.1.1 hk0
          have HD := Lib.hid hd
          have HPN := Lib.hid hpn
          have hnk : n ≤ k := by omega
          have HSS := Lib.hid hS
          have HBP := Lib.hid hbn
          have HX := Lib.hid hbrk
          have hKK : ∀ w2, Below wr.heap.size wr w2 → Hid (Bk w2 g 71 (tkCells s q (Ln.L s.data.toList q : Nat) ls le false he)) := fun w2 h => hbk.below h hbk.lt
          clear hd hpn hbn hL hS hE h10 hn10 hbrk hbk
          by_cases hend : c = 10 ∨ c = 13 ∨ c = 8232 ∨ c = 8233
          · have hkS : k = Ln.S s.data.toList q := by
              rw [← HR.out.2.1, HSS.out, HX.out.2 hend]; rfl
            have HKS := Lib.hid hkS
            clear hkS
            rcases hend with rfl | rfl | rfl | rfl
            all_goals
              go_wp2_with (go_at_call 52; refine (dec_bwd s k _ n _ (by omega) (by omega) HTr.out HD.out).mono ?_; rintro e w2 ⟨rfl, hb2⟩; have hK := hKK w2 hb2; have d7 : w2.cell? ⟨g, 7, none⟩ = some (.bool false) := hK.out.cell 7; have d5 : w2.cell? ⟨g, 5, none⟩ = some (.int .i32 ls) := hK.out.cell 5; have f5 := hK.out.free 5; have f7 := hK.out.free 7)
              go_meet
              refine ⟨le, he, by rw [← HKS.out]; exact Tk5 (Tk7 hK.out _) _, HB.out.2.2.1, ?_⟩
              exact gb_trans (gb_trans HB.out.2.2.2 (gb_trans (gb_below HR.out.2.2) (gb_below hb2))) (gb_trans (gb_set _ _ _ _) (gb_set _ _ _ _))
          · have hb' : brk s.data.toList p = false := by
              cases h : brk s.data.toList p with
              | false => rfl
              | true => exact absurd (HX.out.1 h) hend
            have t10 : ((c : Int) == 10) = false := by simp; omega
            have t13 : ((c : Int) == 13) = false := by simp; omega
            have t28 : ((c : Int) == 8232) = false := by simp; omega
            have t29 : ((c : Int) == 8233) = false := by simp; omega
            have hSp : Ln.S s.data.toList p = Ln.S s.data.toList q := by
              rw [← HR.out.2.1, HSS.out, hb']; rfl
            have HSP := Lib.hid hSp
            clear hSp hb' hend
            go_wp2_with (go_at_call 52; refine (dec_bwd s k _ n _ (by omega) (by omega) HTr.out HD.out).mono ?_; rintro e w2 ⟨rfl, hb2⟩)
            have hpn := HPN.out
            go_roundw
            case rel => exact ⟨p, by go_num, by omega, HBP.out, HSP.out, HR.out.2.2.trans (hb2.mono HR.out.2.2.size)⟩
            case measure => simp [intOf]; omega
        · have hkS : k = Ln.S s.data.toList q := by
            rw [← HR.out.2.1]
            obtain rfl : k = 0 := by omega
            rfl
          have HKS := Lib.hid hkS
          clear hkS
          have d7 : wr.cell? ⟨g, 7, none⟩ = some (.bool false) := hbk.cell 7
          have d5 : wr.cell? ⟨g, 5, none⟩ = some (.int .i32 ls) := hbk.cell 5
          have f5 := hbk.free 5
          have f7 := hbk.free 7
          have HBK := Lib.hid hbk
          clear hbk
          go_wp2
          go_meet
          refine ⟨le, he, ?_, HB.out.2.2.1, ?_⟩
          · rw [← HKS.out]
            exact Tk5 (Tk7 HBK.out _) _
          · exact gb_trans (gb_trans HB.out.2.2.2 (gb_below HR.out.2.2)) (gb_trans (gb_set _ _ _ _) (gb_set _ _ _ _))
  case rest =>
    obtain ⟨le1, he1, hbk1, (hle1 : Kn _ _ _), hg1⟩ := hcut
    have d8 : wc.cell? ⟨g, 8, none⟩ = some (.bool he1) := hbk1.cell 8
    have HB1 := Lib.hid (And.intro hbk1 (And.intro hle1 hg1))
    clear hbk1 hle1 hg1 HB d7
    obtain ⟨wx, rfl⟩ : ∃ wx : World, wx = wc := ⟨_, rfl⟩
    go_upto_if 72 with (fail)
    go_cut [72] (fun _ wy => HalfB s g q w wy)
    case first =>
      cases he1 with
      | true =>
        go_wp2
        go_meet
        refine ⟨?_, HB1.out.2.2⟩
        rw [← HB1.out.2.1 rfl]
        exact HB1.out.1
      | false =>
        simp only [Bool.not_false]
        have d0 : wx.cell? ⟨g, 0, none⟩ = some (.string s) := HB1.out.1.cell 0
        have d3 : wx.cell? ⟨g, 3, none⟩ = some (.int .i32 q) := HB1.out.1.cell 3
        go_wp2
        clear d0 d3 d8
        go_loopw [13] (fun i wr => ∃ k : Nat, i = .int .i32 k ∧ q ≤ k ∧ k ≤ s.size ∧ Hid (Bd s.data.toList k ∧ Ln.E s.data.toList k = Ln.E s.data.toList q ∧ Below wx.heap.size wx wr)) (fun i _ => s.size - (intOf i).toNat)
        case atStart => exact ⟨q, rfl, Nat.le_refl _, hqs, HV.out.2, rfl, Below.refl _ _⟩
        case round =>
          obtain ⟨k, rfl, hkq, hks, HR⟩ := hrel
          have HTr := Lib.hid (tabs_gb (tabs_gb HT.out HB1.out.2.2 h3) (gb_below HR.out.2.2) h3)
          have hbk := HB1.out.1.below HR.out.2.2 HB1.out.1.lt
          by_cases hk0 : k < s.size
          · obtain ⟨c, n, hd, hn1, hn4, hkn, hqs2, hcm, hbn, h10, hbrk, hn10, hL, hS, hE⟩ := fwd_facts HV.out.1 HR.out.1 (bd_len s) hk0
            have HD := Lib.hid hd
            have HEE := Lib.hid hE
            have HBP := Lib.hid hbn
            have HX := Lib.hid hbrk
            have hKK : ∀ w2, Below wr.heap.size wr w2 → Hid (Bk w2 g 71 (tkCells s q (Ln.L s.data.toList q : Nat) (Ln.S s.data.toList q : Nat) le1 true false)) := fun w2 h => hbk.below h hbk.lt
            clear hd hbn hL hS hE h10 hn10 hbrk hbk
            by_cases hend : c = 10 ∨ c = 13 ∨ c = 8232 ∨ c = 8233
            · have hkE : k = Ln.E s.data.toList q := by
                rw [← HR.out.2.1, HEE.out, HX.out.2 hend]; rfl
              have HKE := Lib.hid hkE
              clear hkE
              rcases hend with rfl | rfl | rfl | rfl
              all_goals
                go_wp2_with (go_at_call 53; refine (dec_fwd s k _ n _ (by omega) HTr.out HD.out).mono ?_; rintro e w2 ⟨rfl, hb2⟩; have hK := hKK w2 hb2; have d8 : w2.cell? ⟨g, 8, none⟩ = some (.bool false) := hK.out.cell 8; have d6 : w2.cell? ⟨g, 6, none⟩ = some (.int .i32 le1) := hK.out.cell 6; have f6 := hK.out.free 6; have f8 := hK.out.free 8)
                go_meet
                refine ⟨by rw [← HKE.out]; exact Tk6 (Tk8 hK.out _) _, ?_⟩
                exact gb_trans (gb_trans HB1.out.2.2 (gb_trans (gb_below HR.out.2.2) (gb_below hb2))) (gb_trans (gb_set _ _ _ _) (gb_set _ _ _ _))
            · have hb' : brk s.data.toList k = false := by
                cases h : brk s.data.toList k with
                | false => rfl
                | true => exact absurd (HX.out.1 h) hend
              have t10 : ((c : Int) == 10) = false := by simp; omega
              have t13 : ((c : Int) == 13) = false := by simp; omega
              have t28 : ((c : Int) == 8232) = false := by simp; omega
              have t29 : ((c : Int) == 8233) = false := by simp; omega
              have hEp : Ln.E s.data.toList (k + n) = Ln.E s.data.toList q := by
                rw [← HR.out.2.1, HEE.out, hb']; rfl
              have HEP := Lib.hid hEp
              clear hEp hb' hend
              go_wp2_with (go_at_call 53; refine (dec_fwd s k _ n _ (by omega) HTr.out HD.out).mono ?_; rintro e w2 ⟨rfl, hb2⟩)
              go_roundw
              case rel => exact ⟨k + n, by go_num, by omega, by omega, HBP.out, HEP.out, HR.out.2.2.trans (hb2.mono HR.out.2.2.size)⟩
              case measure => simp [intOf]; omega
          · have hkE : k = Ln.E s.data.toList q := by
              rw [← HR.out.2.1]
              exact (E_end _ _ (by rw [len_eq]; omega)).symm
            have HKE := Lib.hid hkE
            clear hkE
            have d8 : wr.cell? ⟨g, 8, none⟩ = some (.bool false) := hbk.cell 8
            have d6 : wr.cell? ⟨g, 6, none⟩ = some (.int .i32 le1) := hbk.cell 6
            have f6 := hbk.free 6
            have f8 := hbk.free 8
            have HBK := Lib.hid hbk
            clear hbk
            go_wp2
            go_meet
            refine ⟨by rw [← HKE.out]; exact Tk6 (Tk8 HBK.out _) _, ?_⟩
            exact gb_trans (gb_trans HB1.out.2.2 (gb_below HR.out.2.2)) (gb_trans (gb_set _ _ _ _) (gb_set _ _ _ _))
    case rest =>
      obtain ⟨hbk2, hg2⟩ := hcut
      have d4 : wc.cell? ⟨g, 4, none⟩ = some (.int .i32 (Ln.L s.data.toList q : Nat)) := hbk2.cell 4
      have d5 : wc.cell? ⟨g, 5, none⟩ = some (.int .i32 (Ln.S s.data.toList q : Nat)) := hbk2.cell 5
      have d6 : wc.cell? ⟨g, 6, none⟩ = some (.int .i32 (Ln.E s.data.toList q : Nat)) := hbk2.cell 6
      have HB2 := Lib.hid (And.intro hbk2 hg2)
      clear hbk2 hg2 HB1 d8
      go_wp2
      go_quiet (fail)
      go_wp2
      refine bodyPost_ret (res4 rfl _ _ _) rfl ⟨rfl, ?_, ?_⟩
      · exact ⟨_, _, _, _, HB2.out.1, fun _ => rfl, fun _ => rfl⟩
      · exact gb_drewN HB2.out.2 _
end Go.Proofs.YtfndlifolohlgaaDoor
