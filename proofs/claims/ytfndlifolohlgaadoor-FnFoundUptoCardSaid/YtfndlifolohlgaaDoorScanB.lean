/-
  The walk of LineColumnTracker.scanTo: from what is known of one boundary of a valid text it comes to what is known of another, forward or backward; nothing but the tracker's own block is written.
  Conditions: the text is valid UTF-8 and no longer than 2^20 bytes; both places are boundaries; the two tables of unicode/utf8 hold what the program's text lays.
-/
import Derived.Test.YtfndlifolohlgaaDoorScan
namespace Go.Proofs.YtfndlifolohlgaaDoor
open Go Go.RowKit Ln
set_option maxRecDepth 100000


set_option maxHeartbeats 4000000 in
theorem scan_bwd (s : ByteArray) (g o q : Nat) (w : World) (hz : s.size ≤ 1048576) (hv : VT s.data.toList) (ho : Bd s.data.toList o) (hq : Bd s.data.toList q) (hoq : q < o) (h3 : 3 ≤ g) (hT : Lib.Utf8Tabs 1 2 w) (hI : TkI w g s o o) :
    Calls Tryd.prog 51 #[.pointer (some ⟨g, 0, none⟩), .int .i32 q] w (Scanned s g q w) := by
  have hos := ho.1
  rw [len_eq] at hos
  have HV := Lib.hid (And.intro hv (And.intro ho hq))
  have HT := Lib.hid hT
  have HI := Lib.hid hI
  obtain ⟨ls, le, hs, he, hbk, _, _⟩ := hI
  have c0 : w.cell? ⟨g, 0, none⟩ = some (.string s) := hbk.cell 0
  have c3 : w.cell? ⟨g, 3, none⟩ = some (.int .i32 o) := hbk.cell 3
  clear hbk hT ho hq hv
  have z1 : decide (o < q) = false := by simp; omega
  have z2 : decide (q < o) = true := by simp; omega
  go_enter Tryd.func51, Tryd.ntmps51
  go_wp2
  clear c0 c3 z1 z2
  go_loopw [5] (fun i wr => ∃ k : Nat, i = .int .i32 k ∧ q < k ∧ Hid (FwdRel s g o w k wr)) (fun i _ => (intOf i).toNat)
  case atStart => exact ⟨o, rfl, hoq, HV.out.2.1, HI.out, World.grownBy.refl _ _⟩
  case round =>
    obtain ⟨k, rfl, hkq, HR⟩ := hrel
    obtain ⟨p, c, n, hpn, hqp, hks, hd, hn1, hn4, hcm, hbn, h10, hbrk, hn10, hL, hS, hE⟩ := bwd_facts HV.out.1 HR.out.1 HV.out.2.2 hkq
    have HPN := Lib.hid hpn
    have HD := Lib.hid hd
    have HBN := Lib.hid hbn
    have HTr := Lib.hid (tabs_gb HT.out HR.out.2.2 h3)
    have HG := Lib.hid HR.out.2.2
    obtain ⟨ls', le', hs', he', hbk, hls, hle⟩ := HR.out.2.1
    have HLS := Lib.hid (And.intro hls hle)
    have hLk := L_le s.data.toList k
    have hnk : n ≤ k := by omega
    have hqk : (q : Int) ≤ (k : Int) - n := by omega
    have hbkk : ∀ w2, Below wr.heap.size wr w2 → Hid (Bk w2 g 71 (tkCells s o (Ln.L s.data.toList k : Nat) ls' le' hs' he')) := fun w2 h => hbk.below h hbk.lt
    clear hbk hd hbn HR hls hle HI
    obtain ⟨Lk, hLkk⟩ : ∃ Lk, Lk = Ln.L s.data.toList k := ⟨_, rfl⟩
    rw [← hLkk] at hLk
    have HLK := Lib.hid hLkk
    have hbkk : ∀ w2, Below wr.heap.size wr w2 → Hid (Bk w2 g 71 (tkCells s o (Lk : Nat) ls' le' hs' he')) := by rw [hLkk]; exact hbkk
    clear hLkk
    by_cases e10 : c = 10
    · obtain rfl : n = 1 := hn10 e10
      have hb := hbrk.2 (.inl e10)
      have hbt := h10.1 e10
      have t10 : ((c : Int) == 10) = true := by simp; omega
      rw [hb] at hS hE
      simp only [if_true] at hS hE
      have HS := Lib.hid hE
      by_cases hk0 : p = 0
      · rw [inc_lf hb (.inl hk0)] at hL
        simp only [if_true] at hL
        rw [← HLK.out] at hL
        have HL := Lib.hid hL
        have hk1 : k ≤ 1 := by omega
        have hLk1 : 1 ≤ Lk := by omega
        clear hL hS hE hb h10 hbrk hn10 e10 hbt hk0 hpn
        go_wp2_with (go_at_call 52; refine (dec_bwd s k c 1 _ (by omega) (by omega) HTr.out HD.out).mono ?_; rintro e w1 ⟨rfl, hb1⟩; have hK := hbkk w1 hb1; have d4 : w1.cell? ⟨g, 4, none⟩ = some (.int .i32 Lk) := hK.out.cell 4; have d3 : w1.cell? ⟨g, 3, none⟩ = some (.int .i32 o) := hK.out.cell 3; have d6 : w1.cell? ⟨g, 6, none⟩ = some (.int .i32 le') := hK.out.cell 6; have d7 : w1.cell? ⟨g, 7, none⟩ = some (.bool hs') := hK.out.cell 7; have d8 : w1.cell? ⟨g, 8, none⟩ = some (.bool he') := hK.out.cell 8; have f3 := hK.out.free 3; have f4 := hK.out.free 4; have f6 := hK.out.free 6; have f7 := hK.out.free 7; have f8 := hK.out.free 8)
        · have hpn := HPN.out
          have e : p = q := by omega
          have F := bb1 (hbkk w1 hb1).out (i := p) (x := 0) (y := (Lk : Int) - 1) (by rw [HS.out]; omega) (by have := HL.out; omega)
          have F2 := toff F.1 (x := 0) (by omega)
          refine bodyPost_ret (results_none rfl _ _ _) rfl ⟨rfl, ?_, ?_⟩
          · rw [← e]; exact F2.1
          · exact gb_trans (gb_trans HG.out (gb_below hb1)) (gb_trans F.2 F2.2)
      · have hk2 : 2 ≤ k := by omega
        have hk1 : k - 1 - 1 < s.size := by omega
        have ep : p - 1 = k - 1 - 1 := by omega
        by_cases h13 : bt s.data.toList (p - 1) = 13
        · rw [inc_crlf (by omega) hbt h13] at hL
          simp only [Bool.false_eq_true, if_false, Nat.add_zero] at hL
          rw [← HLK.out] at hL
          have HL := Lib.hid hL
          have t13 : (((s[k - 1 - 1]'hk1).toNat : Int) != 13) = false := by
            have := at_bt s (k - 1 - 1) hk1
            rw [this, ← ep, h13]; rfl
          clear hL hS hE hb h10 hbrk hn10 e10 hbt h13 ep hpn
          go_wp2_with (go_at_call 52; refine (dec_bwd s k c 1 _ (by omega) (by omega) HTr.out HD.out).mono ?_; rintro e w1 ⟨rfl, hb1⟩; have hK := hbkk w1 hb1; have d4 : w1.cell? ⟨g, 4, none⟩ = some (.int .i32 Lk) := hK.out.cell 4; have d3 : w1.cell? ⟨g, 3, none⟩ = some (.int .i32 o) := hK.out.cell 3; have d6 : w1.cell? ⟨g, 6, none⟩ = some (.int .i32 le') := hK.out.cell 6; have d7 : w1.cell? ⟨g, 7, none⟩ = some (.bool hs') := hK.out.cell 7; have d8 : w1.cell? ⟨g, 8, none⟩ = some (.bool he') := hK.out.cell 8; have f3 := hK.out.free 3; have f4 := hK.out.free 4; have f6 := hK.out.free 6; have f7 := hK.out.free 7; have f8 := hK.out.free 8)
          · have hpn := HPN.out
            have e : p = q := by omega
            have F := bb0 (hbkk w1 hb1).out (i := p) (x := (k : Int) - 1) (by rw [HS.out]; omega) (by have := HL.out; omega)
            have F2 := toff F.1 (x := (k : Int) - 1) (by omega)
            refine bodyPost_ret (results_none rfl _ _ _) rfl ⟨rfl, ?_, ?_⟩
            · rw [← e]; exact F2.1
            · exact gb_trans (gb_trans HG.out (gb_below hb1)) (gb_trans F.2 F2.2)
          · have hpn := HPN.out
            have F := bb0 (hbkk w1 hb1).out (i := p) (x := (k : Int) - 1) (by rw [HS.out]; omega) (by have := HL.out; omega)
            go_roundw
            case rel => exact ⟨p, by go_num, by omega, HBN.out, F.1, gb_trans (gb_trans HG.out (gb_below hb1)) F.2⟩
            case measure => simp [intOf]; omega
        · rw [inc_lf hb (.inr h13)] at hL
          simp only [if_true] at hL
          rw [← HLK.out] at hL
          have HL := Lib.hid hL
          have hLk1 : 1 ≤ Lk := by omega
          have t13 : (((s[k - 1 - 1]'hk1).toNat : Int) != 13) = true := by
            have := at_bt s (k - 1 - 1) hk1
            rw [this, ← ep]; simp; omega
          clear hL hS hE hb h10 hbrk hn10 e10 hbt h13 ep hpn
          go_wp2_with (go_at_call 52; refine (dec_bwd s k c 1 _ (by omega) (by omega) HTr.out HD.out).mono ?_; rintro e w1 ⟨rfl, hb1⟩; have hK := hbkk w1 hb1; have d4 : w1.cell? ⟨g, 4, none⟩ = some (.int .i32 Lk) := hK.out.cell 4; have d3 : w1.cell? ⟨g, 3, none⟩ = some (.int .i32 o) := hK.out.cell 3; have d6 : w1.cell? ⟨g, 6, none⟩ = some (.int .i32 le') := hK.out.cell 6; have d7 : w1.cell? ⟨g, 7, none⟩ = some (.bool hs') := hK.out.cell 7; have d8 : w1.cell? ⟨g, 8, none⟩ = some (.bool he') := hK.out.cell 8; have f3 := hK.out.free 3; have f4 := hK.out.free 4; have f6 := hK.out.free 6; have f7 := hK.out.free 7; have f8 := hK.out.free 8)
          · have hpn := HPN.out
            have e : p = q := by omega
            have F := bb1 (hbkk w1 hb1).out (i := p) (x := (k : Int) - 1) (y := (Lk : Int) - 1) (by rw [HS.out]; omega) (by have := HL.out; omega)
            have F2 := toff F.1 (x := (k : Int) - 1) (by omega)
            refine bodyPost_ret (results_none rfl _ _ _) rfl ⟨rfl, ?_, ?_⟩
            · rw [← e]; exact F2.1
            · exact gb_trans (gb_trans HG.out (gb_below hb1)) (gb_trans F.2 F2.2)
          · have hpn := HPN.out
            have F := bb1 (hbkk w1 hb1).out (i := p) (x := (k : Int) - 1) (y := (Lk : Int) - 1) (by rw [HS.out]; omega) (by have := HL.out; omega)
            go_roundw
            case rel => exact ⟨p, by go_num, by omega, HBN.out, F.1, gb_trans (gb_trans HG.out (gb_below hb1)) F.2⟩
            case measure => simp [intOf]; omega
    · have t10 : ((c : Int) == 10) = false := by simp; omega
      by_cases hb : brk s.data.toList p = true
      · rw [hb] at hS hE
        simp only [if_true] at hS hE
        rw [inc_plain hb (fun hh => e10 (h10.2 hh))] at hL
        simp only [if_true] at hL
        rw [← HLK.out] at hL
        have HL := Lib.hid hL
        have HS := Lib.hid hE
        have hLk1 : 1 ≤ Lk := by omega
        rcases (show c = 13 ∨ c = 8232 ∨ c = 8233 by have := hbrk.1 hb; omega) with rfl | rfl | rfl
        all_goals
          clear hL hS hE hb h10 hbrk hn10 e10 t10 hpn
          go_wp2_with (go_at_call 52; refine (dec_bwd s k _ n _ (by omega) (by omega) HTr.out HD.out).mono ?_; rintro e w1 ⟨rfl, hb1⟩; have hK := hbkk w1 hb1; have d4 : w1.cell? ⟨g, 4, none⟩ = some (.int .i32 Lk) := hK.out.cell 4; have d3 : w1.cell? ⟨g, 3, none⟩ = some (.int .i32 o) := hK.out.cell 3; have d6 : w1.cell? ⟨g, 6, none⟩ = some (.int .i32 le') := hK.out.cell 6; have d7 : w1.cell? ⟨g, 7, none⟩ = some (.bool hs') := hK.out.cell 7; have d8 : w1.cell? ⟨g, 8, none⟩ = some (.bool he') := hK.out.cell 8; have f3 := hK.out.free 3; have f4 := hK.out.free 4; have f6 := hK.out.free 6; have f7 := hK.out.free 7; have f8 := hK.out.free 8)
          · have hpn := HPN.out
            have e : p = q := by omega
            have F := bb1 (hbkk w1 hb1).out (i := p) (x := (k : Int) - n) (y := (Lk : Int) - 1) (by rw [HS.out]; omega) (by have := HL.out; omega)
            have F2 := toff F.1 (x := (k : Int) - n) (by omega)
            refine bodyPost_ret (results_none rfl _ _ _) rfl ⟨rfl, ?_, ?_⟩
            · rw [← e]; exact F2.1
            · exact gb_trans (gb_trans HG.out (gb_below hb1)) (gb_trans F.2 F2.2)
          · have hpn := HPN.out
            have F := bb1 (hbkk w1 hb1).out (i := p) (x := (k : Int) - n) (y := (Lk : Int) - 1) (by rw [HS.out]; omega) (by have := HL.out; omega)
            go_roundw
            case rel => exact ⟨p, by go_num, by omega, HBN.out, F.1, gb_trans (gb_trans HG.out (gb_below hb1)) F.2⟩
            case measure => simp [intOf]; omega
      · have hb' : brk s.data.toList p = false := by simpa using hb
        rw [hb'] at hS hE
        rw [inc_of_brk _ _ hb'] at hL
        simp only [Bool.false_eq_true, if_false, Nat.add_zero] at hS hE hL
        have ht : ¬ (c = 10 ∨ c = 13 ∨ c = 8232 ∨ c = 8233) := fun hh => hb (hbrk.2 hh)
        have t13 : ((c : Int) == 13) = false := by simp; omega
        have t28 : ((c : Int) == 8232) = false := by simp; omega
        have t29 : ((c : Int) == 8233) = false := by simp; omega
        have HE := Lib.hid (And.intro hL (And.intro hS hE))
        clear hL hS hE hb hb' h10 hbrk hn10 e10 ht hpn
        go_wp2_with (go_at_call 52; refine (dec_bwd s k _ n _ (by omega) (by omega) HTr.out HD.out).mono ?_; rintro e w1 ⟨rfl, hb1⟩; have hK := hbkk w1 hb1; have d4 : w1.cell? ⟨g, 4, none⟩ = some (.int .i32 Lk) := hK.out.cell 4; have d3 : w1.cell? ⟨g, 3, none⟩ = some (.int .i32 o) := hK.out.cell 3; have d6 : w1.cell? ⟨g, 6, none⟩ = some (.int .i32 le') := hK.out.cell 6; have d7 : w1.cell? ⟨g, 7, none⟩ = some (.bool hs') := hK.out.cell 7; have d8 : w1.cell? ⟨g, 8, none⟩ = some (.bool he') := hK.out.cell 8; have f3 := hK.out.free 3; have f4 := hK.out.free 4; have f6 := hK.out.free 6; have f7 := hK.out.free 7; have f8 := hK.out.free 8)
        · have hpn := HPN.out
          have e : p = q := by omega
          have F := And.intro (same_i (i := k) (j := p) (by rw [← HLK.out]; exact (hbkk w1 hb1).out) HLS.out.1 HLS.out.2 HE.out.1.symm HE.out.2.1.symm HE.out.2.2) (World.grownBy.refl w1 (some g))
          have F2 := toff F.1 (x := (k : Int) - n) (by omega)
          refine bodyPost_ret (results_none rfl _ _ _) rfl ⟨rfl, ?_, ?_⟩
          · rw [← e]; exact F2.1
          · exact gb_trans (gb_trans HG.out (gb_below hb1)) (gb_trans F.2 F2.2)
        · have hpn := HPN.out
          have F := And.intro (same_i (i := k) (j := p) (by rw [← HLK.out]; exact (hbkk w1 hb1).out) HLS.out.1 HLS.out.2 HE.out.1.symm HE.out.2.1.symm HE.out.2.2) (World.grownBy.refl w1 (some g))
          go_roundw
          case rel => exact ⟨p, by go_num, by omega, HBN.out, F.1, gb_trans (gb_trans HG.out (gb_below hb1)) F.2⟩
          case measure => simp [intOf]; omega
end Go.Proofs.YtfndlifolohlgaaDoor
