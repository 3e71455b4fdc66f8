/-
  The walk of LineColumnTracker.scanTo: from what is known of one boundary of a valid text it comes to what is known of another, forward or backward; nothing but the tracker's own block is written.
  Conditions: the text is valid UTF-8 and no longer than 2^20 bytes; both places are boundaries; the two tables of unicode/utf8 hold what the program's text lays.
-/
import Derived.Test.YtfndlifolohlgaaDoorTk
namespace Go.Proofs.YtfndlifolohlgaaDoor
open Go Go.RowKit Ln
set_option maxRecDepth 100000

section
variable {w1 : World} {g : Nat} {s : ByteArray} {o ln ls le : Int} {hs he : Bool}
theorem Tk3 (h : Bk w1 g 71 (tkCells s o ln ls le hs he)) (x : Int) : Bk (w1.setCell ⟨g, 3, none⟩ (.int .i32 x)) g 71 (tkCells s x ln ls le hs he) := h.put 3 _
theorem Tk4 (h : Bk w1 g 71 (tkCells s o ln ls le hs he)) (x : Int) : Bk (w1.setCell ⟨g, 4, none⟩ (.int .i32 x)) g 71 (tkCells s o x ls le hs he) := h.put 4 _
theorem Tk5 (h : Bk w1 g 71 (tkCells s o ln ls le hs he)) (x : Int) : Bk (w1.setCell ⟨g, 5, none⟩ (.int .i32 x)) g 71 (tkCells s o ln x le hs he) := h.put 5 _
theorem Tk6 (h : Bk w1 g 71 (tkCells s o ln ls le hs he)) (x : Int) : Bk (w1.setCell ⟨g, 6, none⟩ (.int .i32 x)) g 71 (tkCells s o ln ls x hs he) := h.put 6 _
theorem Tk7 (h : Bk w1 g 71 (tkCells s o ln ls le hs he)) (b : Bool) : Bk (w1.setCell ⟨g, 7, none⟩ (.bool b)) g 71 (tkCells s o ln ls le b he) := h.put 7 _
theorem Tk8 (h : Bk w1 g 71 (tkCells s o ln ls le hs he)) (b : Bool) : Bk (w1.setCell ⟨g, 8, none⟩ (.bool b)) g 71 (tkCells s o ln ls le hs b) := h.put 8 _

/-- an end of a line, forward -/
theorem fb1 (h : Bk w1 g 71 (tkCells s o ln ls le hs he)) {i : Nat} {x y : Int} (hx : x = (Ln.S s.data.toList i : Nat)) (hy : y = (Ln.L s.data.toList i : Nat)) :
    TkI ((((w1.setCell ⟨g, 7, none⟩ (.bool true)).setCell ⟨g, 8, none⟩ (.bool false)).setCell ⟨g, 5, none⟩ (.int .i32 x)).setCell ⟨g, 4, none⟩ (.int .i32 y)) g s o i ∧
    w1.grownBy ((((w1.setCell ⟨g, 7, none⟩ (.bool true)).setCell ⟨g, 8, none⟩ (.bool false)).setCell ⟨g, 5, none⟩ (.int .i32 x)).setCell ⟨g, 4, none⟩ (.int .i32 y)) (some g) := by
  subst hx hy
  exact ⟨⟨_, _, _, _, Tk4 (Tk5 (Tk8 (Tk7 h _) _) _) _, fun _ => rfl, fun hh => by cases hh⟩, gb_trans (gb_trans (gb_trans (gb_set _ _ _ _) (gb_set _ _ _ _)) (gb_set _ _ _ _)) (gb_set _ _ _ _)⟩
/-- the line feed behind a carriage return, forward -/
theorem fb0 (h : Bk w1 g 71 (tkCells s o ln ls le hs he)) {i : Nat} {x : Int} (hx : x = (Ln.S s.data.toList i : Nat)) (hy : ln = (Ln.L s.data.toList i : Nat)) :
    TkI (((w1.setCell ⟨g, 7, none⟩ (.bool true)).setCell ⟨g, 8, none⟩ (.bool false)).setCell ⟨g, 5, none⟩ (.int .i32 x)) g s o i ∧
    w1.grownBy (((w1.setCell ⟨g, 7, none⟩ (.bool true)).setCell ⟨g, 8, none⟩ (.bool false)).setCell ⟨g, 5, none⟩ (.int .i32 x)) (some g) := by
  subst hx hy
  exact ⟨⟨_, _, _, _, Tk5 (Tk8 (Tk7 h _) _) _, fun _ => rfl, fun hh => by cases hh⟩, gb_trans (gb_trans (gb_set _ _ _ _) (gb_set _ _ _ _)) (gb_set _ _ _ _)⟩
/-- an end of a line, backward -/
theorem bb1 (h : Bk w1 g 71 (tkCells s o ln ls le hs he)) {i : Nat} {x y : Int} (hx : x = (Ln.E s.data.toList i : Nat)) (hy : y = (Ln.L s.data.toList i : Nat)) :
    TkI ((((w1.setCell ⟨g, 7, none⟩ (.bool false)).setCell ⟨g, 8, none⟩ (.bool true)).setCell ⟨g, 6, none⟩ (.int .i32 x)).setCell ⟨g, 4, none⟩ (.int .i32 y)) g s o i ∧
    w1.grownBy ((((w1.setCell ⟨g, 7, none⟩ (.bool false)).setCell ⟨g, 8, none⟩ (.bool true)).setCell ⟨g, 6, none⟩ (.int .i32 x)).setCell ⟨g, 4, none⟩ (.int .i32 y)) (some g) := by
  subst hx hy
  exact ⟨⟨_, _, _, _, Tk4 (Tk6 (Tk8 (Tk7 h _) _) _) _, fun hh => (by cases hh), fun _ => rfl⟩, gb_trans (gb_trans (gb_trans (gb_set _ _ _ _) (gb_set _ _ _ _)) (gb_set _ _ _ _)) (gb_set _ _ _ _)⟩
theorem bb0 (h : Bk w1 g 71 (tkCells s o ln ls le hs he)) {i : Nat} {x : Int} (hx : x = (Ln.E s.data.toList i : Nat)) (hy : ln = (Ln.L s.data.toList i : Nat)) :
    TkI (((w1.setCell ⟨g, 7, none⟩ (.bool false)).setCell ⟨g, 8, none⟩ (.bool true)).setCell ⟨g, 6, none⟩ (.int .i32 x)) g s o i ∧
    w1.grownBy (((w1.setCell ⟨g, 7, none⟩ (.bool false)).setCell ⟨g, 8, none⟩ (.bool true)).setCell ⟨g, 6, none⟩ (.int .i32 x)) (some g) := by
  subst hx hy
  exact ⟨⟨_, _, _, _, Tk6 (Tk8 (Tk7 h _) _) _, fun hh => (by cases hh), fun _ => rfl⟩, gb_trans (gb_trans (gb_set _ _ _ _) (gb_set _ _ _ _)) (gb_set _ _ _ _)⟩
/-- the place itself is stored last -/
theorem toff {w : World} {i : Nat} {x : Int} (h : TkI w g s o i) (hx : x = (i : Nat)) : TkI (w.setCell ⟨g, 3, none⟩ (.int .i32 x)) g s (i : Nat) i ∧ w.grownBy (w.setCell ⟨g, 3, none⟩ (.int .i32 x)) (some g) := by
  subst hx
  obtain ⟨ls, le, hs, he, hb, h1, h2⟩ := h
  exact ⟨⟨_, _, _, _, Tk3 hb _, h1, h2⟩, gb_set _ _ _ _⟩
/-- no end of a line -/
theorem same_i {w : World} {i j : Nat} {ls le : Int} {hs he : Bool} (h : Bk w g 71 (tkCells s o (Ln.L s.data.toList i : Nat) ls le hs he)) (h1 : hs = true → ls = (Ln.S s.data.toList i : Nat)) (h2 : he = true → le = (Ln.E s.data.toList i : Nat))
    (hL : Ln.L s.data.toList j = Ln.L s.data.toList i) (hS : Ln.S s.data.toList j = Ln.S s.data.toList i) (hE : Ln.E s.data.toList j = Ln.E s.data.toList i) : TkI w g s o j := by
  refine ⟨ls, le, hs, he, by rw [hL]; exact h, fun hh => ?_, fun hh => ?_⟩
  · rw [hS]; exact h1 hh
  · rw [hE]; exact h2 hh
end

/-- what scanTo comes to -/
def Scanned (s : ByteArray) (g q : Nat) (w : World) (e : Ending) (w' : World) : Prop := e = .returned (.tuple #[]) ∧ TkI w' g s (q : Nat) q ∧ w.grownBy w' (some g)
def FwdRel (s : ByteArray) (g : Nat) (o : Int) (w : World) (k : Nat) (wr : World) : Prop := Bd s.data.toList k ∧ TkI wr g s o k ∧ w.grownBy wr (some g)

set_option maxHeartbeats 4000000 in
theorem scan_fwd (s : ByteArray) (g o q : Nat) (w : World) (hz : s.size ≤ 1048576) (hv : VT s.data.toList) (ho : Bd s.data.toList o) (hq : Bd s.data.toList q) (hoq : o < q) (h3 : 3 ≤ g) (hT : Lib.Utf8Tabs 1 2 w) (hI : TkI w g s o o) :
    Calls Tryd.prog 51 #[.pointer (some ⟨g, 0, none⟩), .int .i32 q] w (Scanned s g q w) := by
  have hqs := hq.1
  rw [len_eq] at hqs
  have HV := Lib.hid (And.intro hv (And.intro ho hq))
  have HT := Lib.hid hT
  have HI := Lib.hid hI
  obtain ⟨ls, le, hs, he, hbk, _, _⟩ := hI
  have c0 : w.cell? ⟨g, 0, none⟩ = some (.string s) := hbk.cell 0
  have c3 : w.cell? ⟨g, 3, none⟩ = some (.int .i32 o) := hbk.cell 3
  clear hbk hT ho hq hv
  go_enter Tryd.func51, Tryd.ntmps51
  go_wp2
  clear c0 c3
  go_loopw [5] (fun i wr => ∃ k : Nat, i = .int .i32 k ∧ k < q ∧ Hid (FwdRel s g o w k wr)) (fun i _ => q - (intOf i).toNat)
  case atStart => exact ⟨o, rfl, hoq, HV.out.2.1, HI.out, World.grownBy.refl _ _⟩
  case round =>
    obtain ⟨k, rfl, hkq, HR⟩ := hrel
    obtain ⟨c, n, hd, hn1, hn4, hkn, hqs2, hcm, hbn, h10, hbrk, hn10, hL, hS, hE⟩ := fwd_facts HV.out.1 HR.out.1 HV.out.2.2 hkq
    have HD := Lib.hid hd
    have HBN := Lib.hid hbn
    have HTr := Lib.hid (tabs_gb HT.out HR.out.2.2 h3)
    have HG := Lib.hid HR.out.2.2
    obtain ⟨ls', le', hs', he', hbk, hls, hle⟩ := HR.out.2.1
    have HLS := Lib.hid (And.intro hls hle)
    have hLk := L_le s.data.toList k
    have hbkk : ∀ w2, Below wr.heap.size wr w2 → Hid (Bk w2 g 71 (tkCells s o (Ln.L s.data.toList k : Nat) ls' le' hs' he')) := fun w2 h => hbk.below h hbk.lt
    clear hbk hd hbn HR hls hle HI
    obtain ⟨Lk, hLkk⟩ : ∃ Lk, Lk = Ln.L s.data.toList k := ⟨_, rfl⟩
    rw [← hLkk] at hLk
    have HLK := Lib.hid hLkk
    have hbkk : ∀ w2, Below wr.heap.size wr w2 → Hid (Bk w2 g 71 (tkCells s o (Lk : Nat) ls' le' hs' he')) := by rw [hLkk]; exact hbkk
    clear hLkk
    by_cases e10 : c = 10
    · obtain rfl : n = 1 := hn10 e10
      have hb := hbrk.2 (.inl e10)
      have hbt := h10.1 e10
      have t10 : ((c : Int) == 10) = true := by simp; omega
      rw [hb] at hS hE
      simp only [if_true] at hS hE
      have HS := Lib.hid hS
      by_cases hk0 : k = 0
      · rw [inc_lf hb (.inl hk0)] at hL
        simp only [if_true] at hL
        rw [← HLK.out] at hL
        have HL := Lib.hid hL
        clear hL hS hE hb h10 hbrk hn10 e10 hbt
        have hk0' : k ≤ 0 := by omega
        clear hk0
        go_wp2_with (go_at_call 53; refine (dec_fwd s k c 1 _ (by omega) HTr.out HD.out).mono ?_; rintro e w1 ⟨rfl, hb1⟩; have hK := hbkk w1 hb1; have d4 : w1.cell? ⟨g, 4, none⟩ = some (.int .i32 Lk) := hK.out.cell 4; have d3 : w1.cell? ⟨g, 3, none⟩ = some (.int .i32 o) := hK.out.cell 3; have d5 : w1.cell? ⟨g, 5, none⟩ = some (.int .i32 ls') := hK.out.cell 5; have d7 : w1.cell? ⟨g, 7, none⟩ = some (.bool hs') := hK.out.cell 7; have d8 : w1.cell? ⟨g, 8, none⟩ = some (.bool he') := hK.out.cell 8; have f3 := hK.out.free 3; have f4 := hK.out.free 4; have f5 := hK.out.free 5; have f7 := hK.out.free 7; have f8 := hK.out.free 8)
        · have e : k + 1 = q := by omega
          have F := fb1 (hbkk w1 hb1).out (i := k + 1) (x := 1) (y := (Lk : Int) + 1) (by rw [HS.out]; omega) (by rw [HL.out]; omega)
          have F2 := toff F.1 (x := 1) (by omega)
          refine bodyPost_ret (results_none rfl _ _ _) rfl ⟨rfl, ?_, ?_⟩
          · rw [← e]; exact F2.1
          · exact gb_trans (gb_trans HG.out (gb_below hb1)) (gb_trans F.2 F2.2)
        · go_roundw
          case rel =>
            have F := fb1 (hbkk w1 hb1).out (i := k + 1) (x := 1) (y := (Lk : Int) + 1) (by rw [HS.out]; omega) (by rw [HL.out]; omega)
            exact ⟨k + 1, by go_num, by omega, HBN.out, F.1, gb_trans (gb_trans HG.out (gb_below hb1)) F.2⟩
          case measure => simp [intOf]; omega
      · have hk1 : k - 1 < s.size := by omega
        by_cases h13 : bt s.data.toList (k - 1) = 13
        · rw [inc_crlf (by omega) hbt h13] at hL
          simp only [Bool.false_eq_true, if_false, Nat.add_zero] at hL
          rw [← HLK.out] at hL
          have HL := Lib.hid hL
          have t13 : (((s[k - 1]'hk1).toNat : Int) != 13) = false := by
            have := at_bt s (k - 1) hk1
            rw [this, h13]; rfl
          clear hL hS hE hb h10 hbrk hn10 e10 hbt h13
          go_wp2_with (go_at_call 53; refine (dec_fwd s k c 1 _ (by omega) HTr.out HD.out).mono ?_; rintro e w1 ⟨rfl, hb1⟩; have hK := hbkk w1 hb1; have d4 : w1.cell? ⟨g, 4, none⟩ = some (.int .i32 Lk) := hK.out.cell 4; have d3 : w1.cell? ⟨g, 3, none⟩ = some (.int .i32 o) := hK.out.cell 3; have d5 : w1.cell? ⟨g, 5, none⟩ = some (.int .i32 ls') := hK.out.cell 5; have d7 : w1.cell? ⟨g, 7, none⟩ = some (.bool hs') := hK.out.cell 7; have d8 : w1.cell? ⟨g, 8, none⟩ = some (.bool he') := hK.out.cell 8; have f3 := hK.out.free 3; have f4 := hK.out.free 4; have f5 := hK.out.free 5; have f7 := hK.out.free 7; have f8 := hK.out.free 8)
          · have e : k + 1 = q := by omega
            have F := fb0 (hbkk w1 hb1).out (i := k + 1) (x := (k : Int) + 1) (by rw [HS.out]; omega) (by rw [HL.out])
            have F2 := toff F.1 (x := (k : Int) + 1) (by omega)
            refine bodyPost_ret (results_none rfl _ _ _) rfl ⟨rfl, ?_, ?_⟩
            · rw [← e]; exact F2.1
            · exact gb_trans (gb_trans HG.out (gb_below hb1)) (gb_trans F.2 F2.2)
          · go_roundw
            case rel =>
              have F := fb0 (hbkk w1 hb1).out (i := k + 1) (x := (k : Int) + 1) (by rw [HS.out]; omega) (by rw [HL.out])
              exact ⟨k + 1, by go_num, by omega, HBN.out, F.1, gb_trans (gb_trans HG.out (gb_below hb1)) F.2⟩
            case measure => simp [intOf]; omega
        · rw [inc_lf hb (.inr h13)] at hL
          simp only [if_true] at hL
          rw [← HLK.out] at hL
          have HL := Lib.hid hL
          have t13 : (((s[k - 1]'hk1).toNat : Int) != 13) = true := by
            have := at_bt s (k - 1) hk1
            rw [this]; simp; omega
          clear hL hS hE hb h10 hbrk hn10 e10 hbt h13
          go_wp2_with (go_at_call 53; refine (dec_fwd s k c 1 _ (by omega) HTr.out HD.out).mono ?_; rintro e w1 ⟨rfl, hb1⟩; have hK := hbkk w1 hb1; have d4 : w1.cell? ⟨g, 4, none⟩ = some (.int .i32 Lk) := hK.out.cell 4; have d3 : w1.cell? ⟨g, 3, none⟩ = some (.int .i32 o) := hK.out.cell 3; have d5 : w1.cell? ⟨g, 5, none⟩ = some (.int .i32 ls') := hK.out.cell 5; have d7 : w1.cell? ⟨g, 7, none⟩ = some (.bool hs') := hK.out.cell 7; have d8 : w1.cell? ⟨g, 8, none⟩ = some (.bool he') := hK.out.cell 8; have f3 := hK.out.free 3; have f4 := hK.out.free 4; have f5 := hK.out.free 5; have f7 := hK.out.free 7; have f8 := hK.out.free 8)
          · have e : k + 1 = q := by omega
            have F := fb1 (hbkk w1 hb1).out (i := k + 1) (x := (k : Int) + 1) (y := (Lk : Int) + 1) (by rw [HS.out]; omega) (by rw [HL.out]; omega)
            have F2 := toff F.1 (x := (k : Int) + 1) (by omega)
            refine bodyPost_ret (results_none rfl _ _ _) rfl ⟨rfl, ?_, ?_⟩
            · rw [← e]; exact F2.1
            · exact gb_trans (gb_trans HG.out (gb_below hb1)) (gb_trans F.2 F2.2)
          · go_roundw
            case rel =>
              have F := fb1 (hbkk w1 hb1).out (i := k + 1) (x := (k : Int) + 1) (y := (Lk : Int) + 1) (by rw [HS.out]; omega) (by rw [HL.out]; omega)
              exact ⟨k + 1, by go_num, by omega, HBN.out, F.1, gb_trans (gb_trans HG.out (gb_below hb1)) F.2⟩
            case measure => simp [intOf]; omega
    · have t10 : ((c : Int) == 10) = false := by simp; omega
      by_cases hb : brk s.data.toList k = true
      · rw [hb] at hS hE
        simp only [if_true] at hS hE
        rw [inc_plain hb (fun hh => e10 (h10.2 hh))] at hL
        simp only [if_true] at hL
        rw [← HLK.out] at hL
        have HL := Lib.hid hL
        have HS := Lib.hid hS
        rcases (show c = 13 ∨ c = 8232 ∨ c = 8233 by have := hbrk.1 hb; omega) with rfl | rfl | rfl
        all_goals
          clear hL hS hE hb h10 hbrk hn10 e10 t10
          go_wp2_with (go_at_call 53; refine (dec_fwd s k _ n _ (by omega) HTr.out HD.out).mono ?_; rintro e w1 ⟨rfl, hb1⟩; have hK := hbkk w1 hb1; have d4 : w1.cell? ⟨g, 4, none⟩ = some (.int .i32 Lk) := hK.out.cell 4; have d3 : w1.cell? ⟨g, 3, none⟩ = some (.int .i32 o) := hK.out.cell 3; have d5 : w1.cell? ⟨g, 5, none⟩ = some (.int .i32 ls') := hK.out.cell 5; have d7 : w1.cell? ⟨g, 7, none⟩ = some (.bool hs') := hK.out.cell 7; have d8 : w1.cell? ⟨g, 8, none⟩ = some (.bool he') := hK.out.cell 8; have f3 := hK.out.free 3; have f4 := hK.out.free 4; have f5 := hK.out.free 5; have f7 := hK.out.free 7; have f8 := hK.out.free 8)
          · have e : k + n = q := by omega
            have F := fb1 (hbkk w1 hb1).out (i := k + n) (x := (k : Int) + n) (y := (Lk : Int) + 1) (by rw [HS.out]; omega) (by rw [HL.out]; omega)
            have F2 := toff F.1 (x := (k : Int) + n) (by omega)
            refine bodyPost_ret (results_none rfl _ _ _) rfl ⟨rfl, ?_, ?_⟩
            · rw [← e]; exact F2.1
            · exact gb_trans (gb_trans HG.out (gb_below hb1)) (gb_trans F.2 F2.2)
          · go_roundw
            case rel =>
              have F := fb1 (hbkk w1 hb1).out (i := k + n) (x := (k : Int) + n) (y := (Lk : Int) + 1) (by rw [HS.out]; omega) (by rw [HL.out]; omega)
              exact ⟨k + n, by go_num, by omega, HBN.out, F.1, gb_trans (gb_trans HG.out (gb_below hb1)) F.2⟩
            case measure => simp [intOf]; omega
      · have hb' : brk s.data.toList k = false := by simpa using hb
        rw [hb'] at hS hE
        rw [inc_of_brk _ _ hb'] at hL
        simp only [Bool.false_eq_true, if_false, Nat.add_zero] at hS hE hL
        have ht : ¬ (c = 10 ∨ c = 13 ∨ c = 8232 ∨ c = 8233) := fun hh => hb (hbrk.2 hh)
        have t13 : ((c : Int) == 13) = false := by simp; omega
        have t28 : ((c : Int) == 8232) = false := by simp; omega
        have t29 : ((c : Int) == 8233) = false := by simp; omega
        have HE := Lib.hid (And.intro hL (And.intro hS hE))
        clear hL hS hE hb hb' h10 hbrk hn10 e10 ht
        go_wp2_with (go_at_call 53; refine (dec_fwd s k _ n _ (by omega) HTr.out HD.out).mono ?_; rintro e w1 ⟨rfl, hb1⟩; have hK := hbkk w1 hb1; have d4 : w1.cell? ⟨g, 4, none⟩ = some (.int .i32 Lk) := hK.out.cell 4; have d3 : w1.cell? ⟨g, 3, none⟩ = some (.int .i32 o) := hK.out.cell 3; have d5 : w1.cell? ⟨g, 5, none⟩ = some (.int .i32 ls') := hK.out.cell 5; have d7 : w1.cell? ⟨g, 7, none⟩ = some (.bool hs') := hK.out.cell 7; have d8 : w1.cell? ⟨g, 8, none⟩ = some (.bool he') := hK.out.cell 8; have f3 := hK.out.free 3; have f4 := hK.out.free 4; have f5 := hK.out.free 5; have f7 := hK.out.free 7; have f8 := hK.out.free 8)
        · have e : k + n = q := by omega
          have F := And.intro (same_i (i := k) (j := k + n) (by rw [← HLK.out]; exact (hbkk w1 hb1).out) HLS.out.1 HLS.out.2 HE.out.1 HE.out.2.1 HE.out.2.2.symm) (World.grownBy.refl w1 (some g))
          have F2 := toff F.1 (x := (k : Int) + n) (by omega)
          refine bodyPost_ret (results_none rfl _ _ _) rfl ⟨rfl, ?_, ?_⟩
          · rw [← e]; exact F2.1
          · exact gb_trans (gb_trans HG.out (gb_below hb1)) (gb_trans F.2 F2.2)
        · go_roundw
          case rel =>
            have F := And.intro (same_i (i := k) (j := k + n) (by rw [← HLK.out]; exact (hbkk w1 hb1).out) HLS.out.1 HLS.out.2 HE.out.1 HE.out.2.1 HE.out.2.2.symm) (World.grownBy.refl w1 (some g))
            exact ⟨k + n, by go_num, by omega, HBN.out, F.1, gb_trans (gb_trans HG.out (gb_below hb1)) F.2⟩
          case measure => simp [intOf]; omega
end Go.Proofs.YtfndlifolohlgaaDoor
