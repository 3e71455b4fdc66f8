/-
  The walks of spec.ends, spec.IsText, spec.Begins and spec.Line: a text that IsText calls UTF-8 is valid (VT); a place that Begins calls one is a boundary (Bd) and not within a pair (Nm); Line returns the line's number, its beginning and its end (L, S, E). The world stays as it was.
  Conditions: the text is no longer than 2^47 bytes; for Begins and Line it is valid UTF-8; for Line the place is a boundary, not within a pair.
-/
import Derived.Test.YtfndlifolohlgaaDoorPoint
namespace Go.Proofs.YtfndlifolohlgaaDoor
open Go Go.RowKit Ln
set_option maxRecDepth 100000

theorem ends_true (c : Int) (w : World) (h : c = 10 ∨ c = 13 ∨ c = 8232 ∨ c = 8233) : Calls Tryd.prog 34 #[.int .i64 c] w fun e w' => e = .returned (.bool true) ∧ w = w' := by
  rcases h with rfl | rfl | rfl | rfl
  all_goals
    go_enter Tryd.func34, Tryd.ntmps34
    go_wp2
    go_ret
    exact ⟨rfl, rfl⟩
theorem ends_false (c : Int) (w : World) (h : ¬ (c = 10 ∨ c = 13 ∨ c = 8232 ∨ c = 8233)) : Calls Tryd.prog 34 #[.int .i64 c] w fun e w' => e = .returned (.bool false) ∧ w = w' := by
  have h1 : (c == 10) = false := by simp; omega
  have h2 : (c == 13) = false := by simp; omega
  have h3 : (c == 8232) = false := by simp; omega
  have h4 : (c == 8233) = false := by simp; omega
  clear h
  go_enter Tryd.func34, Tryd.ntmps34
  go_wp2
  go_ret
  exact ⟨rfl, rfl⟩

theorem pt_good {l : List UInt8} {p : Nat} (h : Ln.Good l p) : ptC l p = ((dc l p).1 : Nat) := by
  unfold Ln.Good at h; unfold ptC; rw [if_pos h]
theorem pt_not {l : List UInt8} {p : Nat} (h : ¬ Ln.Good l p) : ptC l p = -1 := by
  unfold Ln.Good at h; unfold ptC; rw [if_neg h]
theorem len_eq (s : ByteArray) : s.data.toList.length = s.size := by simp

/-- 'IsText says b' -/
def TextSays (s : ByteArray) (w : World) (e : Ending) (w' : World) : Prop := ∃ b : Bool, (b = true → VT s.data.toList) ∧ e = .returned (.bool b) ∧ w = w'
set_option maxHeartbeats 800000 in
theorem isText_any (s : ByteArray) (w : World) (hs : s.size ≤ 140737488355328) : Calls Tryd.prog 28 #[.string s] w (TextSays s w) := by
  go_enter Tryd.func28, Tryd.ntmps28
  go_wp2
  go_loop [3] (fun i => ∃ k : Nat, i = .int .i64 k ∧ k ≤ s.size ∧ Hid (TxInv s.data.toList k)) (fun i => s.size - (intOf i).toNat)
  case atStart => exact ⟨0, rfl, Nat.zero_le _, tx_start _⟩
  case round =>
    obtain ⟨k, rfl, hk, HT⟩ := hrel
    by_cases hlt : k < s.size
    · by_cases hg : Ln.Good s.data.toList k
      · have hst := tx_step HT.out (by rw [len_eq]; exact hlt) hg
        have hgf := good_facts (by rw [len_eq]; exact hlt) hg
        have g1 := hgf.1
        have g2 := hgf.2.1
        rw [len_eq] at g2
        have HS := Lib.hid hst
        have HC := point_any s k w hs hlt
        rw [pt_good hg] at HC
        clear hst hgf HT hg
        generalize (dc s.data.toList k).1 = c at *
        generalize (dc s.data.toList k).2 = n at *
        have HC := Lib.hid HC
        go_wp2_with (go_at_call 33; refine HC.out.mono ?_; rintro e w' ⟨rfl, rfl⟩)
        go_round
        case rel => exact ⟨k + n, by go_num, by omega, HS.out⟩
        case measure => simp [intOf]; omega
      · have HC := point_any s k w hs hlt
        rw [pt_not hg] at HC
        clear HT hg
        have HC := Lib.hid HC
        go_wp2_with (go_at_call 33; refine HC.out.mono ?_; rintro e w' ⟨rfl, rfl⟩)
        go_ret
        exact ⟨false, (fun h => by cases h), rfl, rfl⟩
    · have hv := Lib.hid (tx_done HT.out (by rw [len_eq]; omega))
      clear HT
      go_wp2
      go_ret
      exact ⟨true, (fun _ => hv.out), rfl, rfl⟩

/-- what is known of a character at a boundary, over the string's own size -/
theorem at_string {s : ByteArray} (hv : VT s.data.toList) {k : Nat} (hb : Bd s.data.toList k) (hlt : k < s.size) :
    ∃ c n : Nat, dc s.data.toList k = (c, n) ∧ ptC s.data.toList k = c ∧ 1 ≤ n ∧ k + n ≤ s.size ∧ n ≤ 4 ∧ (c = 13 ↔ s[k].toNat = 13) ∧ (c = 13 → n = 1) := by
  have hlt' : k < s.data.toList.length := by rw [len_eq]; exact hlt
  have h := at_bd hv hb hlt'
  have e := at_bt s k hlt
  refine ⟨(dc s.data.toList k).1, (dc s.data.toList k).2, rfl, pt_good h.2.2.2.2.1, h.1, by have := h.2.2.1; rw [len_eq] at this; exact this, h.2.1, ?_, ?_⟩
  · rw [e]; exact h.2.2.2.2.2.2.2.1
  · intro hc
    have := h.2.2.2.2.2.2.2.1.1 hc
    exact cr_one hv hb hlt' (by omega)
theorem nx_pair {s : ByteArray} {k : Nat} (hlt : k < s.size) (h1 : k + 1 < s.size) (a : s[k].toNat = 13) (b : s[k + 1].toNat = 10) : nx s.data.toList k = k + 2 := by
  unfold nx
  rw [if_pos ⟨by rw [← at_bt s k hlt]; exact a, by rw [← at_bt s (k + 1) h1]; exact b⟩]
theorem nx_single {s : ByteArray} {k c n : Nat} (hlt : k < s.size) (hd : dc s.data.toList k = (c, n)) (h : ¬ s[k].toNat = 13 ∨ s.size ≤ k + 1 ∨ ∃ h1 : k + 1 < s.size, ¬ s[k + 1].toNat = 10) : nx s.data.toList k = k + n := by
  unfold nx
  rw [if_neg, hd]
  rintro ⟨a, b⟩
  rw [← at_bt s k hlt] at a
  rcases h with h | h | ⟨h1, h⟩
  · exact h a
  · rw [bt_end _ _ (by rw [len_eq]; exact h)] at b
    omega
  · rw [← at_bt s (k + 1) h1] at b
    exact h b

/-- 'Begins says b' -/
def BeginsSays (s : ByteArray) (place : Nat) (w : World) (e : Ending) (w' : World) : Prop := ∃ b : Bool, (b = true → Bd s.data.toList place ∧ Nm s.data.toList place) ∧ e = .returned (.bool b) ∧ w = w'
set_option maxHeartbeats 1600000 in
theorem begins_any (s : ByteArray) (place : Nat) (w : World) (hs : s.size ≤ 140737488355328) (hv : VT s.data.toList) (hpl : place ≤ s.size) :
    Calls Tryd.prog 29 #[.string s, .int .i64 place] w (BeginsSays s place w) := by
  have HV := Lib.hid hv
  clear hv
  go_enter Tryd.func29, Tryd.ntmps29
  go_wp2
  go_loop [5] (fun i => ∃ k : Nat, i = .int .i64 k ∧ k ≤ s.size ∧ Hid (Bd s.data.toList k ∧ Nm s.data.toList k)) (fun i => s.size - (intOf i).toNat)
  case atStart => exact ⟨0, rfl, Nat.zero_le _, HV.out.1, fun h => by omega⟩
  case round =>
    obtain ⟨k, rfl, hk, HB⟩ := hrel
    by_cases hlt : k < s.size
    · rcases Nat.lt_trichotomy k place with h | h | h
      · have hlt' : k < s.data.toList.length := by rw [len_eq]; exact hlt
        have hnb := nx_bd HV.out HB.out.1 hlt'
        obtain ⟨c, n, hd, hc, hn1, hkn, hn4, h13, h13n⟩ := at_string HV.out HB.out.1 hlt
        have HC := point_any s k w hs hlt
        rw [hc, hd] at HC
        have HC := Lib.hid HC
        have HD := Lib.hid hd
        have HN := Lib.hid hnb
        clear hd hc hnb HB
        by_cases e13 : c = 13
        · obtain rfl : n = 1 := h13n e13
          have eb := h13.1 e13
          have t1 : ((c : Int) == 13) = true := by simp; omega
          by_cases h1 : k + 1 < s.size
          · by_cases e10 : s[k + 1].toNat = 10
            · have t2 : ((s[k + 1].toNat : Int) == 10) = true := by simp; omega
              have hx := nx_pair hlt h1 eb e10
              have HX := Lib.hid hx
              clear hx e10 eb h13 h13n e13
              go_wp2_with (go_at_call 33; refine HC.out.mono ?_; rintro e w' ⟨rfl, rfl⟩)
              go_round
              case rel => exact ⟨k + 2, by go_num, by omega, by rw [← HX.out]; exact HN.out⟩
              case measure => simp [intOf]; omega
            · have t2 : ((s[k + 1].toNat : Int) == 10) = false := by simp; omega
              have hx := nx_single hlt HD.out (.inr (.inr ⟨h1, e10⟩))
              have HX := Lib.hid hx
              clear hx e10 eb h13 h13n e13
              go_wp2_with (go_at_call 33; refine HC.out.mono ?_; rintro e w' ⟨rfl, rfl⟩)
              go_round
              case rel => exact ⟨k + 1, by go_num, by omega, by rw [← HX.out]; exact HN.out⟩
              case measure => simp [intOf]; omega
          · have hx := nx_single hlt HD.out (.inr (.inl (by omega)))
            have HX := Lib.hid hx
            clear hx eb h13 h13n e13
            go_wp2_with (go_at_call 33; refine HC.out.mono ?_; rintro e w' ⟨rfl, rfl⟩)
            go_round
            case rel => exact ⟨k + 1, by go_num, by omega, by rw [← HX.out]; exact HN.out⟩
            case measure => simp [intOf]; omega
        · have t1 : ((c : Int) == 13) = false := by simp; omega
          have hx := nx_single hlt HD.out (.inl (fun hh => e13 (h13.2 hh)))
          have HX := Lib.hid hx
          clear hx h13 h13n e13
          go_wp2_with (go_at_call 33; refine HC.out.mono ?_; rintro e w' ⟨rfl, rfl⟩)
          go_round
          case rel => exact ⟨k + n, by go_num, by omega, by rw [← HX.out]; exact HN.out⟩
          case measure => simp [intOf]; omega
      · subst h
        go_wp2
        go_ret
        exact ⟨true, (fun _ => HB.out), rfl, rfl⟩
      · clear HB
        have t : ((place : Int) == (s.size : Int)) = false := by simp; omega
        go_wp2
        go_ret
        exact ⟨false, (fun h => by cases h), rfl, rfl⟩
    · obtain rfl : k = s.size := by omega
      by_cases h : place = s.size
      · subst h
        go_wp2
        go_ret
        exact ⟨true, (fun _ => HB.out), rfl, rfl⟩
      · have t : ((place : Int) == (s.size : Int)) = false := by simp; omega
        clear HB
        go_wp2
        go_ret
        exact ⟨false, (fun h => by cases h), rfl, rfl⟩
/-- a place's line, from 1 on -/
def LN (l : List UInt8) (q : Nat) : Nat := 1 + Ln.L l q
theorem ln_done' {l : List UInt8} {place line begin p : Nat} (hpl : Bd l place) (h : LnInv l place line begin p) (hd : (p < l.length ∧ place ≤ p ∧ brk l p = true) ∨ l.length ≤ p) :
    line = LN l place ∧ begin = Ln.S l place ∧ p = Ln.E l place := ln_done hpl h hd
theorem code_brk {s : ByteArray} (hv : VT s.data.toList) {k c n : Nat} (hb : Bd s.data.toList k) (hlt : k < s.size) (hd : dc s.data.toList k = (c, n)) :
    brk s.data.toList k = true ↔ c = 10 ∨ c = 13 ∨ c = 8232 ∨ c = 8233 := by
  have := brk_code hv hb (by rw [len_eq]; exact hlt)
  rw [hd] at this
  exact this
theorem ends_of (c : Nat) (h : c = 10 ∨ c = 13 ∨ c = 8232 ∨ c = 8233) : (c : Int) = 10 ∨ (c : Int) = 13 ∨ (c : Int) = 8232 ∨ (c : Int) = 8233 := by omega
theorem not_ends_of (c : Nat) (h : ¬ (c = 10 ∨ c = 13 ∨ c = 8232 ∨ c = 8233)) : ¬ ((c : Int) = 10 ∨ (c : Int) = 13 ∨ (c : Int) = 8232 ∨ (c : Int) = 8233) := by omega

set_option maxHeartbeats 1600000 in
theorem line_any (s : ByteArray) (place : Nat) (w : World) (hs : s.size ≤ 140737488355328) (hv : VT s.data.toList) (hbp : Bd s.data.toList place) (hnp : Nm s.data.toList place) :
    Calls Tryd.prog 15 #[.string s, .int .i64 place] w fun e w' =>
      e = .returned (.tuple #[.int .i64 (LN s.data.toList place : Nat), .int .i64 (Ln.S s.data.toList place : Nat), .int .i64 (Ln.E s.data.toList place : Nat)]) ∧ w = w' := by
  have hps := hbp.1
  rw [len_eq] at hps
  have HV := Lib.hid hv
  have HP := Lib.hid (And.intro hbp hnp)
  clear hv hbp hnp
  go_enter Tryd.func15, Tryd.ntmps15
  go_wp2
  go_loop [7, 8, 9] (fun a b i => ∃ line beg k : Nat, a = .int .i64 line ∧ b = .int .i64 beg ∧ i = .int .i64 k ∧ k ≤ s.size ∧ line ≤ 1 + k ∧ Hid (LnInv s.data.toList place line beg k)) (fun _ _ i => s.size - (intOf i).toNat)
  case atStart => exact ⟨1, 0, 0, rfl, rfl, rfl, Nat.zero_le _, by omega, ln_start HV.out place⟩
  case round =>
    obtain ⟨line, beg, k, rfl, rfl, rfl, hk, hle, HI⟩ := hrel
    by_cases hlt : k < s.size
    · have hlt' : k < s.data.toList.length := by rw [len_eq]; exact hlt
      obtain ⟨c, n, hd, hc, hn1, hkn, hn4, h13, h13n⟩ := at_string HV.out HI.out.1 hlt
      have HC := point_any s k w hs hlt
      rw [hc, hd] at HC
      have HC := Lib.hid HC
      have hcb := code_brk HV.out HI.out.1 hlt hd
      by_cases hend : c = 10 ∨ c = 13 ∨ c = 8232 ∨ c = 8233
      · have HE := Lib.hid (ends_true c w (ends_of c hend))
        have hbk := hcb.2 hend
        by_cases hpk : k < place
        · have hst := ln_brk HV.out HP.out.1 HP.out.2 HI.out hlt' hpk hbk
          have HS := Lib.hid hst
          have HD := Lib.hid hd
          clear hst hd hc hcb hend hbk HI
          by_cases e13 : c = 13
          · obtain rfl : n = 1 := h13n e13
            have eb := h13.1 e13
            have t1 : ((c : Int) == 13) = true := by simp; omega
            by_cases h1 : k + 1 < s.size
            · by_cases e10 : s[k + 1].toNat = 10
              · have t2 : ((s[k + 1].toNat : Int) == 10) = true := by simp; omega
                have hx := nx_pair hlt h1 eb e10
                have HX := Lib.hid hx
                clear hx e10 eb h13 h13n e13
                go_wp2_with (first | (go_at_call 33; refine HC.out.mono ?_; rintro e w' ⟨rfl, rfl⟩) | (go_at_call 34; refine HE.out.mono ?_; rintro e w' ⟨rfl, rfl⟩))
                go_round
                case rel => exact ⟨line + 1, k + 2, k + 2, by go_num, by go_num, by go_num, by omega, by omega, by rw [← HX.out]; exact HS.out⟩
                case measure => simp [intOf]; omega
              · have t2 : ((s[k + 1].toNat : Int) == 10) = false := by simp; omega
                have hx := nx_single hlt HD.out (.inr (.inr ⟨h1, e10⟩))
                have HX := Lib.hid hx
                clear hx e10 eb h13 h13n e13
                go_wp2_with (first | (go_at_call 33; refine HC.out.mono ?_; rintro e w' ⟨rfl, rfl⟩) | (go_at_call 34; refine HE.out.mono ?_; rintro e w' ⟨rfl, rfl⟩))
                go_round
                case rel => exact ⟨line + 1, k + 1, k + 1, by go_num, by go_num, by go_num, by omega, by omega, by rw [← HX.out]; exact HS.out⟩
                case measure => simp [intOf]; omega
            · have hx := nx_single hlt HD.out (.inr (.inl (by omega)))
              have HX := Lib.hid hx
              clear hx eb h13 h13n e13
              go_wp2_with (first | (go_at_call 33; refine HC.out.mono ?_; rintro e w' ⟨rfl, rfl⟩) | (go_at_call 34; refine HE.out.mono ?_; rintro e w' ⟨rfl, rfl⟩))
              go_round
              case rel => exact ⟨line + 1, k + 1, k + 1, by go_num, by go_num, by go_num, by omega, by omega, by rw [← HX.out]; exact HS.out⟩
              case measure => simp [intOf]; omega
          · have t1 : ((c : Int) == 13) = false := by simp; omega
            have hx := nx_single hlt HD.out (.inl (fun hh => e13 (h13.2 hh)))
            have HX := Lib.hid hx
            clear hx h13 h13n e13
            go_wp2_with (first | (go_at_call 33; refine HC.out.mono ?_; rintro e w' ⟨rfl, rfl⟩) | (go_at_call 34; refine HE.out.mono ?_; rintro e w' ⟨rfl, rfl⟩))
            go_round
            case rel => exact ⟨line + 1, k + n, k + n, by go_num, by go_num, by go_num, by omega, by omega, by rw [← HX.out]; exact HS.out⟩
            case measure => simp [intOf]; omega
        · have hfin := ln_done' HP.out.1 HI.out (.inl ⟨hlt', by omega, hbk⟩)
          have HF := Lib.hid hfin
          clear hfin hd hc hcb hend hbk HI h13 h13n
          go_wp2_with (first | (go_at_call 33; refine HC.out.mono ?_; rintro e w' ⟨rfl, rfl⟩) | (go_at_call 34; refine HE.out.mono ?_; rintro e w' ⟨rfl, rfl⟩))
          go_ret3
          rw [← HF.out.1, ← HF.out.2.1, ← HF.out.2.2]
          exact ⟨rfl, rfl⟩
      · have HE := Lib.hid (ends_false c w (not_ends_of c hend))
        have hbk : brk s.data.toList k = false := by
          cases h : brk s.data.toList k with
          | false => rfl
          | true => exact absurd (hcb.1 h) hend
        have hst := ln_plain HV.out HP.out.1 HP.out.2 HI.out hlt' hbk
        rw [hd] at hst
        have HS := Lib.hid hst
        clear hst hd hc hcb hend hbk HI h13 h13n
        go_wp2_with (first | (go_at_call 33; refine HC.out.mono ?_; rintro e w' ⟨rfl, rfl⟩) | (go_at_call 34; refine HE.out.mono ?_; rintro e w' ⟨rfl, rfl⟩))
        go_round
        case rel => exact ⟨line, beg, k + n, rfl, rfl, by go_num, by omega, by omega, HS.out⟩
        case measure => simp [intOf]; omega
    · have hfin := ln_done' HP.out.1 HI.out (.inr (by rw [len_eq]; omega))
      have HF := Lib.hid hfin
      clear hfin HI
      go_wp2
      go_ret3
      rw [← HF.out.1, ← HF.out.2.1, ← HF.out.2.2]
      exact ⟨rfl, rfl⟩
end Go.Proofs.YtfndlifolohlgaaDoor
