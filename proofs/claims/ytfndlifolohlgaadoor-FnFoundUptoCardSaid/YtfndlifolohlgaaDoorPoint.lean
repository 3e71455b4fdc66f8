/-
  The walk of spec.point: at a place within a string it returns the code of the character that stands there and how long it is, or -1 and 1 where none does; the world stays as it was.
  Conditions: the place is within the string, and the string is no longer than 2^47 bytes.
-/
import Derived.Test.YtfndlifolohlgaaDoorBits
import Derived.Test.YtfndlifolohlgaaDoorProg
import Derived.WalkKit
import Derived.WalkLawsBesides
import Derived.WalkSpells
import Derived.Lib.Hide
namespace Go.Proofs.YtfndlifolohlgaaDoor
open Go Go.RowKit Ln
set_option maxRecDepth 100000

set_option maxHeartbeats 400000 in
theorem point_ascii (s : ByteArray) (p : Nat) (w : World) (_hs : s.size ≤ 140737488355328) (hp : p < s.size) (hb : s[p].toNat < 128) :
    Calls Tryd.prog 33 #[.string s, .int .i64 p] w fun e w' => e = .returned (.tuple #[.int .i64 s[p].toNat, .int .i64 1]) ∧ w = w' := by
  go_enter Tryd.func33, Tryd.ntmps33
  go_wp2
  go_ret2
  exact ⟨rfl, rfl⟩
set_option maxHeartbeats 400000 in
theorem point_lead (s : ByteArray) (p : Nat) (w : World) (_hs : s.size ≤ 140737488355328) (hp : p < s.size) (hb : 128 ≤ s[p].toNat) (hb' : s[p].toNat < 194 ∨ 245 ≤ s[p].toNat) :
    Calls Tryd.prog 33 #[.string s, .int .i64 p] w fun e w' => e = .returned (.tuple #[.int .i64 (-1), .int .i64 1]) ∧ w = w' := by
  have h256 := at_lt s p hp
  rcases hb' with h | h
  · go_enter Tryd.func33, Tryd.ntmps33
    go_wp2
    go_ret2
    exact ⟨rfl, rfl⟩
  · go_enter Tryd.func33, Tryd.ntmps33
    go_wp2
    go_ret2
    exact ⟨rfl, rfl⟩

/-- the relation of the round, class 2 -/
def PtRel2 (s : ByteArray) (p : Nat) (b i : Value) : Prop :=
  ∃ k : Nat, 1 ≤ k ∧ k ≤ 2 ∧ i = .int .i64 k ∧ b = .int .i64 (A s.data.toList p 32 k : Nat) ∧ ∀ t, 1 ≤ t → t < k → p + t < s.size ∧ bt s.data.toList (p + t) / 64 = 2
theorem pt_fail2 (s : ByteArray) (p k : Nat) (hp : p < s.size) (hb : 194 ≤ s[p].toNat) (hb' : s[p].toNat < 224) (hk1 : 1 ≤ k) (hk : k < 2) (hf : s.size ≤ p + k ∨ bt s.data.toList (p + k) / 64 ≠ 2) :
    ptC s.data.toList p = -1 ∧ (dc s.data.toList p).2 = 1 := by
  rw [at_bt s p hp] at hb hb'
  have hl : s.data.toList.length = s.size := by simp
  refine pt_bad _ _ (by omega) ?_
  rw [dc_N, hl]
  refine dec_short _ _ _ _ _ k 2 hk1 hk (by omega) ?_
  rcases hf with h | h
  · exact .inl (by omega)
  · rcases (show k = 1 ∨ k = 2 ∨ k = 3 by omega) with rfl | rfl | rfl
    · exact .inr (.inl ⟨rfl, h⟩)
    · exact .inr (.inr (.inl ⟨rfl, h⟩))
    · exact .inr (.inr (.inr ⟨rfl, h⟩))

def Bad2 (_a : Nat) : Prop := False
theorem pt_end2 (s : ByteArray) (p : Nat) (hp : p < s.size) (hb : 194 ≤ s[p].toNat) (hb' : s[p].toNat < 224) (hall : ∀ t, 1 ≤ t → t < 2 → p + t < s.size ∧ bt s.data.toList (p + t) / 64 = 2) :
    128 ≤ A s.data.toList p 32 2 ∧ A s.data.toList p 32 2 < 2048 ∧ ptC s.data.toList p = (A s.data.toList p 32 2 : Nat) ∧ (dc s.data.toList p).2 = 2 := by
  rw [at_bt s p hp] at hb hb'
  have hl : s.data.toList.length = s.size := by simp
  have e : A s.data.toList p 32 2 = bt s.data.toList p % 32 * 64 + bt s.data.toList (p + 1) % 64 := rfl
  have h1 := hall 1 (by omega) (by omega)
  have hd := dec_two (s.data.toList.length - p) (bt s.data.toList p) (bt s.data.toList (p + 1)) (bt s.data.toList (p + 2)) (bt s.data.toList (p + 3)) ⟨hb, hb'⟩ (by omega) h1.2
  rw [← dc_N, ← e] at hd
  exact ⟨by omega, by omega, pt_ok _ _ _ _ (by omega) hd⟩

set_option maxHeartbeats 1600000 in
theorem point_2 (s : ByteArray) (p : Nat) (w : World) (hs : s.size ≤ 140737488355328) (hp : p < s.size) (hb : 194 ≤ s[p].toNat) (hb' : s[p].toNat < 224) :
    Calls Tryd.prog 33 #[.string s, .int .i64 p] w fun e w' => e = .returned (.tuple #[.int .i64 (ptC s.data.toList p), .int .i64 ((dc s.data.toList p).2 : Nat)]) ∧ w = w' := by
  have h256' := at_lt s p hp
  have hand := and_i64_31 s[p].toNat (at_lt s p hp)
  have d1 : decide ((s[p].toNat : Int) < 128) = false := by simp; omega
  have d2 : decide ((s[p].toNat : Int) < 224) = true := by simp; omega
  have d3 : decide ((s[p].toNat : Int) < 240) = true := by simp; omega
  have d4 : decide ((s[p].toNat : Int) < 245) = true := by simp; omega
  have d5 : decide ((224 : Int) ≤ (s[p].toNat : Int)) = false := by simp; omega
  have d6 : decide ((240 : Int) ≤ (s[p].toNat : Int)) = false := by simp; omega
  have d7 : decide ((194 : Int) ≤ (s[p].toNat : Int)) = true := by simp; omega
  go_enter Tryd.func33, Tryd.ntmps33
  go_wp2
  go_loop [6, 9] (fun b i => PtRel2 s p b i) (fun _ i => 2 - (intOf i).toNat)
  case atStart => exact ⟨1, by omega, by omega, rfl, by rw [A_one, ← at_bt s p hp]; go_num, fun t h1 h2 => by omega⟩
  case round =>
    obtain ⟨k, hk1, hk, rfl, rfl, hall⟩ := hrel
    have HALL := Lib.hid hall
    clear hall hand d1 d2 d3 d4 d5 d6 d7
    have hA := A_le s.data.toList p 32 k (by omega) (by omega) hk1 (by omega)
    by_cases hlt : k < 2
    · by_cases hx : p + k < s.size
      · have hbt := at_bt s (p + k) hx
        have h256 := at_lt s (p + k) hx
        have HBT := Lib.hid hbt
        by_cases hc : s[p + k].toNat / 64 = 2
        · have hcb : bt s.data.toList (p + k) / 64 = 2 := by rw [← hbt]; exact hc
          have HCB := Lib.hid hcb
          have hor := or_i64 (A s.data.toList p 32 k) s[p + k].toNat hA
          have h63 := and_u8_63 s[p + k].toNat h256
          have h192 := cont_true s[p + k].toNat h256 hc
          have hnext := A_succ s.data.toList p 32 k hk1
          have HN := Lib.hid hnext
          generalize A s.data.toList p 32 k = a at *
          clear hbt hc hcb hnext
          go_wp2
          go_round
          case rel =>
            refine ⟨k + 1, by omega, by omega, by go_num, ?_, ?_⟩
            · rw [HN.out, ← HBT.out]; go_num
            · intro t h1 h2
              rcases (show t < k ∨ t = k by omega) with h3 | h3
              · exact HALL.out t h1 h3
              · subst h3; exact ⟨hx, HCB.out⟩
          case measure => simp [intOf]; omega
        · have h192 := cont_false s[p + k].toNat h256 hc
          have hcb : bt s.data.toList (p + k) / 64 ≠ 2 := by rw [← hbt]; exact hc
          have hfin := pt_fail2 s p k hp hb hb' hk1 hlt (.inr hcb)
          have HF := Lib.hid hfin
          clear hbt hc hcb hfin
          go_wp2
          go_ret2
          rw [HF.out.1, HF.out.2]
          exact ⟨rfl, rfl⟩
      · have hfin := pt_fail2 s p k hp hb hb' hk1 hlt (.inl (by omega))
        have HF := Lib.hid hfin
        clear hfin
        go_wp2
        go_ret2
        rw [HF.out.1, HF.out.2]
        exact ⟨rfl, rfl⟩
    · obtain rfl : k = 2 := by omega
      obtain ⟨hg1, hg2, hx, hy⟩ := pt_end2 s p hp hb hb' HALL.out
      have HX := Lib.hid (And.intro hx hy)
      clear hx hy HALL
      generalize A s.data.toList p 32 2 = a at *
      go_wp2
      go_ret2
      rw [HX.out.1, HX.out.2]
      exact ⟨rfl, rfl⟩

/-- the relation of the round, class 3 -/
def PtRel3 (s : ByteArray) (p : Nat) (b i : Value) : Prop :=
  ∃ k : Nat, 1 ≤ k ∧ k ≤ 3 ∧ i = .int .i64 k ∧ b = .int .i64 (A s.data.toList p 16 k : Nat) ∧ ∀ t, 1 ≤ t → t < k → p + t < s.size ∧ bt s.data.toList (p + t) / 64 = 2
theorem pt_fail3 (s : ByteArray) (p k : Nat) (hp : p < s.size) (hb : 224 ≤ s[p].toNat) (hb' : s[p].toNat < 240) (hk1 : 1 ≤ k) (hk : k < 3) (hf : s.size ≤ p + k ∨ bt s.data.toList (p + k) / 64 ≠ 2) :
    ptC s.data.toList p = -1 ∧ (dc s.data.toList p).2 = 1 := by
  rw [at_bt s p hp] at hb hb'
  have hl : s.data.toList.length = s.size := by simp
  refine pt_bad _ _ (by omega) ?_
  rw [dc_N, hl]
  refine dec_short _ _ _ _ _ k 3 hk1 hk (by omega) ?_
  rcases hf with h | h
  · exact .inl (by omega)
  · rcases (show k = 1 ∨ k = 2 ∨ k = 3 by omega) with rfl | rfl | rfl
    · exact .inr (.inl ⟨rfl, h⟩)
    · exact .inr (.inr (.inl ⟨rfl, h⟩))
    · exact .inr (.inr (.inr ⟨rfl, h⟩))

def Bad3 (a : Nat) : Prop := a < 2048 ∨ (55296 ≤ a ∧ a < 57344)
theorem pt_end3 (s : ByteArray) (p : Nat) (hp : p < s.size) (hb : 224 ≤ s[p].toNat) (hb' : s[p].toNat < 240) (hall : ∀ t, 1 ≤ t → t < 3 → p + t < s.size ∧ bt s.data.toList (p + t) / 64 = 2) :
    A s.data.toList p 16 3 ≤ 65535 ∧ (Bad3 (A s.data.toList p 16 3) → ptC s.data.toList p = -1 ∧ (dc s.data.toList p).2 = 1) ∧ (¬ Bad3 (A s.data.toList p 16 3) → ptC s.data.toList p = (A s.data.toList p 16 3 : Nat) ∧ (dc s.data.toList p).2 = 3) := by
  rw [at_bt s p hp] at hb hb'
  have hl : s.data.toList.length = s.size := by simp
  have e : A s.data.toList p 16 3 = (bt s.data.toList p % 16 * 64 + bt s.data.toList (p + 1) % 64) * 64 + bt s.data.toList (p + 2) % 64 := rfl
  have h1 := hall 1 (by omega) (by omega)
  have h2 := hall 2 (by omega) (by omega)
  have hd := dec_three (s.data.toList.length - p) (bt s.data.toList p) (bt s.data.toList (p + 1)) (bt s.data.toList (p + 2)) (bt s.data.toList (p + 3)) ⟨hb, hb'⟩ (by omega) h1.2 h2.2
  rw [← dc_N, ← e] at hd
  refine ⟨by omega, fun hx => ?_, fun hx => ?_⟩
  · unfold Bad3 at hx; rw [if_pos hx] at hd; exact pt_bad _ _ (by omega) hd
  · unfold Bad3 at hx; rw [if_neg hx] at hd; exact pt_ok _ _ _ _ (by omega) hd

set_option maxHeartbeats 1600000 in
theorem point_3 (s : ByteArray) (p : Nat) (w : World) (hs : s.size ≤ 140737488355328) (hp : p < s.size) (hb : 224 ≤ s[p].toNat) (hb' : s[p].toNat < 240) :
    Calls Tryd.prog 33 #[.string s, .int .i64 p] w fun e w' => e = .returned (.tuple #[.int .i64 (ptC s.data.toList p), .int .i64 ((dc s.data.toList p).2 : Nat)]) ∧ w = w' := by
  have h256' := at_lt s p hp
  have hand := and_i64_15 s[p].toNat (at_lt s p hp)
  have d1 : decide ((s[p].toNat : Int) < 128) = false := by simp; omega
  have d2 : decide ((s[p].toNat : Int) < 224) = false := by simp; omega
  have d3 : decide ((s[p].toNat : Int) < 240) = true := by simp; omega
  have d4 : decide ((s[p].toNat : Int) < 245) = true := by simp; omega
  have d5 : decide ((224 : Int) ≤ (s[p].toNat : Int)) = true := by simp; omega
  have d6 : decide ((240 : Int) ≤ (s[p].toNat : Int)) = false := by simp; omega
  have d7 : decide ((194 : Int) ≤ (s[p].toNat : Int)) = true := by simp; omega
  go_enter Tryd.func33, Tryd.ntmps33
  go_wp2
  go_loop [6, 9] (fun b i => PtRel3 s p b i) (fun _ i => 3 - (intOf i).toNat)
  case atStart => exact ⟨1, by omega, by omega, rfl, by rw [A_one, ← at_bt s p hp]; go_num, fun t h1 h2 => by omega⟩
  case round =>
    obtain ⟨k, hk1, hk, rfl, rfl, hall⟩ := hrel
    have HALL := Lib.hid hall
    clear hall hand d1 d2 d3 d4 d5 d6 d7
    have hA := A_le s.data.toList p 16 k (by omega) (by omega) hk1 (by omega)
    by_cases hlt : k < 3
    · by_cases hx : p + k < s.size
      · have hbt := at_bt s (p + k) hx
        have h256 := at_lt s (p + k) hx
        have HBT := Lib.hid hbt
        by_cases hc : s[p + k].toNat / 64 = 2
        · have hcb : bt s.data.toList (p + k) / 64 = 2 := by rw [← hbt]; exact hc
          have HCB := Lib.hid hcb
          have hor := or_i64 (A s.data.toList p 16 k) s[p + k].toNat hA
          have h63 := and_u8_63 s[p + k].toNat h256
          have h192 := cont_true s[p + k].toNat h256 hc
          have hnext := A_succ s.data.toList p 16 k hk1
          have HN := Lib.hid hnext
          generalize A s.data.toList p 16 k = a at *
          clear hbt hc hcb hnext
          go_wp2
          go_round
          case rel =>
            refine ⟨k + 1, by omega, by omega, by go_num, ?_, ?_⟩
            · rw [HN.out, ← HBT.out]; go_num
            · intro t h1 h2
              rcases (show t < k ∨ t = k by omega) with h3 | h3
              · exact HALL.out t h1 h3
              · subst h3; exact ⟨hx, HCB.out⟩
          case measure => simp [intOf]; omega
        · have h192 := cont_false s[p + k].toNat h256 hc
          have hcb : bt s.data.toList (p + k) / 64 ≠ 2 := by rw [← hbt]; exact hc
          have hfin := pt_fail3 s p k hp hb hb' hk1 hlt (.inr hcb)
          have HF := Lib.hid hfin
          clear hbt hc hcb hfin
          go_wp2
          go_ret2
          rw [HF.out.1, HF.out.2]
          exact ⟨rfl, rfl⟩
      · have hfin := pt_fail3 s p k hp hb hb' hk1 hlt (.inl (by omega))
        have HF := Lib.hid hfin
        clear hfin
        go_wp2
        go_ret2
        rw [HF.out.1, HF.out.2]
        exact ⟨rfl, rfl⟩
    · obtain rfl : k = 3 := by omega
      obtain ⟨hle, hfin⟩ := pt_end3 s p hp hb hb' HALL.out
      have HF := Lib.hid hfin
      clear hfin HALL
      generalize A s.data.toList p 16 3 = a at *
      by_cases hbad : Bad3 a
      · have hx := HF.out.1 hbad
        have HX := Lib.hid hx
        clear hx
        unfold Bad3 at hbad
        rcases hbad with hbad | ⟨hb1, hb2⟩
        · go_wp2
          go_ret2
          rw [HX.out.1, HX.out.2]
          exact ⟨rfl, rfl⟩
        · go_wp2
          go_ret2
          rw [HX.out.1, HX.out.2]
          exact ⟨rfl, rfl⟩
      · have hx := HF.out.2 hbad
        have HX := Lib.hid hx
        clear hx
        unfold Bad3 at hbad
        have hg1 : 2048 ≤ (a : Int) := by omega
        have hg2 : (a : Int) ≤ 1114111 := by omega
        rcases (show a < 55296 ∨ 57344 ≤ a by omega) with hz | hz
        · go_wp2
          go_ret2
          rw [HX.out.1, HX.out.2]
          exact ⟨rfl, rfl⟩
        · go_wp2
          go_ret2
          rw [HX.out.1, HX.out.2]
          exact ⟨rfl, rfl⟩

/-- the relation of the round, class 4 -/
def PtRel4 (s : ByteArray) (p : Nat) (b i : Value) : Prop :=
  ∃ k : Nat, 1 ≤ k ∧ k ≤ 4 ∧ i = .int .i64 k ∧ b = .int .i64 (A s.data.toList p 8 k : Nat) ∧ ∀ t, 1 ≤ t → t < k → p + t < s.size ∧ bt s.data.toList (p + t) / 64 = 2
theorem pt_fail4 (s : ByteArray) (p k : Nat) (hp : p < s.size) (hb : 240 ≤ s[p].toNat) (hb' : s[p].toNat < 245) (hk1 : 1 ≤ k) (hk : k < 4) (hf : s.size ≤ p + k ∨ bt s.data.toList (p + k) / 64 ≠ 2) :
    ptC s.data.toList p = -1 ∧ (dc s.data.toList p).2 = 1 := by
  rw [at_bt s p hp] at hb hb'
  have hl : s.data.toList.length = s.size := by simp
  refine pt_bad _ _ (by omega) ?_
  rw [dc_N, hl]
  refine dec_short _ _ _ _ _ k 4 hk1 hk (by omega) ?_
  rcases hf with h | h
  · exact .inl (by omega)
  · rcases (show k = 1 ∨ k = 2 ∨ k = 3 by omega) with rfl | rfl | rfl
    · exact .inr (.inl ⟨rfl, h⟩)
    · exact .inr (.inr (.inl ⟨rfl, h⟩))
    · exact .inr (.inr (.inr ⟨rfl, h⟩))

def Bad4 (a : Nat) : Prop := a < 65536 ∨ 1114111 < a
theorem pt_end4 (s : ByteArray) (p : Nat) (hp : p < s.size) (hb : 240 ≤ s[p].toNat) (hb' : s[p].toNat < 245) (hall : ∀ t, 1 ≤ t → t < 4 → p + t < s.size ∧ bt s.data.toList (p + t) / 64 = 2) :
    (Bad4 (A s.data.toList p 8 4) → ptC s.data.toList p = -1 ∧ (dc s.data.toList p).2 = 1) ∧ (¬ Bad4 (A s.data.toList p 8 4) → ptC s.data.toList p = (A s.data.toList p 8 4 : Nat) ∧ (dc s.data.toList p).2 = 4) := by
  rw [at_bt s p hp] at hb hb'
  have hl : s.data.toList.length = s.size := by simp
  have e : A s.data.toList p 8 4 = ((bt s.data.toList p % 8 * 64 + bt s.data.toList (p + 1) % 64) * 64 + bt s.data.toList (p + 2) % 64) * 64 + bt s.data.toList (p + 3) % 64 := rfl
  have h1 := hall 1 (by omega) (by omega)
  have h2 := hall 2 (by omega) (by omega)
  have h3 := hall 3 (by omega) (by omega)
  have hd := dec_four (s.data.toList.length - p) (bt s.data.toList p) (bt s.data.toList (p + 1)) (bt s.data.toList (p + 2)) (bt s.data.toList (p + 3)) ⟨hb, hb'⟩ (by omega) h1.2 h2.2 h3.2
  rw [← dc_N, ← e] at hd
  refine ⟨fun hx => ?_, fun hx => ?_⟩
  · unfold Bad4 at hx; rw [if_pos hx] at hd; exact pt_bad _ _ (by omega) hd
  · unfold Bad4 at hx; rw [if_neg hx] at hd; exact pt_ok _ _ _ _ (by omega) hd

set_option maxHeartbeats 1600000 in
theorem point_4 (s : ByteArray) (p : Nat) (w : World) (hs : s.size ≤ 140737488355328) (hp : p < s.size) (hb : 240 ≤ s[p].toNat) (hb' : s[p].toNat < 245) :
    Calls Tryd.prog 33 #[.string s, .int .i64 p] w fun e w' => e = .returned (.tuple #[.int .i64 (ptC s.data.toList p), .int .i64 ((dc s.data.toList p).2 : Nat)]) ∧ w = w' := by
  have h256' := at_lt s p hp
  have hand := and_i64_7 s[p].toNat (at_lt s p hp)
  have d1 : decide ((s[p].toNat : Int) < 128) = false := by simp; omega
  have d2 : decide ((s[p].toNat : Int) < 224) = false := by simp; omega
  have d3 : decide ((s[p].toNat : Int) < 240) = false := by simp; omega
  have d4 : decide ((s[p].toNat : Int) < 245) = true := by simp; omega
  have d5 : decide ((224 : Int) ≤ (s[p].toNat : Int)) = true := by simp; omega
  have d6 : decide ((240 : Int) ≤ (s[p].toNat : Int)) = true := by simp; omega
  have d7 : decide ((194 : Int) ≤ (s[p].toNat : Int)) = true := by simp; omega
  go_enter Tryd.func33, Tryd.ntmps33
  go_wp2
  go_loop [6, 9] (fun b i => PtRel4 s p b i) (fun _ i => 4 - (intOf i).toNat)
  case atStart => exact ⟨1, by omega, by omega, rfl, by rw [A_one, ← at_bt s p hp]; go_num, fun t h1 h2 => by omega⟩
  case round =>
    obtain ⟨k, hk1, hk, rfl, rfl, hall⟩ := hrel
    have HALL := Lib.hid hall
    clear hall hand d1 d2 d3 d4 d5 d6 d7
    have hA := A_le s.data.toList p 8 k (by omega) (by omega) hk1 (by omega)
    by_cases hlt : k < 4
    · by_cases hx : p + k < s.size
      · have hbt := at_bt s (p + k) hx
        have h256 := at_lt s (p + k) hx
        have HBT := Lib.hid hbt
        by_cases hc : s[p + k].toNat / 64 = 2
        · have hcb : bt s.data.toList (p + k) / 64 = 2 := by rw [← hbt]; exact hc
          have HCB := Lib.hid hcb
          have hor := or_i64 (A s.data.toList p 8 k) s[p + k].toNat hA
          have h63 := and_u8_63 s[p + k].toNat h256
          have h192 := cont_true s[p + k].toNat h256 hc
          have hnext := A_succ s.data.toList p 8 k hk1
          have HN := Lib.hid hnext
          generalize A s.data.toList p 8 k = a at *
          clear hbt hc hcb hnext
          go_wp2
          go_round
          case rel =>
            refine ⟨k + 1, by omega, by omega, by go_num, ?_, ?_⟩
            · rw [HN.out, ← HBT.out]; go_num
            · intro t h1 h2
              rcases (show t < k ∨ t = k by omega) with h3 | h3
              · exact HALL.out t h1 h3
              · subst h3; exact ⟨hx, HCB.out⟩
          case measure => simp [intOf]; omega
        · have h192 := cont_false s[p + k].toNat h256 hc
          have hcb : bt s.data.toList (p + k) / 64 ≠ 2 := by rw [← hbt]; exact hc
          have hfin := pt_fail4 s p k hp hb hb' hk1 hlt (.inr hcb)
          have HF := Lib.hid hfin
          clear hbt hc hcb hfin
          go_wp2
          go_ret2
          rw [HF.out.1, HF.out.2]
          exact ⟨rfl, rfl⟩
      · have hfin := pt_fail4 s p k hp hb hb' hk1 hlt (.inl (by omega))
        have HF := Lib.hid hfin
        clear hfin
        go_wp2
        go_ret2
        rw [HF.out.1, HF.out.2]
        exact ⟨rfl, rfl⟩
    · obtain rfl : k = 4 := by omega
      have hfin := pt_end4 s p hp hb hb' HALL.out
      have HF := Lib.hid hfin
      clear hfin HALL
      generalize A s.data.toList p 8 4 = a at *
      by_cases hbad : Bad4 a
      · have hx := HF.out.1 hbad
        have HX := Lib.hid hx
        clear hx
        unfold Bad4 at hbad
        rcases hbad with hbad | hbad
        · go_wp2
          go_ret2
          rw [HX.out.1, HX.out.2]
          exact ⟨rfl, rfl⟩
        · go_wp2
          go_ret2
          rw [HX.out.1, HX.out.2]
          exact ⟨rfl, rfl⟩
      · have hx := HF.out.2 hbad
        have HX := Lib.hid hx
        clear hx
        unfold Bad4 at hbad
        have hg1 : 65536 ≤ (a : Int) := by omega
        have hg2 : (a : Int) ≤ 1114111 := by omega
        go_wp2
        go_ret2
        rw [HX.out.1, HX.out.2]
        exact ⟨rfl, rfl⟩

/-- spec.point -/
theorem point_any (s : ByteArray) (p : Nat) (w : World) (hs : s.size ≤ 140737488355328) (hp : p < s.size) :
    Calls Tryd.prog 33 #[.string s, .int .i64 p] w fun e w' => e = .returned (.tuple #[.int .i64 (ptC s.data.toList p), .int .i64 ((dc s.data.toList p).2 : Nat)]) ∧ w = w' := by
  have e := at_bt s p hp
  have h256 := at_lt s p hp
  have hl : s.data.toList.length = s.size := by simp
  rcases (show s[p].toNat < 128 ∨ (128 ≤ s[p].toNat ∧ (s[p].toNat < 194 ∨ 245 ≤ s[p].toNat)) ∨ (194 ≤ s[p].toNat ∧ s[p].toNat < 224) ∨ (224 ≤ s[p].toNat ∧ s[p].toNat < 240) ∨ (240 ≤ s[p].toNat ∧ s[p].toNat < 245) by omega) with h | h | h | h | h
  · refine (point_ascii s p w hs hp h).mono ?_
    rintro e' w' ⟨rfl, rfl⟩
    have := pt_ascii s.data.toList p (by rw [← e]; exact h)
    rw [this.1, this.2, e]
    exact ⟨rfl, rfl⟩
  · refine (point_lead s p w hs hp h.1 h.2).mono ?_
    rintro e' w' ⟨rfl, rfl⟩
    have := pt_bad s.data.toList p (by rw [← e]; exact h.1) (by rw [dc_N]; exact dec_lead _ _ _ _ _ (by rw [← e]; exact h.1) (by rw [← e]; exact h.2) (by rw [← e]; exact h256))
    rw [this.1, this.2]
    exact ⟨rfl, rfl⟩
  · exact point_2 s p w hs hp h.1 h.2
  · exact point_3 s p w hs hp h.1 h.2
  · exact point_4 s p w hs hp h.1 h.2
end Go.Proofs.YtfndlifolohlgaaDoor
