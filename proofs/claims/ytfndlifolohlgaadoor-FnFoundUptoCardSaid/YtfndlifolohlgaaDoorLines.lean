/-
  The plain law of lines: what a line's number, its beginning and its end are, over a text's bytes, and how they turn from one character to the next; nothing of a program stands here.
  Conditions: the text is valid UTF-8 (VT), places are boundaries of characters (Bd).
-/
import Derived.Lib.TrimUEq
namespace Go.Proofs.YtfndlifolohlgaaDoor.Ln
open Go.Lib

/-- the byte at a place, 0 beyond the end -/
def bt (l : List UInt8) (i : Nat) : Nat := (l.getD i 0).toNat
/-- an end of a line begins at p -/
def brk (l : List UInt8) (p : Nat) : Bool := bt l p == 10 || bt l p == 13 || (bt l p == 226 && bt l (p + 1) == 128 && (bt l (p + 2) == 168 || bt l (p + 2) == 169))
/-- how long it is -/
def wid (l : List UInt8) (p : Nat) : Nat := if bt l p = 226 then 3 else 1
/-- it begins a new line: it is not the line feed behind a carriage return -/
def inc (l : List UInt8) (p : Nat) : Bool := brk l p && !(bt l p == 10 && (decide (0 < p) && bt l (p - 1) == 13))
/-- lines ahead of q -/
def L (l : List UInt8) : Nat → Nat
  | 0 => 0
  | q + 1 => L l q + (if inc l q then 1 else 0)
/-- where q's line begins -/
def S (l : List UInt8) : Nat → Nat
  | 0 => 0
  | q + 1 => if brk l q then q + wid l q else S l q
def Ef (l : List UInt8) : Nat → Nat → Nat
  | 0, q => q
  | f + 1, q => if brk l q then q else Ef l f (q + 1)
/-- where q's line ends -/
def E (l : List UInt8) (q : Nat) : Nat := Ef l (l.length - q) q
/-- a character begins at q, or the text ends there -/
def Bd (l : List UInt8) (q : Nat) : Prop := q ≤ l.length ∧ (q < l.length → bt l q / 64 ≠ 2)
/-- the decoder's answer at p -/
def dc (l : List UInt8) (p : Nat) : Nat × Nat := decodeL (l.drop p)
/-- a whole character stands at p -/
def Good (l : List UInt8) (p : Nat) : Prop := (bt l p < 128 ∨ 2 ≤ (dc l p).2)
/-- valid UTF-8 -/
def VT (l : List UInt8) : Prop := Bd l 0 ∧ ∀ p, p < l.length → bt l p / 64 ≠ 2 → Good l p ∧ Bd l (p + (dc l p).2)
/-- not between a carriage return and its line feed -/
def Nm (l : List UInt8) (q : Nat) : Prop := ¬ (0 < q ∧ bt l (q - 1) = 13 ∧ bt l q = 10)

theorem bt_lt (l : List UInt8) (i : Nat) : bt l i < 256 := (l.getD i 0).toNat_lt
theorem bt_end (l : List UInt8) (i : Nat) (h : l.length ≤ i) : bt l i = 0 := by
  unfold bt
  rw [List.getD, List.getElem?_eq_none h]
  rfl
theorem dc_N (l : List UInt8) (p : Nat) : dc l p = decodeN (l.length - p) (bt l p) (bt l (p + 1)) (bt l (p + 2)) (bt l (p + 3)) := by
  unfold dc bt
  rw [decodeL_N, List.length_drop, getD_dropU, getD_dropU, getD_dropU, getD_dropU, Nat.add_zero]

set_option maxRecDepth 100000 in
set_option maxHeartbeats 2000000 in
/-- ALL THAT THE DECODER SAYS OF A WHOLE CHARACTER, by bytes. -/
theorem dcN_facts (n b0 b1 b2 b3 : Nat) (h0 : b0 < 256) (h1 : b1 < 256) (h2 : b2 < 256) (_h3 : b3 < 256) (hn : 1 ≤ n)
    (hg : b0 < 128 ∨ 2 ≤ (decodeN n b0 b1 b2 b3).2) :
    1 ≤ (decodeN n b0 b1 b2 b3).2 ∧ (decodeN n b0 b1 b2 b3).2 ≤ 4 ∧ (decodeN n b0 b1 b2 b3).2 ≤ n ∧ b0 / 64 ≠ 2 ∧
    (2 ≤ (decodeN n b0 b1 b2 b3).2 → 192 ≤ b0 ∧ b1 / 64 = 2) ∧ (3 ≤ (decodeN n b0 b1 b2 b3).2 → b2 / 64 = 2) ∧ (4 ≤ (decodeN n b0 b1 b2 b3).2 → b3 / 64 = 2) ∧
    ((decodeN n b0 b1 b2 b3).1 = 10 ↔ b0 = 10) ∧ ((decodeN n b0 b1 b2 b3).1 = 13 ↔ b0 = 13) ∧
    ((decodeN n b0 b1 b2 b3).1 = 8232 ↔ b0 = 226 ∧ b1 = 128 ∧ b2 = 168 ∧ 2 < n) ∧ ((decodeN n b0 b1 b2 b3).1 = 8233 ↔ b0 = 226 ∧ b1 = 128 ∧ b2 = 169 ∧ 2 < n) ∧
    (b0 < 128 → (decodeN n b0 b1 b2 b3).2 = 1) ∧ (b0 = 226 → (decodeN n b0 b1 b2 b3).2 = 3) ∧ (decodeN n b0 b1 b2 b3).1 ≤ 1114111 := by
  unfold decodeN at *
  repeat' split
  all_goals simp_all only [ge_iff_le, Nat.reduceLeDiff, or_false, if_true, if_false, and_true, and_false, or_true, true_and, false_and]
  all_goals and_intros
  all_goals first | omega | (intro _; omega) | (intro _; and_intros <;> omega) | (constructor <;> intro _ <;> first | omega | (and_intros <;> omega)) | (intro h; exact h.elim) | (intro _; trivial)

/-- ALL THAT IS KNOWN OF THE CHARACTER AT A BOUNDARY of a valid text. -/
theorem at_bd {l : List UInt8} (hv : VT l) {p : Nat} (hb : Bd l p) (hp : p < l.length) :
    1 ≤ (dc l p).2 ∧ (dc l p).2 ≤ 4 ∧ p + (dc l p).2 ≤ l.length ∧ Bd l (p + (dc l p).2) ∧ Good l p ∧
    (∀ j, p < j → j < p + (dc l p).2 → bt l j / 64 = 2) ∧
    ((dc l p).1 = 10 ↔ bt l p = 10) ∧ ((dc l p).1 = 13 ↔ bt l p = 13) ∧
    ((dc l p).1 = 8232 ↔ bt l p = 226 ∧ bt l (p + 1) = 128 ∧ bt l (p + 2) = 168) ∧ ((dc l p).1 = 8233 ↔ bt l p = 226 ∧ bt l (p + 1) = 128 ∧ bt l (p + 2) = 169) ∧
    (bt l p < 128 → (dc l p).2 = 1) ∧ (bt l p = 226 → (dc l p).2 = 3) ∧ (2 ≤ (dc l p).2 → 192 ≤ bt l p) ∧ (dc l p).1 ≤ 1114111 := by
  have h := hv.2 p hp (hb.2 hp)
  have hg := h.1
  have f := dcN_facts (l.length - p) (bt l p) (bt l (p + 1)) (bt l (p + 2)) (bt l (p + 3)) (bt_lt _ _) (bt_lt _ _) (bt_lt _ _) (bt_lt _ _) (by omega) (by rw [← dc_N]; exact hg)
  rw [← dc_N] at f
  obtain ⟨f1, f2, f3, f4, f5, f6, f7, f8, f9, f10, f11, f12, f13, f14⟩ := f
  refine ⟨f1, f2, by omega, h.2, hg, ?_, f8, f9, ?_, ?_, f12, f13, fun h => (f5 h).1, f14⟩
  · intro j h1 h2
    rcases (show j = p + 1 ∨ j = p + 2 ∨ j = p + 3 by omega) with rfl | rfl | rfl
    · exact (f5 (by omega)).2
    · exact f6 (by omega)
    · exact f7 (by omega)
  · rw [f10]
    refine ⟨fun h => ⟨h.1, h.2.1, h.2.2.1⟩, fun h => ⟨h.1, h.2.1, h.2.2, ?_⟩⟩
    rcases Nat.lt_or_ge 2 (l.length - p) with h' | h'
    · exact h'
    · have := bt_end l (p + 2) (by omega); omega
  · rw [f11]
    refine ⟨fun h => ⟨h.1, h.2.1, h.2.2.1⟩, fun h => ⟨h.1, h.2.1, h.2.2, ?_⟩⟩
    rcases Nat.lt_or_ge 2 (l.length - p) with h' | h'
    · exact h'
    · have := bt_end l (p + 2) (by omega); omega

theorem dw {l : List UInt8} (hv : VT l) {p : Nat} (hb : Bd l p) (hp : p < l.length) : 1 ≤ (dc l p).2 ∧ p + (dc l p).2 ≤ l.length :=
  ⟨(at_bd hv hb hp).1, (at_bd hv hb hp).2.2.1⟩
theorem dbd {l : List UInt8} (hv : VT l) {p : Nat} (hb : Bd l p) (hp : p < l.length) : Bd l (p + (dc l p).2) := (at_bd hv hb hp).2.2.2.1
theorem dcont {l : List UInt8} (hv : VT l) {p : Nat} (hb : Bd l p) (hp : p < l.length) : ∀ j, p < j → j < p + (dc l p).2 → bt l j / 64 = 2 := (at_bd hv hb hp).2.2.2.2.2.1

theorem brk_iff (l : List UInt8) (p : Nat) : brk l p = true ↔ bt l p = 10 ∨ bt l p = 13 ∨ (bt l p = 226 ∧ bt l (p + 1) = 128 ∧ (bt l (p + 2) = 168 ∨ bt l (p + 2) = 169)) := by
  unfold brk
  simp [and_assoc, or_assoc]
theorem brk_false (l : List UInt8) (p : Nat) : brk l p = false ↔ ¬ (bt l p = 10 ∨ bt l p = 13 ∨ (bt l p = 226 ∧ bt l (p + 1) = 128 ∧ (bt l (p + 2) = 168 ∨ bt l (p + 2) = 169))) := by
  rw [← brk_iff]; simp
theorem inc_iff (l : List UInt8) (p : Nat) : inc l p = true ↔ brk l p = true ∧ ¬ (bt l p = 10 ∧ 0 < p ∧ bt l (p - 1) = 13) := by
  unfold inc
  simp only [Bool.and_eq_true, Bool.not_eq_true', Bool.and_eq_false_iff, beq_eq_false_iff_ne, decide_eq_false_iff_not]
  constructor
  · rintro ⟨h, h'⟩; exact ⟨h, by omega⟩
  · rintro ⟨h, h'⟩; exact ⟨h, by omega⟩
theorem brk_cont (l : List UInt8) (j : Nat) (h : bt l j / 64 = 2) : brk l j = false := by
  rw [brk_false]; omega
theorem inc_of_brk (l : List UInt8) (j : Nat) (h : brk l j = false) : inc l j = false := by
  unfold inc; rw [h]; rfl

/-- a character is an end of a line just if its code is one of four -/
theorem brk_code {l : List UInt8} (hv : VT l) {p : Nat} (hb : Bd l p) (hp : p < l.length) :
    brk l p = true ↔ (dc l p).1 = 10 ∨ (dc l p).1 = 13 ∨ (dc l p).1 = 8232 ∨ (dc l p).1 = 8233 := by
  obtain ⟨_, _, _, _, _, _, h10, h13, h28, h29, _⟩ := at_bd hv hb hp
  rw [brk_iff, h10, h13, h28, h29]
  omega
theorem wid_eq {l : List UInt8} (hv : VT l) {p : Nat} (hb : Bd l p) (hp : p < l.length) (h : brk l p = true) : wid l p = (dc l p).2 := by
  obtain ⟨_, _, _, _, _, _, _, _, _, _, h1, h3, _⟩ := at_bd hv hb hp
  rw [brk_iff] at h
  unfold wid
  by_cases e : bt l p = 226
  · rw [if_pos e, h3 e]
  · rw [if_neg e, h1 (by omega)]

/-! ### over places at which nothing ends -/
theorem L_skip (l : List UInt8) (a : Nat) : ∀ k, (∀ j, a ≤ j → j < a + k → inc l j = false) → L l (a + k) = L l a
  | 0, _ => rfl
  | k + 1, h => by
    rw [← Nat.add_assoc, L, h (a + k) (by omega) (by omega), L_skip l a k (fun j h1 h2 => h j h1 (by omega))]
    rfl
theorem S_skip (l : List UInt8) (a : Nat) : ∀ k, (∀ j, a ≤ j → j < a + k → brk l j = false) → S l (a + k) = S l a
  | 0, _ => rfl
  | k + 1, h => by
    rw [← Nat.add_assoc, S, h (a + k) (by omega) (by omega), S_skip l a k (fun j h1 h2 => h j h1 (by omega))]
    rfl
theorem E_step (l : List UInt8) (q : Nat) (hq : q < l.length) : E l q = if brk l q then q else E l (q + 1) := by
  unfold E
  rw [show l.length - q = (l.length - (q + 1)) + 1 by omega, Ef]
theorem E_end (l : List UInt8) (q : Nat) (hq : l.length ≤ q) : E l q = q := by
  unfold E
  rw [show l.length - q = 0 by omega, Ef]
theorem E_skip (l : List UInt8) (a : Nat) : ∀ k, a + k ≤ l.length → (∀ j, a ≤ j → j < a + k → brk l j = false) → E l a = E l (a + k)
  | 0, _, _ => rfl
  | k + 1, hl, h => by
    rw [E_skip l a k (by omega) (fun j h1 h2 => h j h1 (by omega)), E_step l (a + k) (by omega), h (a + k) (by omega) (by omega)]
    rfl

/-! ### a character forward -/
theorem L_fwd {l : List UInt8} (hv : VT l) {p : Nat} (hb : Bd l p) (hp : p < l.length) : L l (p + (dc l p).2) = L l p + if inc l p then 1 else 0 := by
  have h1 := (dw hv hb hp).1
  have hc := dcont hv hb hp
  have := L_skip l (p + 1) ((dc l p).2 - 1) (fun j h2 h3 => inc_of_brk _ _ (brk_cont l j (hc j (by omega) (by omega))))
  rw [show p + 1 + ((dc l p).2 - 1) = p + (dc l p).2 by omega] at this
  rw [this, L]
theorem S_fwd {l : List UInt8} (hv : VT l) {p : Nat} (hb : Bd l p) (hp : p < l.length) : S l (p + (dc l p).2) = if brk l p then p + (dc l p).2 else S l p := by
  have h1 := (dw hv hb hp).1
  have hc := dcont hv hb hp
  have := S_skip l (p + 1) ((dc l p).2 - 1) (fun j h2 h3 => brk_cont l j (hc j (by omega) (by omega)))
  rw [show p + 1 + ((dc l p).2 - 1) = p + (dc l p).2 by omega] at this
  rw [this, S]
  by_cases hbk : brk l p = true
  · rw [if_pos hbk, if_pos hbk, wid_eq hv hb hp hbk]
  · rw [if_neg hbk, if_neg hbk]
theorem E_fwd {l : List UInt8} (hv : VT l) {p : Nat} (hb : Bd l p) (hp : p < l.length) : E l p = if brk l p then p else E l (p + (dc l p).2) := by
  have h1 := (dw hv hb hp).1
  have h2 := (dw hv hb hp).2
  have hc := dcont hv hb hp
  rw [E_step l p hp, E_skip l (p + 1) ((dc l p).2 - 1) (by omega) (fun j h2 h3 => brk_cont l j (hc j (by omega) (by omega))),
    show p + 1 + ((dc l p).2 - 1) = p + (dc l p).2 by omega]

/-- the boundary ahead of a boundary -/
theorem prev {l : List UInt8} (hv : VT l) {q : Nat} (hb : Bd l q) (hq : 0 < q) : ∃ p, p < q ∧ Bd l p ∧ p + (dc l p).2 = q := by
  have hql := hb.1
  have step : ∀ p, p < q → bt l p / 64 ≠ 2 → (∀ j, p < j → j < q → bt l j / 64 = 2) → p + (dc l p).2 = q := by
    intro p hpq hp hall
    have hpl : p < l.length := by omega
    have hbp : Bd l p := ⟨by omega, fun _ => hp⟩
    have h1 := (dw hv hbp hpl).1
    have h2 := (dw hv hbp hpl).2
    have h3 := (dbd hv hbp hpl).2
    have h4 := dcont hv hbp hpl q hpq
    generalize (dc l p).2 = n at *
    rcases Nat.lt_trichotomy (p + n) q with h' | h' | h'
    · exact absurd (hall _ (by omega) h') (h3 (by omega))
    · exact h'
    · exact absurd (h4 h') (hb.2 (by omega))
  have key : ∀ k, k ≤ q → (∃ p, p < q ∧ Bd l p ∧ p + (dc l p).2 = q) ∨ ∀ j, q ≤ j + k → j < q → bt l j / 64 = 2 := by
    intro k
    induction k with
    | zero => intro _; exact .inr fun j h1 h2 => by omega
    | succ k ih =>
      intro hk
      rcases ih (by omega) with h | h
      · exact .inl h
      · by_cases hc : bt l (q - (k + 1)) / 64 = 2
        · refine .inr fun j h1 h2 => ?_
          rcases (show j = q - (k + 1) ∨ q ≤ j + k by omega) with rfl | h3
          · exact hc
          · exact h j h3 h2
        · exact .inl ⟨q - (k + 1), by omega, ⟨by omega, fun _ => hc⟩, step _ (by omega) hc (fun j h1 h2 => h j (by omega) h2)⟩
  rcases key q (Nat.le_refl _) with h | h
  · exact h
  · exact absurd (h 0 (by omega) hq) (hv.1.2 (by omega))

end Go.Proofs.YtfndlifolohlgaaDoor.Ln
