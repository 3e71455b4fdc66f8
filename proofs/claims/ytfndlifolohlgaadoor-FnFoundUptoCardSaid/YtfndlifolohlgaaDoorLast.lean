/-
  The plain law of lines, second part: the decoder from the end finds the character ahead of a boundary; what the reference's scan over the lines comes to.
  Conditions: the text is valid UTF-8 (VT), places are boundaries of characters (Bd).
-/
import Derived.Test.YtfndlifolohlgaaDoorLines
namespace Go.Proofs.YtfndlifolohlgaaDoor.Ln
open Go.Lib

set_option maxRecDepth 100000 in
set_option maxHeartbeats 2000000 in
theorem decodeN_cut (n k b0 b1 b2 b3 c2 c3 : Nat) (hk : 2 ≤ k) (hw : (decodeN n b0 b1 b2 b3).2 = k) (e2 : 2 < k → c2 = b2) (e3 : 3 < k → c3 = b3) :
    decodeN k b0 b1 c2 c3 = decodeN n b0 b1 b2 b3 := by
  unfold decodeN at hw ⊢
  rcases (show k = 2 ∨ k = 3 ∨ k = 4 ∨ 5 ≤ k by omega) with rfl | rfl | rfl | h5
  · split at hw
    · simp at hw
    · split at hw
      · split at hw
        · rename_i h1 h2 h3
          rw [if_neg h1, if_pos ⟨h2.1, by omega, h2.2.2⟩, if_pos h3, if_neg h1, if_pos h2]
        · simp at hw
      · split at hw
        · split at hw <;> simp at hw
        · split at hw
          · split at hw <;> simp at hw
          · simp at hw
  · have := e2 (by omega)
    subst this
    split at hw
    · simp at hw
    · split at hw
      · split at hw <;> simp at hw
      · split at hw
        · split at hw
          · rename_i h1 h2 h3 h4
            rw [if_neg h1, if_neg (by omega), if_pos ⟨h3.1, ⟨by omega, h3.2.1.2⟩, ⟨by omega, h3.2.2.2⟩⟩, if_pos h4, if_neg h1, if_neg h2, if_pos h3]
          · simp at hw
        · split at hw
          · split at hw <;> simp at hw
          · simp at hw
  · have := e2 (by omega)
    subst this
    have := e3 (by omega)
    subst this
    split at hw
    · simp at hw
    · split at hw
      · split at hw <;> simp at hw
      · split at hw
        · split at hw <;> simp at hw
        · split at hw
          · split at hw
            · rename_i h1 h2 h3 h4 h5
              rw [if_neg h1, if_neg (by omega), if_neg (by omega), if_pos ⟨h4.1, ⟨by omega, h4.2.1.2⟩, ⟨by omega, h4.2.2.1.2⟩, ⟨by omega, h4.2.2.2.2⟩⟩, if_pos h5, if_neg h1, if_neg h2, if_neg h3, if_pos h4]
            · simp at hw
          · simp at hw
  · exfalso
    repeat' split at hw
    all_goals simp at hw
    all_goals omega

theorem bt_take (l : List UInt8) (q j : Nat) (h : j < q) : (l.take q).getD j 0 = l.getD j 0 := by
  simp [List.getD, h]
theorem start_iff (b : UInt8) : runeStartB b = true ↔ b.toNat / 64 ≠ 2 := by
  unfold runeStartB; simp
theorem start_false (b : UInt8) (h : b.toNat / 64 = 2) : runeStartB b = false := by
  unfold runeStartB; simp [h]

/-- THE DECODER FROM THE END finds the character ahead of a boundary. -/
theorem last_dc {l : List UInt8} (hv : VT l) {q : Nat} (hb : Bd l q) (hq : 0 < q) :
    ∃ p, p < q ∧ Bd l p ∧ p + (dc l p).2 = q ∧ decodeLastL (l.take q) = dc l p := by
  obtain ⟨p, hpq, hbp, hsum⟩ := prev hv hb hq
  have hql := hb.1
  have hpl : p < l.length := by omega
  refine ⟨p, hpq, hbp, hsum, ?_⟩
  have hg := (at_bd hv hbp hpl).2.2.2.2.1
  have h4 := (at_bd hv hbp hpl).2.1
  have hc := dcont hv hbp hpl
  have hp0 := hbp.2 hpl
  have hlen : (l.take q).length = q := by rw [List.length_take]; omega
  have hne : l.take q ≠ [] := fun h => by rw [h] at hlen; simp at hlen; omega
  unfold decodeLastL
  rw [if_neg hne, hlen, bt_take l q (q - 1) (by omega)]
  by_cases h1 : (dc l p).2 = 1
  · have hlt : bt l p < 128 := by unfold Good at hg; omega
    have e : q - 1 = p := by omega
    rw [e]
    have e2 : (l.getD p 0).toNat < 128 := hlt
    rw [if_pos e2, dc_N, decodeN_ascii _ _ _ _ _ hlt]
    rfl
  · have h2 : 2 ≤ (dc l p).2 := by have := (dw hv hbp hpl).1; omega
    have hlast : bt l (q - 1) / 64 = 2 := hc _ (by omega) (by omega)
    have hlast' : ¬ (l.getD (q - 1) 0).toNat < 128 := by
      have : (l.getD (q - 1) 0).toNat = bt l (q - 1) := rfl
      omega
    rw [if_neg hlast']
    have hst : lastStart (l.take q) = p := by
      have tr : ∀ k, 1 ≤ k → k ≤ q → q - k = p → runeStartB ((l.take q).getD (q - k) 0) = true := by
        intro k hk1 hk2 e
        rw [bt_take l q _ (by omega), e, start_iff]
        exact hp0
      have fa : ∀ k, 1 ≤ k → k ≤ q → p < q - k → runeStartB ((l.take q).getD (q - k) 0) = false := by
        intro k hk1 hk2 e
        rw [bt_take l q _ (by omega)]
        exact start_false _ (hc _ e (by omega))
      unfold lastStart
      simp only [hlen]
      rw [if_neg (by omega)]
      rcases (show (dc l p).2 = 2 ∨ (dc l p).2 = 3 ∨ (dc l p).2 = 4 by omega) with e | e | e
      · rw [tr 2 (by omega) (by omega) (by omega), if_pos rfl]; omega
      · rw [fa 2 (by omega) (by omega) (by omega), if_neg (by decide), if_neg (by omega), tr 3 (by omega) (by omega) (by omega), if_pos rfl]; omega
      · rw [fa 2 (by omega) (by omega) (by omega), if_neg (by decide), if_neg (by omega), fa 3 (by omega) (by omega) (by omega), if_neg (by decide), if_neg (by omega), tr 4 (by omega) (by omega) (by omega), if_pos rfl]; omega
    have hd : decodeL ((l.take q).drop p) = dc l p := by
      rw [decodeL_N, List.length_drop, hlen, getD_dropU, getD_dropU, getD_dropU, getD_dropU, Nat.add_zero, bt_take l q p hpq, bt_take l q (p + 1) (by omega), dc_N l p, show q - p = (dc l p).2 by omega]
      refine decodeN_cut _ _ _ _ _ _ _ _ h2 (congrArg Prod.snd (dc_N l p).symm) (fun h => ?_) (fun h => ?_)
      · rw [bt_take l q _ (by omega)]; rfl
      · rw [bt_take l q _ (by omega)]; rfl
    simp only [hst, hd]
    rw [if_pos hsum]

/-! ### how far they reach -/
theorem L_le (l : List UInt8) : ∀ q, L l q ≤ q
  | 0 => Nat.le_refl _
  | q + 1 => by
    have := L_le l q
    rw [L]
    split <;> omega
theorem S_le {l : List UInt8} (hv : VT l) : ∀ n q, q ≤ n → Bd l q → S l q ≤ q
  | 0, q, hn, _ => by rw [show q = 0 by omega]; exact Nat.le_refl _
  | n + 1, q, hn, hb => by
    by_cases h0 : q = 0
    · subst h0; exact Nat.le_refl _
    · obtain ⟨p, hpq, hbp, hsum⟩ := prev hv hb (by omega)
      have hql := hb.1
      have ih := S_le hv n p (by omega) hbp
      rw [← hsum, S_fwd hv hbp (by omega)]
      split <;> omega
theorem Ef_bd (l : List UInt8) : ∀ f q, q ≤ Ef l f q ∧ Ef l f q ≤ q + f
  | 0, q => ⟨Nat.le_refl _, Nat.le_refl _⟩
  | f + 1, q => by
    have := Ef_bd l f (q + 1)
    rw [Ef]
    split <;> omega
theorem E_bd (l : List UInt8) (q : Nat) (hq : q ≤ l.length) : q ≤ E l q ∧ E l q ≤ l.length := by
  have := Ef_bd l (l.length - q) q
  unfold E
  omega
theorem L_mono (l : List UInt8) (a : Nat) : ∀ k, L l a ≤ L l (a + k)
  | 0 => Nat.le_refl _
  | k + 1 => by
    have := L_mono l a k
    rw [← Nat.add_assoc, L]
    omega

/-! ### two places in order -/
theorem order {l : List UInt8} {a b : Nat} (hab : a < b) (hn : Nm l a) : L l a < L l b ∨ (L l a = L l b ∧ S l a = S l b) := by
  rcases Nat.lt_or_ge (L l a) (L l b) with h | h
  · exact .inl h
  · have key : ∀ k, a + k ≤ b → ∀ j, a ≤ j → j < a + k → brk l j = false := by
      intro k
      induction k with
      | zero => intro _ j h1 h2; omega
      | succ k ih =>
        intro hk j h1 h2
        rcases (show j < a + k ∨ j = a + k by omega) with h3 | h3
        · exact ih (by omega) j h1 h3
        · subst h3
          have e1 := L_skip l a k (fun j h1 h2 => inc_of_brk _ _ (ih (by omega) j h1 h2))
          have e2 := L_mono l (a + k + 1) (b - (a + k + 1))
          rw [show a + k + 1 + (b - (a + k + 1)) = b by omega, L] at e2
          have hinc : inc l (a + k) = false := by
            cases hi : inc l (a + k) with
            | false => rfl
            | true => rw [hi] at e2; simp at e2; omega
          cases hbk : brk l (a + k) with
          | false => rfl
          | true =>
            exfalso
            have hni : ¬ (inc l (a + k) = true) := by rw [hinc]; decide
            rw [inc_iff] at hni
            have hx : bt l (a + k) = 10 ∧ 0 < a + k ∧ bt l (a + k - 1) = 13 := by
              by_cases hx : bt l (a + k) = 10 ∧ 0 < a + k ∧ bt l (a + k - 1) = 13
              · exact hx
              · exact absurd ⟨hbk, hx⟩ hni
            by_cases hk0 : k = 0
            · subst hk0
              exact hn ⟨by omega, hx.2.2, hx.1⟩
            · have hf := ih (by omega) (a + k - 1) (by omega) (by omega)
              rw [brk_false] at hf
              exact hf (.inr (.inl hx.2.2))
    have hall := key (b - a) (by omega)
    have e1 := L_skip l a (b - a) (fun j h1 h2 => inc_of_brk _ _ (hall j h1 h2))
    have e2 := S_skip l a (b - a) hall
    rw [show a + (b - a) = b by omega] at e1 e2
    exact .inr ⟨e1.symm, e2.symm⟩

/-! ### the reference's steps: a carriage return and its line feed are one -/
def nx (l : List UInt8) (p : Nat) : Nat := if bt l p = 13 ∧ bt l (p + 1) = 10 then p + 2 else p + (dc l p).2
theorem nx_gt {l : List UInt8} (hv : VT l) {p : Nat} (hb : Bd l p) (hp : p < l.length) : p < nx l p ∧ nx l p ≤ l.length := by
  have h1 := dw hv hb hp
  unfold nx
  split
  · rename_i h
    rcases Nat.lt_or_ge (p + 1) l.length with h2 | h2
    · omega
    · have := bt_end l (p + 1) h2; omega
  · omega
theorem cr_one {l : List UInt8} (hv : VT l) {p : Nat} (hb : Bd l p) (hp : p < l.length) (h : bt l p < 128) : (dc l p).2 = 1 :=
  (at_bd hv hb hp).2.2.2.2.2.2.2.2.2.2.1 h
theorem nx_bd {l : List UInt8} (hv : VT l) {p : Nat} (hb : Bd l p) (hp : p < l.length) : Bd l (nx l p) ∧ Nm l (nx l p) := by
  unfold nx
  split
  · rename_i h
    have hp1 : p + 1 < l.length := by
      rcases Nat.lt_or_ge (p + 1) l.length with h2 | h2
      · exact h2
      · have := bt_end l (p + 1) h2; omega
    have hb1 : Bd l (p + 1) := ⟨by omega, fun _ => by omega⟩
    have e := cr_one hv hb1 hp1 (by omega)
    have hb2 := dbd hv hb1 hp1
    rw [e] at hb2
    refine ⟨hb2, fun hx => ?_⟩
    rw [show p + 2 - 1 = p + 1 by omega] at hx
    omega
  · rename_i h
    refine ⟨dbd hv hb hp, fun hx => ?_⟩
    have h1 := (dw hv hb hp).1
    by_cases e : (dc l p).2 = 1
    · rw [e] at hx
      rw [show p + 1 - 1 = p by omega] at hx
      exact h ⟨hx.2.1, hx.2.2⟩
    · have := dcont hv hb hp (p + (dc l p).2 - 1) (by omega) (by omega)
      omega
/-- a boundary behind p that is not within a pair is behind the whole step -/
theorem nx_le {l : List UInt8} (hv : VT l) {p q : Nat} (hb : Bd l p) (hp : p < l.length) (hq : Bd l q) (hn : Nm l q) (hpq : p < q) : nx l p ≤ q := by
  have hle : p + (dc l p).2 ≤ q := by
    rcases Nat.lt_or_ge q (p + (dc l p).2) with h | h
    · have h1 := dcont hv hb hp q hpq h
      have h2 := (dw hv hb hp).2
      exact absurd h1 (hq.2 (by omega))
    · exact h
  unfold nx
  split
  · rename_i h
    rcases (show q = p + 1 ∨ p + 2 ≤ q by omega) with rfl | h2
    · exact absurd ⟨by omega, by rw [show p + 1 - 1 = p by omega]; exact h.1, h.2⟩ hn
    · exact h2
  · exact hle

/-- the reference's scan for a place's line, at a round's head -/
def LnInv (l : List UInt8) (place line begin at' : Nat) : Prop :=
  Bd l at' ∧ Nm l at' ∧ line = 1 + L l (min at' place) ∧ begin = S l (min at' place) ∧ (place ≤ at' → E l place = E l at')
theorem ln_start {l : List UInt8} (hv : VT l) (place : Nat) : LnInv l place 1 0 0 := by
  refine ⟨hv.1, fun h => by omega, ?_, ?_, fun h => by rw [show place = 0 by omega]⟩
  · rw [show min 0 place = 0 by omega]; rfl
  · rw [show min 0 place = 0 by omega]; rfl
theorem ln_plain {l : List UInt8} (hv : VT l) {place line begin p : Nat} (hpl : Bd l place) (hpn : Nm l place) (h : LnInv l place line begin p) (hp : p < l.length) (hbk : brk l p = false) :
    LnInv l place line begin (p + (dc l p).2) := by
  obtain ⟨hb, hn, h1, h2, h3⟩ := h
  have hnx : nx l p = p + (dc l p).2 := by
    unfold nx
    rw [if_neg]
    rw [brk_false] at hbk
    omega
  have hbn := nx_bd hv hb hp
  rw [hnx] at hbn
  refine ⟨hbn.1, hbn.2, ?_, ?_, ?_⟩
  · rcases Nat.lt_or_ge p place with h4 | h4
    · have := nx_le hv hb hp hpl hpn h4
      rw [show min p place = p by omega] at h1
      rw [show min (p + (dc l p).2) place = p + (dc l p).2 by omega, L_fwd hv hb hp, inc_of_brk _ _ hbk, h1]
      rfl
    · rw [show min p place = place by omega] at h1
      rw [show min (p + (dc l p).2) place = place by omega, h1]
  · rcases Nat.lt_or_ge p place with h4 | h4
    · have := nx_le hv hb hp hpl hpn h4
      rw [show min p place = p by omega] at h2
      rw [show min (p + (dc l p).2) place = p + (dc l p).2 by omega, S_fwd hv hb hp, hbk, h2]
      rfl
    · rw [show min p place = place by omega] at h2
      rw [show min (p + (dc l p).2) place = place by omega, h2]
  · intro h4
    rcases Nat.lt_or_ge p place with h5 | h5
    · have := nx_le hv hb hp hpl hpn h5
      rw [show place = p + (dc l p).2 by omega]
    · rw [h3 h5, E_fwd hv hb hp, hbk]
      rfl
theorem ln_brk {l : List UInt8} (hv : VT l) {place line begin p : Nat} (hpl : Bd l place) (hpn : Nm l place) (h : LnInv l place line begin p) (hp : p < l.length) (hlt : p < place) (hbk : brk l p = true) :
    LnInv l place (line + 1) (nx l p) (nx l p) := by
  obtain ⟨hb, hn, h1, h2, h3⟩ := h
  have hbn := nx_bd hv hb hp
  have hle := nx_le hv hb hp hpl hpn hlt
  have hinc : inc l p = true := by
    rw [inc_iff]
    exact ⟨hbk, fun hx => hn ⟨hx.2.1, hx.2.2, hx.1⟩⟩
  have hLS : L l (nx l p) = L l p + 1 ∧ S l (nx l p) = nx l p := by
    unfold nx
    split
    · rename_i h
      have e : L l (p + 2) = L l p + (if inc l p then 1 else 0) + (if inc l (p + 1) then 1 else 0) := rfl
      have hi : inc l (p + 1) = false := by
        cases hi : inc l (p + 1) with
        | false => rfl
        | true =>
          rw [inc_iff] at hi
          exact absurd ⟨h.2, by omega, by rw [show p + 1 - 1 = p by omega]; exact h.1⟩ hi.2
      rw [e, hinc, hi]
      refine ⟨rfl, ?_⟩
      have e2 : S l (p + 2) = if brk l (p + 1) then p + 1 + wid l (p + 1) else S l (p + 1) := rfl
      have hb1 : brk l (p + 1) = true := by rw [brk_iff]; exact .inl h.2
      rw [e2, hb1, if_pos rfl]
      unfold wid
      rw [if_neg (by omega)]
    · rw [L_fwd hv hb hp, hinc, S_fwd hv hb hp, hbk]
      exact ⟨rfl, rfl⟩
  rw [show min p place = p by omega] at h1
  refine ⟨hbn.1, hbn.2, ?_, ?_, ?_⟩
  · rw [show min (nx l p) place = nx l p by omega, hLS.1]; omega
  · rw [show min (nx l p) place = nx l p by omega, hLS.2]
  · intro h4
    rw [show place = nx l p by omega]
theorem ln_done {l : List UInt8} {place line begin p : Nat} (hpl : Bd l place) (h : LnInv l place line begin p) (hd : (p < l.length ∧ place ≤ p ∧ brk l p = true) ∨ l.length ≤ p) :
    line = 1 + L l place ∧ begin = S l place ∧ p = E l place := by
  obtain ⟨hb, hn, h1, h2, h3⟩ := h
  have hle := hb.1
  have hpl1 := hpl.1
  have h4 : place ≤ p := by omega
  rw [show min p place = place by omega] at h1 h2
  refine ⟨h1, h2, ?_⟩
  rw [h3 h4]
  rcases hd with ⟨h5, _, h6⟩ | h5
  · rw [E_step l p h5, h6]; rfl
  · rw [E_end l p h5]

/-! ### the reference's look at a whole text -/
def TxInv (l : List UInt8) (q : Nat) : Prop := q ≤ l.length ∧ (0 < q → bt l 0 / 64 ≠ 2) ∧ ∀ p, p < q → bt l p / 64 ≠ 2 → Good l p ∧ p + (dc l p).2 ≤ q ∧ (p + (dc l p).2 < q → bt l (p + (dc l p).2) / 64 ≠ 2)
theorem good_facts {l : List UInt8} {p : Nat} (hp : p < l.length) (hg : Good l p) : 1 ≤ (dc l p).2 ∧ p + (dc l p).2 ≤ l.length ∧ bt l p / 64 ≠ 2 ∧ ∀ j, p < j → j < p + (dc l p).2 → bt l j / 64 = 2 := by
  have f := dcN_facts (l.length - p) (bt l p) (bt l (p + 1)) (bt l (p + 2)) (bt l (p + 3)) (bt_lt _ _) (bt_lt _ _) (bt_lt _ _) (bt_lt _ _) (by omega) (by rw [← dc_N]; exact hg)
  rw [← dc_N] at f
  obtain ⟨f1, f2, f3, f4, f5, f6, f7, _⟩ := f
  refine ⟨f1, by omega, f4, ?_⟩
  intro j h1 h2
  rcases (show j = p + 1 ∨ j = p + 2 ∨ j = p + 3 by omega) with rfl | rfl | rfl
  · exact (f5 (by omega)).2
  · exact f6 (by omega)
  · exact f7 (by omega)
theorem tx_start (l : List UInt8) : TxInv l 0 := ⟨Nat.zero_le _, fun h => by omega, fun p h => by omega⟩
theorem tx_step {l : List UInt8} {q : Nat} (h : TxInv l q) (hq : q < l.length) (hg : Good l q) : TxInv l (q + (dc l q).2) := by
  obtain ⟨g1, g2, g3, g4⟩ := good_facts hq hg
  obtain ⟨_, h0, h1⟩ := h
  refine ⟨g2, fun _ => ?_, fun p hp hc => ?_⟩
  · rcases Nat.eq_zero_or_pos q with e | e
    · rw [← e]; exact g3
    · exact h0 e
  · rcases Nat.lt_trichotomy p q with h2 | h2 | h2
    · obtain ⟨a1, a2, a3⟩ := h1 p h2 hc
      refine ⟨a1, by omega, fun h3 => ?_⟩
      rcases Nat.lt_trichotomy (p + (dc l p).2) q with h4 | h4 | h4
      · exact a3 h4
      · rw [h4]; exact g3
      · omega
    · subst h2
      exact ⟨hg, Nat.le_refl _, fun h3 => by omega⟩
    · exact absurd (g4 p h2 hp) hc
theorem tx_done {l : List UInt8} {q : Nat} (h : TxInv l q) (hq : l.length ≤ q) : VT l := by
  obtain ⟨h2, h0, h1⟩ := h
  have e : q = l.length := by omega
  subst e
  refine ⟨⟨Nat.zero_le _, h0⟩, fun p hp hc => ?_⟩
  obtain ⟨a1, a2, a3⟩ := h1 p hp hc
  exact ⟨a1, a2, a3⟩
end Go.Proofs.YtfndlifolohlgaaDoor.Ln
