/-
  Small laws on bits of bytes, and what the reference's decoder (spec.point) comes to: the model's own decoder, with -1 for what is no whole character. Plain: nothing of a program stands here.
-/
import Derived.Test.YtfndlifolohlgaaDoorLast
import Derived.Lib.QuoteBits
import Derived.Laws.BitsAllLaws
import Derived.WalkKit
namespace Go.Proofs.YtfndlifolohlgaaDoor.Ln
open Go Go.Lib

theorem and_u8_63 (x : Nat) (h : x < 256) : bits .and .u8 (x : Int) 63 = (x : Int) % 64 := by
  have := u8_and_nat x 63 h (by decide)
  rw [show ((63 : Nat) : Int) = 63 from rfl] at this
  rw [this, show x &&& 63 = x % 64 from Nat.and_two_pow_sub_one_eq_mod x 6]
  omega
set_option maxRecDepth 100000 in
theorem and_u8_192 (x : Nat) (h : x < 256) : bits .and .u8 (x : Int) 192 = (x : Int) / 64 * 64 := by
  have := u8_and_nat x 192 h (by decide)
  rw [show ((192 : Nat) : Int) = 192 from rfl] at this
  have key : ∀ y : Fin 256, y.val &&& 192 = y.val / 64 * 64 := by decide
  rw [this, key ⟨x, h⟩]
  simp only
  omega
theorem cont_true (x : Nat) (h : x < 256) (hc : x / 64 = 2) : (bits .and .u8 (x : Int) 192 != 128) = false := by
  rw [and_u8_192 x h, show ((x : Int) / 64 * 64) = 128 by omega]
  rfl
theorem cont_false (x : Nat) (h : x < 256) (hc : x / 64 ≠ 2) : (bits .and .u8 (x : Int) 192 != 128) = true := by
  rw [and_u8_192 x h, bne_iff_ne]
  omega
theorem and_i64 (x m : Nat) (h : x < 256) (hm : m < 256) : bits .and .i64 (x : Int) (m : Int) = ((x &&& m : Nat) : Int) := by
  show IntKind.i64.wrap ((BitVec.ofInt 64 (x : Int) &&& BitVec.ofInt 64 ((m : Nat) : Int)).toNat : Int) = _
  rw [BitVec.toNat_and, ofInt_u64 x (by omega), ofInt_u64 m (by omega)]
  exact wrap_i64_small _ (by have := Nat.and_le_left (n := x) (m := m); omega)
theorem and_i64_31 (x : Nat) (h : x < 256) : bits .and .i64 (x : Int) 31 = ((x % 32 : Nat) : Int) := by
  have := and_i64 x 31 h (by decide)
  rw [show ((31 : Nat) : Int) = 31 from rfl] at this
  rw [this, show x &&& 31 = x % 32 from Nat.and_two_pow_sub_one_eq_mod x 5]
theorem and_i64_15 (x : Nat) (h : x < 256) : bits .and .i64 (x : Int) 15 = ((x % 16 : Nat) : Int) := by
  have := and_i64 x 15 h (by decide)
  rw [show ((15 : Nat) : Int) = 15 from rfl] at this
  rw [this, show x &&& 15 = x % 16 from Nat.and_two_pow_sub_one_eq_mod x 4]
theorem and_i64_7 (x : Nat) (h : x < 256) : bits .and .i64 (x : Int) 7 = ((x % 8 : Nat) : Int) := by
  have := and_i64 x 7 h (by decide)
  rw [show ((7 : Nat) : Int) = 7 from rfl] at this
  rw [this, show x &&& 7 = x % 8 from Nat.and_two_pow_sub_one_eq_mod x 3]
theorem or_i64 (a x : Nat) (ha : a ≤ 8388608) : bits .or .i64 ((a : Int) * 64) ((x : Int) % 64) = (a : Int) * 64 + (x : Int) % 64 := by
  have e1 : (a : Int) * 64 = ((a * 64 : Nat) : Int) := by omega
  have e2 : (x : Int) % 64 = ((x % 64 : Nat) : Int) := by omega
  rw [e1, e2]
  show IntKind.i64.wrap ((BitVec.ofInt 64 ((a * 64 : Nat) : Int) ||| BitVec.ofInt 64 ((x % 64 : Nat) : Int)).toNat : Int) = _
  rw [BitVec.toNat_or, ofInt_u64 (a * 64) (by omega), ofInt_u64 (x % 64) (by omega), nat_join 6 (a * 64) (x % 64) (by omega) (by omega), wrap_i64_small _ (by omega)]
  omega

/-- the byte that a walk shows -/
theorem at_bt (s : ByteArray) (i : Nat) (h : i < s.size) : s[i].toNat = bt s.data.toList i := by
  have h' : i < s.data.toList.length := by simpa using h
  unfold bt
  rw [List.getD, List.getElem?_eq_getElem h']
  rfl
theorem at_lt (s : ByteArray) (i : Nat) (h : i < s.size) : s[i].toNat < 256 := s[i].toNat_lt

/-- what the reference's decoder has gathered at the head of its round k -/
def A (l : List UInt8) (p m : Nat) : Nat → Nat
  | 0 => 0
  | k + 1 => if k = 0 then bt l p % m else A l p m k * 64 + bt l (p + k) % 64
theorem A_one (l : List UInt8) (p m : Nat) : A l p m 1 = bt l p % m := rfl
theorem A_succ (l : List UInt8) (p m k : Nat) (hk : 1 ≤ k) : A l p m (k + 1) = A l p m k * 64 + bt l (p + k) % 64 := by
  rw [A, if_neg (by omega)]
theorem A_le (l : List UInt8) (p m k : Nat) (hm : m ≤ 32) (hm0 : 1 ≤ m) (hk1 : 1 ≤ k) (hk : k ≤ 4) : A l p m k ≤ 8388608 := by
  have h0 : bt l p % m < 32 := Nat.lt_of_lt_of_le (Nat.mod_lt _ hm0) hm
  have a1 := A_one l p m
  have a2 : A l p m 2 = A l p m 1 * 64 + bt l (p + 1) % 64 := A_succ l p m 1 (by omega)
  have a3 : A l p m 3 = A l p m 2 * 64 + bt l (p + 2) % 64 := A_succ l p m 2 (by omega)
  have a4 : A l p m 4 = A l p m 3 * 64 + bt l (p + 3) % 64 := A_succ l p m 3 (by omega)
  rcases (show k = 1 ∨ k = 2 ∨ k = 3 ∨ k = 4 by omega) with rfl | rfl | rfl | rfl <;> omega

/-- the reference's answer: the code, or -1 -/
def ptC (l : List UInt8) (p : Nat) : Int := if bt l p < 128 ∨ 2 ≤ (dc l p).2 then ((dc l p).1 : Int) else -1

theorem pt_ascii (l : List UInt8) (p : Nat) (h : bt l p < 128) : ptC l p = bt l p ∧ (dc l p).2 = 1 := by
  have e : dc l p = (bt l p, 1) := by rw [dc_N, decodeN_ascii _ _ _ _ _ h]
  unfold ptC
  rw [if_pos (.inl h), e]
  exact ⟨rfl, rfl⟩
theorem pt_bad (l : List UInt8) (p : Nat) (h : 128 ≤ bt l p) (e : dc l p = (65533, 1)) : ptC l p = -1 ∧ (dc l p).2 = 1 := by
  unfold ptC
  rw [e, if_neg (by simp; omega)]
  exact ⟨rfl, rfl⟩
theorem pt_ok (l : List UInt8) (p c n : Nat) (hn : 2 ≤ n) (e : dc l p = (c, n)) : ptC l p = c ∧ (dc l p).2 = n := by
  unfold ptC
  rw [e, if_pos (.inr hn)]
  exact ⟨rfl, rfl⟩

set_option maxRecDepth 100000 in
theorem dec_lead (n b0 b1 b2 b3 : Nat) (h1 : 128 ≤ b0) (h2 : b0 < 194 ∨ 245 ≤ b0) (hb : b0 < 256) : decodeN n b0 b1 b2 b3 = (65533, 1) := by
  unfold decodeN
  repeat' split
  all_goals first | rfl | (exfalso; omega)
set_option maxRecDepth 100000 in
theorem dec_short (n b0 b1 b2 b3 k m : Nat) (_hk : 1 ≤ k) (hkm : k < m) (hm : (194 ≤ b0 ∧ b0 < 224 ∧ m = 2) ∨ (224 ≤ b0 ∧ b0 < 240 ∧ m = 3) ∨ (240 ≤ b0 ∧ b0 < 245 ∧ m = 4))
    (hf : n ≤ k ∨ (k = 1 ∧ b1 / 64 ≠ 2) ∨ (k = 2 ∧ b2 / 64 ≠ 2) ∨ (k = 3 ∧ b3 / 64 ≠ 2)) : decodeN n b0 b1 b2 b3 = (65533, 1) := by
  unfold decodeN
  repeat' split
  all_goals first | rfl | (exfalso; omega)
set_option maxRecDepth 100000 in
theorem dec_two (n b0 b1 b2 b3 : Nat) (h : 194 ≤ b0 ∧ b0 < 224) (hn : 1 < n) (h1 : b1 / 64 = 2) : decodeN n b0 b1 b2 b3 = (b0 % 32 * 64 + b1 % 64, 2) := by
  unfold decodeN
  rw [if_neg (by omega), if_pos ⟨by omega, hn, h1⟩, if_pos (by omega)]
set_option maxRecDepth 100000 in
theorem dec_three (n b0 b1 b2 b3 : Nat) (h : 224 ≤ b0 ∧ b0 < 240) (hn : 2 < n) (h1 : b1 / 64 = 2) (h2 : b2 / 64 = 2) :
    decodeN n b0 b1 b2 b3 = if (b0 % 16 * 64 + b1 % 64) * 64 + b2 % 64 < 2048 ∨ (55296 ≤ (b0 % 16 * 64 + b1 % 64) * 64 + b2 % 64 ∧ (b0 % 16 * 64 + b1 % 64) * 64 + b2 % 64 < 57344) then (65533, 1) else ((b0 % 16 * 64 + b1 % 64) * 64 + b2 % 64, 3) := by
  have e : (b0 % 16 * 64 + b1 % 64) * 64 + b2 % 64 = b0 % 16 * 4096 + b1 % 64 * 64 + b2 % 64 := by omega
  rw [e]
  unfold decodeN
  rw [if_neg (by omega), if_neg (by omega), if_pos ⟨by omega, ⟨by omega, h1⟩, ⟨by omega, h2⟩⟩]
  generalize b0 % 16 * 4096 + b1 % 64 * 64 + b2 % 64 = c at *
  have hc : c ≤ 65535 ∨ 65535 < c := by omega
  by_cases hx : c < 2048 ∨ (55296 ≤ c ∧ c < 57344)
  · rw [if_pos hx, if_neg (by omega)]
  · rw [if_neg hx]
    by_cases hy : c ≤ 1114111
    · rw [if_pos (by omega)]
    · exfalso; omega
set_option maxRecDepth 100000 in
theorem dec_four (n b0 b1 b2 b3 : Nat) (h : 240 ≤ b0 ∧ b0 < 245) (hn : 3 < n) (h1 : b1 / 64 = 2) (h2 : b2 / 64 = 2) (h3 : b3 / 64 = 2) :
    decodeN n b0 b1 b2 b3 = if ((b0 % 8 * 64 + b1 % 64) * 64 + b2 % 64) * 64 + b3 % 64 < 65536 ∨ 1114111 < ((b0 % 8 * 64 + b1 % 64) * 64 + b2 % 64) * 64 + b3 % 64 then (65533, 1) else (((b0 % 8 * 64 + b1 % 64) * 64 + b2 % 64) * 64 + b3 % 64, 4) := by
  have e : ((b0 % 8 * 64 + b1 % 64) * 64 + b2 % 64) * 64 + b3 % 64 = b0 % 8 * 262144 + b1 % 64 * 4096 + b2 % 64 * 64 + b3 % 64 := by omega
  rw [e]
  unfold decodeN
  rw [if_neg (by omega), if_neg (by omega), if_neg (by omega), if_pos ⟨by omega, ⟨by omega, h1⟩, ⟨by omega, h2⟩, ⟨by omega, h3⟩⟩]
  generalize b0 % 8 * 262144 + b1 % 64 * 4096 + b2 % 64 * 64 + b3 % 64 = c at *
  by_cases hx : c < 65536 ∨ 1114111 < c
  · rw [if_pos hx, if_neg (by omega)]
  · rw [if_neg hx, if_pos (by omega)]
end Go.Proofs.YtfndlifolohlgaaDoor.Ln
