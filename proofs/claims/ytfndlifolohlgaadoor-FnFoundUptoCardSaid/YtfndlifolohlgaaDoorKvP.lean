/-
  Plain laws on a table's bytes read back: where a pair's two lengths and its two texts stand. No program stands here.
-/
import Derived.Test.YtfndlifolohlgaaDoorKv
namespace Go.Proofs.YtfndlifolohlgaaDoor
open Go Go.Maps
namespace Kv

theorem take_get_drop (T : List KV) (k : Nat) (hk : k < T.length) : T = T.take k ++ T.getD k ([], []) :: T.drop (k + 1) := by
  have h1 : T.getD k ([], []) = T[k] := by simp [List.getD, hk]
  rw [h1, List.getElem_cons_drop, List.take_append_drop]
theorem enc_append (A B : List KV) : enc (A ++ B) = enc A ++ enc B := by simp [enc]
theorem enc_split (T : List KV) (k : Nat) (hk : k < T.length) :
    enc T = enc (T.take k) ++ (one (T.getD k ([], [])).1 ++ (one (T.getD k ([], [])).2 ++ enc (T.drop (k + 1)))) := by
  have h := congrArg enc (take_get_drop T k hk)
  rw [enc_append, enc_cons] at h
  exact h
theorem enc_both (T : List KV) (k : Nat) : (enc (T.take k)).length + (enc (T.drop k)).length = (enc T).length := by
  rw [← List.length_append, ← enc_append, List.take_append_drop]
/-- a text's length and letters, where it stands -/
theorem one_at {l A B s : Bs} (h : l = A ++ (one s ++ B)) (hs : s.length < 4294967296) :
    Lib.leNat [l.getD A.length 0, l.getD (A.length + 1) 0, l.getD (A.length + 2) 0, l.getD (A.length + 3) 0] = s.length ∧ ∀ j (hj : j < s.length), l.getD (A.length + 4 + j) 0 = s[j] := by
  subst h
  have g : ∀ i, i < 4 → (A ++ (one s ++ B)).getD (A.length + i) 0 = (Lib.leBytes 4 s.length).getD i 0 := fun i hi => by
    unfold List.getD
    rw [List.getElem?_append_right (by omega), Nat.add_sub_cancel_left, List.getElem?_append_left (by rw [one_len]; omega), one, List.getElem?_append_left (by rw [Lib.leBytes_length]; omega)]
  refine ⟨?_, fun j hj => ?_⟩
  · have g0 := g 0 (by omega)
    rw [Nat.add_zero] at g0
    rw [g0, g 1 (by omega), g 2 (by omega), g 3 (by omega)]
    have hl := Lib.leBytes_length 4 s.length
    have he : [(Lib.leBytes 4 s.length).getD 0 0, (Lib.leBytes 4 s.length).getD 1 0, (Lib.leBytes 4 s.length).getD 2 0, (Lib.leBytes 4 s.length).getD 3 0] = Lib.leBytes 4 s.length := by
      generalize Lib.leBytes 4 s.length = x at hl
      match x, hl with
      | [a, b, c, d], _ => rfl
    rw [he, Lib.leNat_leBytes 4 _ (by simpa using hs)]
  · unfold List.getD
    rw [Nat.add_assoc, List.getElem?_append_right (by omega), Nat.add_sub_cancel_left, List.getElem?_append_left (by rw [one_len]; omega), one, List.getElem?_append_right (by rw [Lib.leBytes_length]; omega), Lib.leBytes_length, Nat.add_sub_cancel_left,
      List.getElem?_eq_getElem hj]
    rfl
theorem enc_drop (T : List KV) (k : Nat) (hk : k < T.length) : (enc (T.drop k)).length = 8 + (T.getD k ([], [])).1.length + (T.getD k ([], [])).2.length + (enc (T.drop (k + 1))).length := by
  have h1 := enc_split T k hk
  have h2 := enc_both T k
  have h3 := congrArg List.length h1
  simp only [List.length_append, one_len] at h3
  omega
theorem enc_take (T : List KV) (k : Nat) (hk : k < T.length) : (enc (T.take (k + 1))).length = (enc (T.take k)).length + 8 + (T.getD k ([], [])).1.length + (T.getD k ([], [])).2.length := by
  have h1 := enc_drop T k hk
  have h2 := enc_both T k
  have h3 := enc_both T (k + 1)
  omega
end Kv
end Go.Proofs.YtfndlifolohlgaaDoor
