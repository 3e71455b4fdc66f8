/-
  Plain laws on tables: a list of pairs by rising keys, how a pair goes into it, what it holds at a key; what a map that was filled by the same pairs holds; the bytes that a table is written as. No program stands here.
-/
import Derived.Sort.KeysCollected
import Derived.Maps.OwnSet
import Derived.Lib.Endian
namespace Go.Proofs.YtfndlifolohlgaaDoor
open Go Go.Maps
namespace Kv
abbrev Bs := List UInt8
abbrev KV := Bs × Bs

def ins (k v : Bs) : List KV → List KV
  | [] => [(k, v)]
  | p :: r => if p.1 < k then p :: ins k v r else if p.1 = k then (k, v) :: r else (k, v) :: p :: r
def lk (k : Bs) : List KV → Option Bs
  | [] => none
  | p :: r => if p.1 = k then some p.2 else lk k r
def Srt (T : List KV) : Prop := T.Pairwise fun p q => p.1 < q.1
def tblFrom (T : List KV) (qs : List KV) : List KV := qs.foldl (fun T p => ins p.1 p.2 T) T
def tbl (qs : List KV) : List KV := tblFrom [] qs

theorem lt_irr (a : Bs) : ¬ a < a := List.lt_irrefl a
theorem lt_tr {a b c : Bs} (h : a < b) (k : b < c) : a < c := List.lt_trans h k
theorem tri {a b : Bs} (h : ¬ a < b) (k : a ≠ b) : b < a := by
  rcases Decidable.em (b < a) with h' | h'
  · exact h'
  · exact absurd (List.le_antisymm (show a ≤ b from h') (show b ≤ a from h)) k

theorem lk_ins (k v k' : Bs) : ∀ T, lk k' (ins k v T) = if k' = k then some v else lk k' T
  | [] => by
    by_cases h : k' = k
    · subst h; simp [ins, lk]
    · simp [ins, lk, h, Ne.symm h]
  | p :: r => by
    have ih := lk_ins k v k' r
    rw [ins]
    by_cases h1 : p.1 < k
    · rw [if_pos h1, lk, lk, ih]
      by_cases h2 : p.1 = k'
      · rw [if_pos h2, if_pos h2]
        rw [if_neg]
        intro e; rw [← e, ← h2] at h1; exact lt_irr _ h1
      · rw [if_neg h2, if_neg h2]
    · rw [if_neg h1]
      by_cases h2 : p.1 = k
      · rw [if_pos h2, lk, lk]
        by_cases h3 : k' = k
        · simp [h3]
        · have h4 : ¬ k = k' := fun e => h3 e.symm
          have h5 : ¬ p.1 = k' := by rw [h2]; exact h4
          simp [h3, h4, h5]
      · rw [if_neg h2, lk]
        by_cases h3 : k' = k
        · simp [h3]
        · have h4 : ¬ k = k' := fun e => h3 e.symm
          simp [h3, h4]
theorem mem_ins {k v : Bs} {q : KV} : ∀ {T : List KV}, q ∈ ins k v T → q = (k, v) ∨ q ∈ T
  | [], h => by simp [ins] at h; exact .inl h
  | p :: r, h => by
    rw [ins] at h
    by_cases h1 : p.1 < k
    · rw [if_pos h1] at h
      rcases List.mem_cons.1 h with h | h
      · exact .inr (by simp [h])
      · rcases mem_ins h with h | h
        · exact .inl h
        · exact .inr (by simp [h])
    · rw [if_neg h1] at h
      by_cases h2 : p.1 = k
      · rw [if_pos h2] at h
        rcases List.mem_cons.1 h with h | h
        · exact .inl h
        · exact .inr (by simp [h])
      · rw [if_neg h2] at h
        rcases List.mem_cons.1 h with h | h
        · exact .inl h
        · exact .inr h
theorem srt_ins (k v : Bs) : ∀ {T : List KV}, Srt T → Srt (ins k v T)
  | [], _ => by simp [ins, Srt]
  | p :: r, h => by
    have h' := List.pairwise_cons.1 h
    rw [ins]
    by_cases h1 : p.1 < k
    · rw [if_pos h1]
      refine List.pairwise_cons.2 ⟨fun q hq => ?_, srt_ins k v h'.2⟩
      rcases mem_ins hq with e | e
      · rw [e]; exact h1
      · exact h'.1 q e
    · rw [if_neg h1]
      by_cases h2 : p.1 = k
      · rw [if_pos h2]
        refine List.pairwise_cons.2 ⟨fun q hq => ?_, h'.2⟩
        have := h'.1 q hq
        rw [h2] at this
        exact this
      · rw [if_neg h2]
        have hk := tri h1 h2
        refine List.pairwise_cons.2 ⟨fun q hq => ?_, h⟩
        rcases List.mem_cons.1 hq with e | e
        · rw [e]; exact hk
        · exact lt_tr hk (h'.1 q e)
theorem len_ins (k v : Bs) : ∀ T : List KV, (ins k v T).length ≤ T.length + 1
  | [] => by simp [ins]
  | p :: r => by
    have := len_ins k v r
    rw [ins]
    split
    · simp; omega
    · split <;> simp
theorem srt_from : ∀ (qs : List KV) {T : List KV}, Srt T → Srt (tblFrom T qs)
  | [], _, h => h
  | p :: r, _, h => srt_from r (srt_ins p.1 p.2 h)
theorem srt_tbl (qs : List KV) : Srt (tbl qs) := srt_from qs List.Pairwise.nil
theorem tbl_succ (qs : List KV) (k : Nat) (hk : k < qs.length) : tbl (qs.take (k + 1)) = ins (qs.getD k ([], [])).1 (qs.getD k ([], [])).2 (tbl (qs.take k)) := by
  unfold tbl tblFrom
  rw [List.take_succ_eq_append_getElem hk, List.foldl_append]
  simp [List.getD, hk]
theorem len_tbl : ∀ (qs : List KV) (T : List KV), (tblFrom T qs).length ≤ T.length + qs.length
  | [], T => Nat.le_refl _
  | p :: r, T => by
    have h1 := len_tbl r (ins p.1 p.2 T)
    have h2 := len_ins p.1 p.2 T
    show (tblFrom (ins p.1 p.2 T) r).length ≤ _
    simp only [List.length_cons]
    omega

theorem lk_none {k : Bs} : ∀ {T : List KV}, (∀ q ∈ T, q.1 ≠ k) → lk k T = none
  | [], _ => rfl
  | p :: r, h => by
    rw [lk, if_neg (h p (by simp))]
    exact lk_none fun q hq => h q (by simp [hq])
theorem lk_mem {k v : Bs} : ∀ {T : List KV}, lk k T = some v → (k, v) ∈ T
  | p :: r, h => by
    rw [lk] at h
    by_cases h1 : p.1 = k
    · rw [if_pos h1] at h
      injection h with h
      subst h1 h
      simp
    · rw [if_neg h1] at h
      exact List.mem_cons_of_mem _ (lk_mem h)
def Apart (T : List KV) : Prop := T.Pairwise fun p q => p.1 ≠ q.1
theorem srt_apart {T : List KV} (h : Srt T) : Apart T := h.imp fun hlt e => by rw [e] at hlt; exact lt_irr _ hlt
theorem mem_lk {k v : Bs} : ∀ {T : List KV}, Apart T → (k, v) ∈ T → lk k T = some v
  | p :: r, ha, h => by
    have ha' := List.pairwise_cons.1 ha
    rw [lk]
    rcases List.mem_cons.1 h with h | h
    · rw [← h]; simp
    · rw [if_neg (ha'.1 _ h)]
      exact mem_lk ha'.2 h
theorem lk_some {k : Bs} {T : List KV} : (lk k T).isSome = true ↔ k ∈ T.map Prod.fst := by
  constructor
  · intro h
    obtain ⟨v, hv⟩ := Option.isSome_iff_exists.1 h
    exact List.mem_map.2 ⟨_, lk_mem hv, rfl⟩
  · intro h
    cases he : lk k T with
    | some v => rfl
    | none =>
      exfalso
      obtain ⟨q, hq, e⟩ := List.mem_map.1 h
      clear h
      induction T with
      | nil => cases hq
      | cons p r ih =>
        rw [lk] at he
        by_cases h1 : p.1 = k
        · rw [if_pos h1] at he; cases he
        · rw [if_neg h1] at he
          rcases List.mem_cons.1 hq with h2 | h2
          · rw [h2] at e; exact h1 e
          · exact ih he h2
/-- two tables by rising keys that hold the same are one -/
theorem srt_ext : ∀ {T U : List KV}, Srt T → Srt U → (∀ k, lk k T = lk k U) → T = U
  | [], [], _, _, _ => rfl
  | [], q :: U, _, _, h => by have := h q.1; simp [lk] at this
  | p :: T, [], _, _, h => by have := h p.1; simp [lk] at this
  | p :: T, q :: U, hT, hU, h => by
    have hT' := List.pairwise_cons.1 hT
    have hU' := List.pairwise_cons.1 hU
    have e1 : p.1 = q.1 := by
      rcases Decidable.em (p.1 = q.1) with e | e
      · exact e
      · exfalso
        rcases Decidable.em (p.1 < q.1) with hl | hl
        · have h1 := h p.1
          rw [lk, if_pos rfl, lk, if_neg (fun x => e x.symm), lk_none] at h1
          · cases h1
          · intro x hx e'
            have := hU'.1 x hx
            rw [e'] at this
            exact lt_irr _ (lt_tr this hl)
        · have hl' := tri hl e
          have h1 := h q.1
          rw [lk, if_neg e, lk, if_pos rfl, lk_none] at h1
          · cases h1
          · intro x hx e'
            have := hT'.1 x hx
            rw [e'] at this
            exact lt_irr _ (lt_tr this hl')
    have e2 : p.2 = q.2 := by
      have h1 := h p.1
      rw [lk, if_pos rfl, lk, if_pos e1.symm] at h1
      injection h1
    have e3 : T = U := srt_ext hT'.2 hU'.2 fun k => by
      have h1 := h k
      rw [lk, lk] at h1
      by_cases hk : p.1 = k
      · rw [lk_none, lk_none]
        · intro x hx e'
          have := hU'.1 x hx
          rw [e', ← e1, hk] at this
          exact lt_irr _ this
        · intro x hx e'
          have := hT'.1 x hx
          rw [e', hk] at this
          exact lt_irr _ this
      · rw [if_neg hk, if_neg (fun e => hk (e1.trans e))] at h1
        exact h1
    rw [e3, Prod.ext e1 e2]
theorem lk_from (k : Bs) : ∀ (qs : List KV) (T : List KV), Apart qs → lk k (tblFrom T qs) = (lk k qs).or (lk k T)
  | [], T, _ => by simp [tblFrom, lk]
  | p :: r, T, h => by
    have h' := List.pairwise_cons.1 h
    show lk k (tblFrom (ins p.1 p.2 T) r) = _
    rw [lk_from k r _ h'.2, lk_ins, lk]
    by_cases hk : p.1 = k
    · rw [lk_none (T := r), if_pos hk.symm, if_pos hk]
      · rfl
      · intro q hq e
        exact h'.1 q hq (hk.trans e.symm)
    · rw [if_neg (fun e => hk e.symm), if_neg hk]
/-- a table that is filled from a table's own pairs, in whatever order, is that table -/
theorem tbl_perm {T qs : List KV} (hT : Srt T) (hp : qs.Perm T) : tbl qs = T := by
  have ha : Apart qs := (hp.pairwise_iff (fun h e => h e.symm)).2 (srt_apart hT)
  refine srt_ext (srt_tbl qs) hT fun k => ?_
  unfold tbl
  rw [lk_from k qs [] ha]
  show (lk k qs).or none = _
  rw [Option.or_none]
  cases hq : lk k qs with
  | some v => rw [mem_lk (srt_apart hT) (hp.mem_iff.1 (lk_mem hq))]
  | none =>
    cases ht : lk k T with
    | none => rfl
    | some v => rw [mem_lk ha (hp.mem_iff.2 (lk_mem ht))] at hq; cases hq

/-! ### the map -/
/-- the map's datum holds what the table holds -/
def Agr (D : DataW Unit) (T : List KV) : Prop :=
  ∀ k, has D (.string k) = (lk k T).isSome ∧ ∀ z, D.atKey (.string k) z = match lk k T with | some v => .lit (.string v) | none => z
theorem agr_nil : Agr (.map []) [] := fun k => ⟨rfl, fun z => by
  show (DataW.map []).atKey (.string k) z = z
  exact atKey_of_not_has (D := .map []) rfl z⟩
theorem agr_put {D : DataW Unit} {T : List KV} (hD : IsMap D) (h : Agr D T) (k v : Bs) : Agr (D.put (.string k) (.lit (.string v))) (ins k v T) := by
  intro k'
  rw [lk_ins]
  by_cases hk : k' = k
  · subst hk
    rw [if_pos rfl]
    exact ⟨has_put_same hD (show WideAt.IsKeyLit (.string k') from trivial) _, fun z => atKey_put_same hD (show WideAt.IsKeyLit (.string k') from trivial) _ z⟩
  · rw [if_neg hk]
    have hne : Lit.string k' ≠ Lit.string k := fun e => hk (by injection e)
    rw [has_put_other hne]
    exact ⟨(h k').1, fun z => by rw [atKey_put_other hne]; exact (h k').2 z⟩
theorem keys_perm' {D : DataW Unit} {T : List KV} (h : Agr D T) (hT : Srt T) {ss : List Bs} (hnd : ss.Nodup) (hm : ∀ x, x ∈ ss ↔ has D (.string x) = true) : ss.Perm (T.map Prod.fst) := by
  refine (List.perm_ext_iff_of_nodup hnd ?_).2 fun x => ?_
  · exact List.pairwise_map.2 (srt_apart hT)
  · rw [hm x, (h x).1, lk_some]
theorem sort_keys {T : List KV} (hT : Srt T) {ss : List Bs} (hp : ss.Perm (T.map Prod.fst)) : ss.mergeSort (fun x y => decide (x ≤ y)) = T.map Prod.fst := by
  have h1 := mergeSort_of_perm hp
  refine Eq.trans h1 ?_
  refine List.mergeSort_of_pairwise ?_
  refine List.pairwise_map.2 (hT.imp fun hlt => ?_)
  simp only [leB, decide_eq_true_eq]
  intro h2
  exact lt_irr _ (lt_tr hlt h2)

/-! ### the bytes -/
def one (s : Bs) : Bs := Lib.leBytes 4 s.length ++ s
def enc (T : List KV) : Bs := T.flatMap fun p => one p.1 ++ one p.2
theorem one_len (s : Bs) : (one s).length = 4 + s.length := by simp [one, Lib.leBytes_length]
theorem enc_cons (p : KV) (T : List KV) : enc (p :: T) = one p.1 ++ (one p.2 ++ enc T) := by simp [enc, List.append_assoc]
theorem enc_pos {p : KV} {T : List KV} : 0 < (enc (p :: T)).length := by rw [enc_cons, List.length_append, one_len]; omega
/-- the first number and the first string of a text -/
theorem one_inj {s t a b : Bs} (hs : s.length < 4294967296) (ht : t.length < 4294967296) (h : one s ++ a = one t ++ b) : s = t ∧ a = b := by
  unfold one at h
  rw [List.append_assoc, List.append_assoc] at h
  have h1 := List.append_inj h (by rw [Lib.leBytes_length, Lib.leBytes_length])
  have e : s.length = t.length := by
    have := congrArg Lib.leNat h1.1
    rwa [Lib.leNat_leBytes 4 _ (by simpa using hs), Lib.leNat_leBytes 4 _ (by simpa using ht)] at this
  exact List.append_inj h1.2 e
def Small (T : List KV) : Prop := ∀ p ∈ T, p.1.length < 4294967296 ∧ p.2.length < 4294967296
theorem enc_inj : ∀ {T U : List KV}, Small T → Small U → enc T = enc U → T = U
  | [], [], _, _, _ => rfl
  | [], q :: U, _, _, h => by have := enc_pos (p := q) (T := U); rw [← h] at this; simp [enc] at this
  | p :: T, [], _, _, h => by have := enc_pos (p := p) (T := T); rw [h] at this; simp [enc] at this
  | p :: T, q :: U, hT, hU, h => by
    rw [enc_cons, enc_cons] at h
    have h1 := one_inj (hT p (by simp)).1 (hU q (by simp)).1 h
    have h2 := one_inj (hT p (by simp)).2 (hU q (by simp)).2 h1.2
    have h3 := enc_inj (fun x hx => hT x (by simp [hx])) (fun x hx => hU x (by simp [hx])) h2.2
    rw [h3, Prod.ext h1.1 h2.1]
/-- how much a list of pairs holds -/
def sz (T : List KV) : Nat := (T.map fun p => p.1.length + p.2.length).sum
theorem sz_cons (p : KV) (T : List KV) : sz (p :: T) = p.1.length + p.2.length + sz T := by simp [sz]
theorem sz_ins (k v : Bs) : ∀ T, sz (ins k v T) ≤ k.length + v.length + sz T
  | [] => by simp [ins, sz]
  | p :: r => by
    have := sz_ins k v r
    rw [ins]
    split
    · rw [sz_cons, sz_cons]; omega
    · split
      · rw [sz_cons, sz_cons]; simp only; omega
      · rw [sz_cons]
        simp only
        omega
theorem sz_from : ∀ (qs T : List KV), sz (tblFrom T qs) ≤ sz T + sz qs
  | [], T => by simp [tblFrom, sz]
  | p :: r, T => by
    have h1 := sz_from r (ins p.1 p.2 T)
    have h2 := sz_ins p.1 p.2 T
    rw [sz_cons]
    show sz (tblFrom (ins p.1 p.2 T) r) ≤ _
    omega
theorem sz_mem {p : KV} : ∀ {T : List KV}, p ∈ T → p.1.length + p.2.length ≤ sz T
  | q :: r, h => by
    rw [sz_cons]
    rcases List.mem_cons.1 h with h | h
    · rw [h]; omega
    · have := sz_mem h; omega
theorem enc_len : ∀ T : List KV, (enc T).length = 8 * T.length + sz T
  | [] => rfl
  | p :: r => by
    have := enc_len r
    rw [enc_cons, sz_cons, List.length_append, List.length_append, one_len, one_len, List.length_cons]
    omega
end Kv
end Go.Proofs.YtfndlifolohlgaaDoor
