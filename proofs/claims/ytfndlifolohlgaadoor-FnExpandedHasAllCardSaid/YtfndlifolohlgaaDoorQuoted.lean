/-
  The walks of spec.Quoted, Source.RangeOfString, impl.piece, impl.Quoted and laws.FnQuoted: the law returns true for every text and every place; what lay below stays.
  Conditions: the text is no longer than 2^47 bytes; the two tables of unicode/utf8 hold what the program's text lays.
-/
import Derived.Test.YtfndlifolohlgaaDoorOrder
namespace Go.Proofs.YtfndlifolohlgaaDoor
open Go Go.RowKit Ln
set_option maxRecDepth 100000

/-- the search for a closing quote -/
def fnd (l : List UInt8) (q : Nat) : Nat → Nat → Option Nat
  | 0, _ => none
  | f + 1, i => if i < l.length then (if bt l i = q then some i else if bt l i = 92 then fnd l q f (i + 2) else fnd l q f (i + 1)) else none
/-- from i on it is found at j -/
def Fd (l : List UInt8) (q i j : Nat) : Prop := ∃ f, fnd l q f i = some j
theorem fd_here {l : List UInt8} {q i : Nat} (h : i < l.length) (e : bt l i = q) : Fd l q i i := ⟨1, by simp [fnd, h, e]⟩
theorem fd_esc {l : List UInt8} {q i j : Nat} (h : i < l.length) (e : bt l i ≠ q) (e2 : bt l i = 92) (hd : Fd l q (i + 2) j) : Fd l q i j := by
  obtain ⟨f, hf⟩ := hd
  refine ⟨f + 1, ?_⟩
  rw [fnd, if_pos h, if_neg e, if_pos e2, hf]
theorem fd_next {l : List UInt8} {q i j : Nat} (h : i < l.length) (e : bt l i ≠ q) (e2 : bt l i ≠ 92) (hd : Fd l q (i + 1) j) : Fd l q i j := by
  obtain ⟨f, hf⟩ := hd
  refine ⟨f + 1, ?_⟩
  rw [fnd, if_pos h, if_neg e, if_neg e2, hf]
theorem fd_inv {l : List UInt8} {q i j : Nat} (hd : Fd l q i j) : i < l.length ∧ i ≤ j ∧ ((bt l i = q ∧ j = i) ∨ (bt l i ≠ q ∧ bt l i = 92 ∧ Fd l q (i + 2) j) ∨ (bt l i ≠ q ∧ bt l i ≠ 92 ∧ Fd l q (i + 1) j)) := by
  obtain ⟨f, hf⟩ := hd
  have hle : ∀ f i, fnd l q f i = some j → i ≤ j := by
    intro f
    induction f with
    | zero => intro i h; cases h
    | succ f ih =>
      intro i h
      rw [fnd] at h
      by_cases h1 : i < l.length
      · rw [if_pos h1] at h
        by_cases h2 : bt l i = q
        · rw [if_pos h2] at h; injection h with h; omega
        · rw [if_neg h2] at h
          by_cases h3 : bt l i = 92
          · rw [if_pos h3] at h; have := ih _ h; omega
          · rw [if_neg h3] at h; have := ih _ h; omega
      · rw [if_neg h1] at h; cases h
  have hij := hle f i hf
  cases f with
  | zero => cases hf
  | succ f =>
    rw [fnd] at hf
    by_cases h1 : i < l.length
    · rw [if_pos h1] at hf
      refine ⟨h1, hij, ?_⟩
      by_cases h2 : bt l i = q
      · rw [if_pos h2] at hf; injection hf with hf; exact .inl ⟨h2, hf.symm⟩
      · rw [if_neg h2] at hf
        by_cases h3 : bt l i = 92
        · rw [if_pos h3] at hf; exact .inr (.inl ⟨h2, h3, f, hf⟩)
        · rw [if_neg h3] at hf; exact .inr (.inr ⟨h2, h3, f, hf⟩)
    · rw [if_neg h1] at hf; cases hf
theorem fd_drop {l : List UInt8} {q a : Nat} : ∀ (f i j : Nat), fnd l q f (a + i) = some j → ∃ k, j = a + k ∧ Fd (l.drop a) q i k := by
  intro f
  induction f with
  | zero => intro i j h; cases h
  | succ f ih =>
    intro i j h
    have eb : bt (l.drop a) i = bt l (a + i) := by
      unfold bt; rw [Lib.getD_dropU]
    rw [fnd] at h
    by_cases h1 : a + i < l.length
    · have h1' : i < (l.drop a).length := by rw [List.length_drop]; omega
      rw [if_pos h1] at h
      by_cases h2 : bt l (a + i) = q
      · rw [if_pos h2] at h; injection h with h
        exact ⟨i, h.symm, fd_here h1' (by rw [eb]; exact h2)⟩
      · rw [if_neg h2] at h
        by_cases h3 : bt l (a + i) = 92
        · rw [if_pos h3] at h
          obtain ⟨k, hk, hd⟩ := ih (i + 2) j h
          exact ⟨k, hk, fd_esc h1' (by rw [eb]; exact h2) (by rw [eb]; exact h3) hd⟩
        · rw [if_neg h3] at h
          obtain ⟨k, hk, hd⟩ := ih (i + 1) j h
          exact ⟨k, hk, fd_next h1' (by rw [eb]; exact h2) (by rw [eb]; exact h3) hd⟩
    · rw [if_neg h1] at h; cases h

/-- what the reference comes to -/
def QSays (s : ByteArray) (a : Nat) (w : World) (e : Ending) (w' : World) : Prop :=
  ∃ (n : Int) (ok : Bool), Hid (ok = true → (bt s.data.toList a = 34 ∨ bt s.data.toList a = 39) ∧ ∃ j : Nat, Fd s.data.toList (bt s.data.toList a) (a + 1) j ∧ n = (j : Int) + 1 - a) ∧ e = .returned (.tuple #[.int .i64 n, .bool ok]) ∧ w = w'
theorem byte_eq (x q : Nat) : ((x : Int) == (q : Int)) = decide (x = q) := by
  by_cases h : x = q
  · subst h; simp
  · simp [h]; omega

set_option maxHeartbeats 1600000 in
theorem specQuoted_any (s : ByteArray) (a : Nat) (w : World) (hz : s.size ≤ 1048576) (ha : a < s.size) : Calls Tryd.prog 20 #[.string s, .int .i64 a] w (QSays s a w) := by
  have hq := at_bt s a ha
  have h256 := at_lt s a ha
  by_cases hqq : s[a].toNat = 34 ∨ s[a].toNat = 39
  · have HQ := Lib.hid hq
    have HQQ := Lib.hid hqq
    rcases hqq with h34 | h39
    · have t34 : ((s[a].toNat : Int) != 34) = false := by rw [h34]; rfl
      clear h34
      clear hq
      go_enter Tryd.func20, Tryd.ntmps20
      go_wp2
      go_loop [7] (fun i => ∃ k : Nat, i = .int .i64 k ∧ a < k ∧ k ≤ s.size + 1 ∧ Hid (∀ j, Fd s.data.toList (bt s.data.toList a) k j → Fd s.data.toList (bt s.data.toList a) (a + 1) j)) (fun i => s.size + 2 - (intOf i).toNat)
      case atStart => exact ⟨a + 1, by go_num, by omega, by omega, fun j h => h⟩
      case round =>
        obtain ⟨k, rfl, hak, hks, HK⟩ := hrel
        clear t34
        by_cases hlt : k < s.size
        · have hbk := at_bt s k hlt
          have hlt' : k < s.data.toList.length := by rw [len_eq]; exact hlt
          by_cases e1 : s[k].toNat = s[a].toNat
          · have t1 : ((s[k].toNat : Int) == (s[a].toNat : Int)) = true := by rw [byte_eq]; simp [e1]
            have hf : Fd s.data.toList (bt s.data.toList a) (a + 1) k := HK.out k (fd_here hlt' (by rw [← hbk, e1, HQ.out]))
            have HF := Lib.hid hf
            clear hf e1 hbk
            go_wp2
            go_ret2
            exact ⟨_, true, fun _ => ⟨by rw [← HQ.out]; exact HQQ.out, k, HF.out, rfl⟩, rfl, rfl⟩
          · have t1 : ((s[k].toNat : Int) == (s[a].toNat : Int)) = false := by rw [byte_eq]; simp [e1]
            have n1 : bt s.data.toList k ≠ bt s.data.toList a := by rw [← hbk, ← HQ.out]; exact e1
            by_cases e2 : s[k].toNat = 92
            · have t2 : ((s[k].toNat : Int) == 92) = true := by rw [e2]; rfl
              have hf : ∀ j, Fd s.data.toList (bt s.data.toList a) (k + 2) j → Fd s.data.toList (bt s.data.toList a) (a + 1) j := fun j h => HK.out j (fd_esc hlt' n1 (by rw [← hbk]; exact e2) h)
              have HF := Lib.hid hf
              clear hf e1 e2 hbk n1
              go_wp2
              go_round
              case rel => exact ⟨k + 2, by go_num, by omega, by omega, HF.out⟩
              case measure => simp [intOf]; omega
            · have t2 : ((s[k].toNat : Int) == 92) = false := by
                rw [show ((92 : Int)) = ((92 : Nat) : Int) from rfl, byte_eq]; simp [e2]
              have hf : ∀ j, Fd s.data.toList (bt s.data.toList a) (k + 1) j → Fd s.data.toList (bt s.data.toList a) (a + 1) j := fun j h => HK.out j (fd_next hlt' n1 (by rw [← hbk]; exact e2) h)
              have HF := Lib.hid hf
              clear hf e1 e2 hbk n1
              go_wp2
              go_round
              case rel => exact ⟨k + 1, by go_num, by omega, by omega, HF.out⟩
              case measure => simp [intOf]; omega
        · go_wp2
          go_ret2
          exact ⟨0, false, (fun h => by cases h), rfl, rfl⟩
    · have t34 : ((s[a].toNat : Int) != 34) = true := by rw [h39]; rfl
      have t39 : ((s[a].toNat : Int) != 39) = false := by rw [h39]; rfl
      clear h39
      clear hq
      go_enter Tryd.func20, Tryd.ntmps20
      go_wp2
      go_loop [7] (fun i => ∃ k : Nat, i = .int .i64 k ∧ a < k ∧ k ≤ s.size + 1 ∧ Hid (∀ j, Fd s.data.toList (bt s.data.toList a) k j → Fd s.data.toList (bt s.data.toList a) (a + 1) j)) (fun i => s.size + 2 - (intOf i).toNat)
      case atStart => exact ⟨a + 1, by go_num, by omega, by omega, fun j h => h⟩
      case round =>
        obtain ⟨k, rfl, hak, hks, HK⟩ := hrel
        clear t34 t39
        by_cases hlt : k < s.size
        · have hbk := at_bt s k hlt
          have hlt' : k < s.data.toList.length := by rw [len_eq]; exact hlt
          by_cases e1 : s[k].toNat = s[a].toNat
          · have t1 : ((s[k].toNat : Int) == (s[a].toNat : Int)) = true := by rw [byte_eq]; simp [e1]
            have hf : Fd s.data.toList (bt s.data.toList a) (a + 1) k := HK.out k (fd_here hlt' (by rw [← hbk, e1, HQ.out]))
            have HF := Lib.hid hf
            clear hf e1 hbk
            go_wp2
            go_ret2
            exact ⟨_, true, fun _ => ⟨by rw [← HQ.out]; exact HQQ.out, k, HF.out, rfl⟩, rfl, rfl⟩
          · have t1 : ((s[k].toNat : Int) == (s[a].toNat : Int)) = false := by rw [byte_eq]; simp [e1]
            have n1 : bt s.data.toList k ≠ bt s.data.toList a := by rw [← hbk, ← HQ.out]; exact e1
            by_cases e2 : s[k].toNat = 92
            · have t2 : ((s[k].toNat : Int) == 92) = true := by rw [e2]; rfl
              have hf : ∀ j, Fd s.data.toList (bt s.data.toList a) (k + 2) j → Fd s.data.toList (bt s.data.toList a) (a + 1) j := fun j h => HK.out j (fd_esc hlt' n1 (by rw [← hbk]; exact e2) h)
              have HF := Lib.hid hf
              clear hf e1 e2 hbk n1
              go_wp2
              go_round
              case rel => exact ⟨k + 2, by go_num, by omega, by omega, HF.out⟩
              case measure => simp [intOf]; omega
            · have t2 : ((s[k].toNat : Int) == 92) = false := by
                rw [show ((92 : Int)) = ((92 : Nat) : Int) from rfl, byte_eq]; simp [e2]
              have hf : ∀ j, Fd s.data.toList (bt s.data.toList a) (k + 1) j → Fd s.data.toList (bt s.data.toList a) (a + 1) j := fun j h => HK.out j (fd_next hlt' n1 (by rw [← hbk]; exact e2) h)
              have HF := Lib.hid hf
              clear hf e1 e2 hbk n1
              go_wp2
              go_round
              case rel => exact ⟨k + 1, by go_num, by omega, by omega, HF.out⟩
              case measure => simp [intOf]; omega
        · go_wp2
          go_ret2
          exact ⟨0, false, (fun h => by cases h), rfl, rfl⟩
  · have t34 : ((s[a].toNat : Int) != 34) = true := by simp; omega
    have t39 : ((s[a].toNat : Int) != 39) = true := by simp; omega
    clear hqq hq
    go_enter Tryd.func20, Tryd.ntmps20
    go_wp2
    go_ret2
    exact ⟨0, false, (fun h => by cases h), rfl, rfl⟩

set_option maxHeartbeats 400000 in
theorem piece_any (a n : Int) (w : World) (h1 : 0 ≤ a) (h2 : a ≤ 1073741824) (h3 : 0 ≤ n) (h4 : n ≤ 1073741824) :
    Calls Tryd.prog 37 #[.agg #[.int .i32 a, .int .i32 n]] w fun e w' => e = .returned (.agg #[.int .i64 a, .int .i64 n]) ∧ Below w.heap.size w w' := by
  go_enter Tryd.func37, Tryd.ntmps37
  go_wp2
  exact bodyPost_ret (v := .agg #[.int .i64 a, .int .i64 n]) (by simp [results, Tryd.results37, go_sem]) rfl ⟨rfl, ((Below.refl _ _).alloc (Nat.le_refl _) _).alloc (by simp) _⟩

set_option maxHeartbeats 1600000 in
theorem range_any (s : ByteArray) (h a j : Nat) (w : World) (c3 : w.cell? ⟨h, 3, none⟩ = some (.string s)) (hh : h < w.heap.size) (hz : s.size ≤ 1048576) (ha : a < s.size) (hq : bt s.data.toList a = 34 ∨ bt s.data.toList a = 39)
    (hd : Fd (s.data.toList.drop a) (bt s.data.toList a) 1 j) :
    Calls Tryd.prog 39 #[.pointer (some ⟨h, 0, none⟩), .agg #[.int .i32 a]] w fun e w' => e = .returned (.agg #[.int .i32 a, .int .i32 ((j : Int) + 1)]) ∧ Below w.heap.size w w' := by
  have e3 : ∀ o1 o2 : Obj, ((w.alloc o1).alloc o2).cell? ⟨h, 3, none⟩ = some (.string s) := fun o1 o2 => (World.cell?_alloc_lt _ o2 _ (by simp; omega)).trans ((World.cell?_alloc_lt w o1 _ hh).trans c3)
  obtain ⟨t, ht⟩ : ∃ t, t = s.extract a s.size := ⟨_, rfl⟩
  have htl : t.data.toList = s.data.toList.drop a := by rw [ht, drop_data]
  have htz : t.size = s.size - a := by rw [← len_eq, htl, List.length_drop, len_eq]
  have ht0 : 0 < t.size := by omega
  have hb0 : t[0].toNat = bt s.data.toList a := by
    rw [at_bt t 0 ht0, htl]
    unfold bt
    rw [Lib.getD_dropU, Nat.add_zero]
  have h01 : (0 : Int) ≤ a := by omega
  have h02 : (a : Int) ≤ s.size := by omega
  go_enter Tryd.func39, Tryd.ntmps39
  go_wp2
  go_quiet (fail)
  rw [← ht]
  have HD : Hid (Fd t.data.toList t[0].toNat 1 j) := by rw [hb0, htl]; exact hd
  have hts : t.size ≤ 1048576 := by omega
  have z0 : ((t.size : Int) == 0) = false := beq_eq_false_iff_ne.2 (by omega)
  clear ht htl htz e3 c3 hd h01 h02
  rcases hq with h34 | h39
  · have t34 : ((t[0].toNat : Int) == 34) = true := by rw [hb0, h34]; rfl
    clear hb0 h34
    go_wp2
    go_loop [7] (fun i => ∃ k : Nat, i = .int .i64 k ∧ 1 ≤ k ∧ k ≤ t.size + 1 ∧ Hid (Fd t.data.toList t[0].toNat k j)) (fun i => t.size + 2 - (intOf i).toNat)
    case atStart => exact ⟨1, rfl, by omega, by omega, HD.out⟩
    case round =>
      obtain ⟨k, rfl, hk1, hks, HK⟩ := hrel
      obtain ⟨hlt', hkj, hcs⟩ := fd_inv HK.out
      have hlt : k < t.size := by rw [len_eq] at hlt'; exact hlt'
      have hbk := at_bt t k hlt
      clear hlt' t34 z0
      rcases hcs with ⟨g1, g2⟩ | ⟨g1, g2, g3⟩ | ⟨g1, g2, g3⟩
      · have t1 : ((t[k].toNat : Int) == (t[0].toNat : Int)) = true := by rw [byte_eq, hbk, g1]; simp
        have HJ := Lib.hid g2
        clear g1 g2 hbk
        go_wp2
        rw [HJ.out]
        exact bodyPost_ret (v := .agg #[.int .i32 a, .int .i32 ((k : Int) + 1)]) (by simp [results, Tryd.results39, go_sem]) rfl ⟨rfl, ((below_dN (((Below.refl _ _).alloc (Nat.le_refl _) _).alloc (by simp) _) _).setCell (by simp) _).setCell (by simp) _⟩
      · have t1 : ((t[k].toNat : Int) == (t[0].toNat : Int)) = false := by rw [byte_eq, hbk]; simp [g1]
        have t2 : ((t[k].toNat : Int) == 92) = true := by rw [hbk, g2]; rfl
        have HG := Lib.hid g3
        clear g1 g2 g3 hbk
        go_wp2
        go_round
        case rel => exact ⟨k + 2, by go_num, by omega, by omega, HG.out⟩
        case measure => simp [intOf]; omega
      · have t1 : ((t[k].toNat : Int) == (t[0].toNat : Int)) = false := by rw [byte_eq, hbk]; simp [g1]
        have t2 : ((t[k].toNat : Int) == 92) = false := by
          rw [show ((92 : Int)) = ((92 : Nat) : Int) from rfl, byte_eq, hbk]; simp [g2]
        have HG := Lib.hid g3
        clear g1 g2 g3 hbk
        go_wp2
        go_round
        case rel => exact ⟨k + 1, by go_num, by omega, by omega, HG.out⟩
        case measure => simp [intOf]; omega
  · have t34 : ((t[0].toNat : Int) == 34) = false := by rw [hb0, h39]; rfl
    have t39 : ((t[0].toNat : Int) == 39) = true := by rw [hb0, h39]; rfl
    clear hb0 h39
    go_wp2
    go_loop [7] (fun i => ∃ k : Nat, i = .int .i64 k ∧ 1 ≤ k ∧ k ≤ t.size + 1 ∧ Hid (Fd t.data.toList t[0].toNat k j)) (fun i => t.size + 2 - (intOf i).toNat)
    case atStart => exact ⟨1, rfl, by omega, by omega, HD.out⟩
    case round =>
      obtain ⟨k, rfl, hk1, hks, HK⟩ := hrel
      obtain ⟨hlt', hkj, hcs⟩ := fd_inv HK.out
      have hlt : k < t.size := by rw [len_eq] at hlt'; exact hlt'
      have hbk := at_bt t k hlt
      clear hlt' t34 t39 z0
      rcases hcs with ⟨g1, g2⟩ | ⟨g1, g2, g3⟩ | ⟨g1, g2, g3⟩
      · have t1 : ((t[k].toNat : Int) == (t[0].toNat : Int)) = true := by rw [byte_eq, hbk, g1]; simp
        have HJ := Lib.hid g2
        clear g1 g2 hbk
        go_wp2
        rw [HJ.out]
        exact bodyPost_ret (v := .agg #[.int .i32 a, .int .i32 ((k : Int) + 1)]) (by simp [results, Tryd.results39, go_sem]) rfl ⟨rfl, ((below_dN (((Below.refl _ _).alloc (Nat.le_refl _) _).alloc (by simp) _) _).setCell (by simp) _).setCell (by simp) _⟩
      · have t1 : ((t[k].toNat : Int) == (t[0].toNat : Int)) = false := by rw [byte_eq, hbk]; simp [g1]
        have t2 : ((t[k].toNat : Int) == 92) = true := by rw [hbk, g2]; rfl
        have HG := Lib.hid g3
        clear g1 g2 g3 hbk
        go_wp2
        go_round
        case rel => exact ⟨k + 2, by go_num, by omega, by omega, HG.out⟩
        case measure => simp [intOf]; omega
      · have t1 : ((t[k].toNat : Int) == (t[0].toNat : Int)) = false := by rw [byte_eq, hbk]; simp [g1]
        have t2 : ((t[k].toNat : Int) == 92) = false := by
          rw [show ((92 : Int)) = ((92 : Nat) : Int) from rfl, byte_eq, hbk]; simp [g2]
        have HG := Lib.hid g3
        clear g1 g2 g3 hbk
        go_wp2
        go_round
        case rel => exact ⟨k + 1, by go_num, by omega, by omega, HG.out⟩
        case measure => simp [intOf]; omega

set_option maxHeartbeats 800000 in
theorem implQuoted_any (s : ByteArray) (a j : Nat) (w : World) (hz : s.size ≤ 1048576) (ha : a < s.size) (hj : j ≤ 1048576) (hq : bt s.data.toList a = 34 ∨ bt s.data.toList a = 39)
    (hd : Fd (s.data.toList.drop a) (bt s.data.toList a) 1 j) :
    Calls Tryd.prog 21 #[.string s, .int .i64 a] w fun e w' => e = .returned (.agg #[.int .i64 a, .int .i64 ((j : Int) + 1)]) ∧ Below w.heap.size w w' := by
  have HQ := Lib.hid (And.intro hq hd)
  clear hq hd
  go_enter Tryd.func21, Tryd.ntmps21
  go_wp2_with fail
  generalize hwa : w.alloc _ = wa
  generalize hwb : wa.alloc _ = wb
  have c3 : wb.cell? ⟨wa.heap.size, 3, none⟩ = some (.string s) := by rw [← hwb]; exact (Bk.new wa 69 _).cell 3
  have hba : Below w.heap.size w wa := by rw [← hwa]; exact (Below.refl _ _).alloc (Nat.le_refl _) _
  have hbb : Below w.heap.size w wb := by rw [← hwb]; exact hba.alloc hba.size _
  have hzb : wa.heap.size < wb.heap.size := by rw [← hwb]; simp
  have hza : w.heap.size + 1 = wa.heap.size := by rw [← hwa]; simp
  have hbk : Bk wb w.heap.size 23 #[.int .i64 0, .int .i64 0] := by
    rw [← hwb, ← hwa]; exact (Bk.new w 23 _).alloc _
  try rw [hza]
  refine (range_any s _ a j wb c3 hzb hz ha HQ.out.1 HQ.out.2).mono ?_
  rintro e w2 ⟨rfl, hb2⟩
  have hz2 := hb2.size
  have HB2 := Lib.hid (And.intro (hbb.trans (hb2.mono hbb.size)) (hbk.below hb2 (by omega)))
  clear hb2 hbb hba c3 hbk hwa hwb
  go_wp2_with fail
  refine (piece_any _ _ _ (by omega) (by omega) (by omega) (by omega)).mono ?_
  rintro e w3 ⟨rfl, hb3⟩
  have hz3 := hb3.size
  have hbk3 := HB2.out.2.below hb3 (by omega)
  have d0 : w3.cell? ⟨w.heap.size, 0, none⟩ = some (.int .i64 0) := hbk3.cell 0
  have d1 : w3.cell? ⟨w.heap.size, 1, none⟩ = some (.int .i64 0) := hbk3.cell 1
  have f0 := hbk3.free 0
  have f1 := hbk3.free 1
  have HB3 := Lib.hid (HB2.out.1.trans (hb3.mono (by omega)))
  clear hb3 hbk3 HB2
  go_wp2
  exact bodyPost_ret (v := .agg #[.int .i64 a, .int .i64 ((j : Int) + 1)]) (by simp [results, Tryd.results21, go_sem, d0, d1]) rfl ⟨rfl, (HB3.out.setCell (Nat.le_refl _) _).setCell (Nat.le_refl _) _⟩

set_option maxHeartbeats 1600000 in
theorem quotedlaw_any (s : ByteArray) (a : Int) (w : World) (_hs : s.size ≤ 140737488355328) (hT : Lib.Utf8Tabs 1 2 w) :
    Calls Tryd.prog 8 #[.string s, .int .i64 a] w (Yes w) := by
  have h3 := tabs_lt hT
  have HT := Lib.hid hT
  clear hT
  by_cases h1 : a < 0
  · go_enter Tryd.func8, Tryd.ntmps8
    go_wp2_with fail
    refine (wakes_any _ HT.out).mono ?_
    rintro e w2 ⟨rfl, hb2⟩
    have HB := Lib.hid hb2
    clear hb2
    go_wp2
    go_ret
    exact ⟨rfl, HB.out⟩
  · by_cases h2 : (s.size : Int) ≤ a
    · go_enter Tryd.func8, Tryd.ntmps8
      go_wp2_with fail
      refine (wakes_any _ HT.out).mono ?_
      rintro e w2 ⟨rfl, hb2⟩
      have HB := Lib.hid hb2
      clear hb2
      go_wp2
      go_ret
      exact ⟨rfl, HB.out⟩
    · by_cases hz : (1048576 : Int) < s.size
      · go_enter Tryd.func8, Tryd.ntmps8
        go_wp2_with fail
        refine (wakes_any _ HT.out).mono ?_
        rintro e w2 ⟨rfl, hb2⟩
        have HB := Lib.hid hb2
        clear hb2
        go_wp2
        go_ret
        exact ⟨rfl, HB.out⟩
      · obtain ⟨q, rfl⟩ := Int.eq_ofNat_of_zero_le (show 0 ≤ a by omega)
        go_enter Tryd.func8, Tryd.ntmps8
        go_wp2_with fail
        refine (specQuoted_any s q w (by omega) (by omega)).mono ?_
        rintro e w1 ⟨n, ok, HQ, rfl, rfl⟩
        cases ok with
        | false =>
          go_wp2_with fail
          refine (wakes_any _ HT.out).mono ?_
          rintro e w2 ⟨rfl, hb2⟩
          have HB := Lib.hid hb2
          clear hb2
          go_wp2
          go_ret
          exact ⟨rfl, HB.out⟩
        | true =>
          obtain ⟨hq, j, ⟨f, hf⟩, rfl⟩ := HQ.out rfl
          obtain ⟨k, hk, hd⟩ := fd_drop f 1 j hf
          have hkk := (fd_inv ⟨f, hf⟩).2.1
          have hjl : j < s.data.toList.length := by
            have key : ∀ f i, fnd s.data.toList (bt s.data.toList q) f i = some j → j < s.data.toList.length := by
              intro f
              induction f with
              | zero => intro i h; cases h
              | succ f ih =>
                intro i h
                obtain ⟨g1, _, g3⟩ := fd_inv ⟨f + 1, h⟩
                rcases g3 with ⟨_, rfl⟩ | ⟨u1, u2, _⟩ | ⟨u1, u2, _⟩
                · exact g1
                · rw [fnd, if_pos g1, if_neg u1, if_pos u2] at h; exact ih _ h
                · rw [fnd, if_pos g1, if_neg u1, if_neg u2] at h; exact ih _ h
            exact key f _ hf
          rw [len_eq] at hjl
          have HC := Lib.hid (implQuoted_any s q k w (by omega) (by omega) (by omega) hq hd)
          have hkn : (j : Int) + 1 - q = (k : Int) + 1 := by omega
          rw [hkn]
          clear HQ hq hd hf hk hkk hkn
          go_wp2_with fail
          refine HC.out.mono ?_
          rintro e w2 ⟨rfl, hb2⟩
          have hz2 := hb2.size
          have HB2 := Lib.hid (And.intro hb2 (tabs_below HT.out hb2 (by omega)))
          clear hb2 HC
          go_wp2_with fail
          refine (wakes_any _ HB2.out.2).mono ?_
          rintro e w3 ⟨rfl, hb3⟩
          have HB := Lib.hid (HB2.out.1.trans (hb3.mono (by omega)))
          clear hb3
          go_wp2
          go_ret
          exact ⟨rfl, HB.out⟩
end Go.Proofs.YtfndlifolohlgaaDoor
