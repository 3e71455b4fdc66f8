/-
  The tracker's state in memory, and the two decoders at a string that is cut at a boundary. What the state says: the line's number is that of the place that was come to; if the line's beginning (or end) is marked as known, it is that place's.
-/
import Derived.Test.YtfndlifolohlgaaDoorSpecA
import Derived.Test.YtfndlifolohlgaaDoorMem
import Derived.Test.YtfndlifolohlgaaDoorUtf
namespace Go.Proofs.YtfndlifolohlgaaDoor
open Go Go.RowKit Ln

theorem drop_data (s : ByteArray) (k : Nat) : (s.extract k s.size).data.toList = s.data.toList.drop k := by
  rw [Lib.extract_data, List.take_of_length_le (by rw [List.length_drop, len_eq]; exact Nat.le_refl _)]
theorem take_data (s : ByteArray) (k : Nat) : (s.extract 0 k).data.toList = s.data.toList.take k := by
  rw [Lib.extract_data, List.drop_zero, Nat.sub_zero]
theorem decodeGo_drop (s : ByteArray) (k : Nat) (hk : k < s.size) : Lib.decodeGo (s.extract k s.size) = dc s.data.toList k := by
  unfold Lib.decodeGo dc Lib.decodeL
  rw [← drop_data]
  rw [if_neg]
  have : (s.extract k s.size).data.toList.length = s.size - k := by rw [drop_data, List.length_drop, len_eq]
  rw [len_eq] at this
  omega

/-- DecodeRuneInString(s[k:]) -/
theorem dec_fwd (s : ByteArray) (k c n : Nat) (w : World) (hk : k < s.size) (hT : Lib.Utf8Tabs 1 2 w) (hd : dc s.data.toList k = (c, n)) :
    Calls Tryd.prog 53 #[.string (s.extract k s.size)] w fun e w' => e = .returned (.tuple #[.int .i32 c, .int .i64 n]) ∧ Below w.heap.size w w' := by
  have h := Tryd.utf8_DecodeRuneInString (s.extract k s.size) w hT
  rw [decodeGo_drop s k hk, hd] at h
  exact h
/-- DecodeLastRuneInString(s[:q]) -/
theorem dec_bwd (s : ByteArray) (q c n : Nat) (w : World) (hq : q ≤ s.size) (hs : s.size ≤ 9223372036854775807) (hT : Lib.Utf8Tabs 1 2 w) (hd : Lib.decodeLastL (s.data.toList.take q) = (c, n)) :
    Calls Tryd.prog 52 #[.string (s.extract 0 q)] w fun e w' => e = .returned (.tuple #[.int .i32 c, .int .i64 n]) ∧ Below w.heap.size w w' := by
  have hsz : (s.extract 0 q).size ≤ 9223372036854775807 := by
    rw [← len_eq, take_data, List.length_take, len_eq]
    omega
  have h := Tryd.utf8_DecodeLastRuneInString (s.extract 0 q) w hsz hT
  rw [take_data, hd] at h
  exact h

theorem tabs_keep {w w' : World} (h : Lib.Utf8Tabs 1 2 w) (h1 : w'.heap[1]? = w.heap[1]?) (h2 : w'.heap[2]? = w.heap[2]?) : Lib.Utf8Tabs 1 2 w' :=
  ⟨fun c hc => (World.cell?_of_block (w := w) (w' := w') (a := ⟨1, c, none⟩) h1).trans (h.1 c hc), fun i hi => ⟨(World.cell?_of_block (w := w) (w' := w') (a := ⟨2, 2 * i, none⟩) h2).trans (h.2 i hi).1, (World.cell?_of_block (w := w) (w' := w') (a := ⟨2, 2 * i + 1, none⟩) h2).trans (h.2 i hi).2⟩⟩
theorem tabs_lt {w : World} (h : Lib.Utf8Tabs 1 2 w) : 2 < w.heap.size := by
  have h2 := (h.2 0 (by omega)).1
  rcases Nat.lt_or_ge 2 w.heap.size with h' | h'
  · exact h'
  · simp [World.cell?, Array.getElem?_eq_none h'] at h2
theorem tabs_gb {w w' : World} {g : Nat} (h : Lib.Utf8Tabs 1 2 w) (hg : w.grownBy w' (some g)) (h3 : 3 ≤ g) : Lib.Utf8Tabs 1 2 w' :=
  tabs_keep h (hg.block 1 (by have := tabs_lt h; omega) (by intro e; injection e with e; omega)) (hg.block 2 (tabs_lt h) (by intro e; injection e with e; omega))
theorem tabs_below {w w' : World} {B : Nat} (h : Lib.Utf8Tabs 1 2 w) (hb : Below B w w') (h3 : 3 ≤ B) : Lib.Utf8Tabs 1 2 w' :=
  tabs_keep h (hb.block 1 (by omega)) (hb.block 2 (by omega))

/-- the tracker's cells -/
def tkCells (s : ByteArray) (o ln ls le : Int) (hs he : Bool) : Array Value :=
  #[.string s, .string ByteArray.empty, .string ByteArray.empty, .int .i32 o, .int .i32 ln, .int .i32 ls, .int .i32 le, .bool hs, .bool he, .bool true]
/-- the tracker lies in block g; its field 'offset' holds o; the rest is what is known of place i -/
def TkI (w : World) (g : Nat) (s : ByteArray) (o : Int) (i : Nat) : Prop :=
  ∃ (ls le : Int) (hs he : Bool), Bk w g 71 (tkCells s o (Ln.L s.data.toList i : Nat) ls le hs he) ∧ (hs = true → ls = (Ln.S s.data.toList i : Nat)) ∧ (he = true → le = (Ln.E s.data.toList i : Nat))
theorem TkI.gb {w w' : World} {g g' : Nat} {s : ByteArray} {o : Int} {i : Nat} (h : TkI w g s o i) (hg : w.grownBy w' (some g')) (hne : g ≠ g') : TkI w' g s o i := by
  obtain ⟨ls, le, hs, he, hb, h1, h2⟩ := h
  exact ⟨ls, le, hs, he, hb.grown hg (fun e => by injection e with e; exact hne e), h1, h2⟩
theorem TkI.below {w w' : World} {B g : Nat} {s : ByteArray} {o : Int} {i : Nat} (h : TkI w g s o i) (hb : Below B w w') (hg : g < B) : TkI w' g s o i := by
  obtain ⟨ls, le, hs, he, hbk, h1, h2⟩ := h
  exact ⟨ls, le, hs, he, hbk.below hb hg, h1, h2⟩

/-- one character forward, by what it is: what the walk needs to know -/
theorem fwd_facts {s : ByteArray} (hv : VT s.data.toList) {k q : Nat} (hb : Bd s.data.toList k) (hq : Bd s.data.toList q) (hkq : k < q) :
    ∃ c n : Nat, dc s.data.toList k = (c, n) ∧ 1 ≤ n ∧ n ≤ 4 ∧ k + n ≤ q ∧ q ≤ s.size ∧ c ≤ 1114111 ∧ Bd s.data.toList (k + n) ∧
      (c = 10 ↔ bt s.data.toList k = 10) ∧ (brk s.data.toList k = true ↔ c = 10 ∨ c = 13 ∨ c = 8232 ∨ c = 8233) ∧ (c = 10 → n = 1) ∧
      Ln.L s.data.toList (k + n) = Ln.L s.data.toList k + (if inc s.data.toList k then 1 else 0) ∧
      Ln.S s.data.toList (k + n) = (if brk s.data.toList k then k + n else Ln.S s.data.toList k) ∧
      Ln.E s.data.toList k = (if brk s.data.toList k then k else Ln.E s.data.toList (k + n)) := by
  have hqs := hq.1
  rw [len_eq] at hqs
  have hlt' : k < s.data.toList.length := by rw [len_eq]; omega
  have h := at_bd hv hb hlt'
  have hle : k + (dc s.data.toList k).2 ≤ q := by
    rcases Nat.lt_or_ge q (k + (dc s.data.toList k).2) with h' | h'
    · exact absurd (dcont hv hb hlt' q hkq h') (hq.2 (by have := h.2.2.1; omega))
    · exact h'
  refine ⟨_, _, rfl, h.1, h.2.1, hle, hqs, h.2.2.2.2.2.2.2.2.2.2.2.2.2, h.2.2.2.1, h.2.2.2.2.2.2.1, brk_code hv hb hlt', ?_, L_fwd hv hb hlt', S_fwd hv hb hlt', E_fwd hv hb hlt'⟩
  intro hc
  exact cr_one hv hb hlt' (by have := h.2.2.2.2.2.2.1.1 hc; omega)
/-- one character backward -/
theorem bwd_facts {s : ByteArray} (hv : VT s.data.toList) {k q : Nat} (hb : Bd s.data.toList k) (hq : Bd s.data.toList q) (hkq : q < k) :
    ∃ p c n : Nat, p + n = k ∧ q ≤ p ∧ k ≤ s.size ∧ Lib.decodeLastL (s.data.toList.take k) = (c, n) ∧ 1 ≤ n ∧ n ≤ 4 ∧ c ≤ 1114111 ∧ Bd s.data.toList p ∧
      (c = 10 ↔ bt s.data.toList p = 10) ∧ (brk s.data.toList p = true ↔ c = 10 ∨ c = 13 ∨ c = 8232 ∨ c = 8233) ∧ (c = 10 → n = 1) ∧
      Ln.L s.data.toList k = Ln.L s.data.toList p + (if inc s.data.toList p then 1 else 0) ∧
      Ln.S s.data.toList k = (if brk s.data.toList p then k else Ln.S s.data.toList p) ∧
      Ln.E s.data.toList p = (if brk s.data.toList p then p else Ln.E s.data.toList k) := by
  have hks := hb.1
  rw [len_eq] at hks
  obtain ⟨p, hpk, hbp, hsum, hd⟩ := last_dc hv hb (by omega)
  have hpl : p < s.data.toList.length := by rw [len_eq]; omega
  have h := at_bd hv hbp hpl
  have hqp : q ≤ p := by
    rcases Nat.lt_or_ge p q with h' | h'
    · exact absurd (dcont hv hbp hpl q h' (by omega)) (hq.2 (by rw [len_eq]; omega))
    · exact h'
  have e1 := L_fwd hv hbp hpl
  have e2 := S_fwd hv hbp hpl
  have e3 := E_fwd hv hbp hpl
  rw [hsum] at e1 e2 e3
  refine ⟨p, _, _, hsum, hqp, hks, hd, h.1, h.2.1, h.2.2.2.2.2.2.2.2.2.2.2.2.2, hbp, h.2.2.2.2.2.2.1, brk_code hv hbp hpl, ?_, e1, e2, e3⟩
  intro hc
  exact cr_one hv hbp hpl (by have := h.2.2.2.2.2.2.1.1 hc; omega)
theorem inc_plain {l : List UInt8} {k : Nat} (h : brk l k = true) (hx : bt l k ≠ 10) : inc l k = true := by
  rw [inc_iff]; exact ⟨h, fun hh => hx hh.1⟩
theorem inc_lf {l : List UInt8} {k : Nat} (h : brk l k = true) (hx : k = 0 ∨ bt l (k - 1) ≠ 13) : inc l k = true := by
  rw [inc_iff]; exact ⟨h, fun hh => by rcases hx with hx | hx <;> omega⟩
theorem inc_crlf {l : List UInt8} {k : Nat} (h0 : 0 < k) (h : bt l k = 10) (hx : bt l (k - 1) = 13) : inc l k = false := by
  cases hi : inc l k with
  | false => rfl
  | true => rw [inc_iff] at hi; exact absurd ⟨h, h0, hx⟩ hi.2
end Go.Proofs.YtfndlifolohlgaaDoor
