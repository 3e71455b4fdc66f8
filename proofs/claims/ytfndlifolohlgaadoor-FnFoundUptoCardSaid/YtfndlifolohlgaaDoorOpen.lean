/-
  Arguments opened: a piece by value; a slice of pieces as a list of pairs of numbers; a slice of pairs as a list of pairs of strings. Plain steps between a row's readings and what the walks ask.
-/
import Derived.Test.YtfndlifolohlgaaDoorFrame
import Derived.Test.YtfndlifolohlgaaDoorMem
import Derived.Deep.SlicePairs
import Derived.Lib.SmallJoins
import Derived.ShutString
import Derived.SizedLaws
namespace Go.Proofs.YtfndlifolohlgaaDoor
open Go.ChangeShapes Go.WideShapes Go.ChangeAt Go.RowKit Go.Deep
set_option maxRecDepth 100000

theorem laidOut : laidOutB Tryd.prog = true := by kernel_rfl
theorem cells3 : Tryd.prog.cellsOf 3 = 1 := by kernel_rfl
theorem cells9 : Tryd.prog.cellsOf 9 = 1 := by kernel_rfl
theorem cells23 : Tryd.prog.cellsOf 23 = 2 := by kernel_rfl
theorem cells53 : Tryd.prog.cellsOf 53 = 2 := by kernel_rfl
theorem bytes23 : Tryd.prog.bytesOf 23 = 16 := by kernel_rfl
theorem bytes53 : Tryd.prog.bytesOf 53 = 32 := by kernel_rfl

section
variable {H : Type} {enc : TypeId × Value → H} {W : World} {base : Nat}

theorem open_piece {v : Value} {d : DataW H} {p : List MemPlace} {b0 : Nat} {r : Reach} (hv : Value.okWide Tryd.prog W r b0 23 v) (h : DataW.Trod enc Tryd.prog W 0 (fun _ => true) true 23 v d p) :
    ∃ a n : Int, v = .agg #[.int .i64 a, .int .i64 n] ∧ (Lit.int .i64 a).wf = true ∧ (Lit.int .i64 n).wf = true := by
  obtain ⟨c0, c1, y0, y1, m, rfl, _, _, hy0, hy1⟩ := Joins.open_agg2 Tryd.underlying23 (by kernel_rfl) cells23 hv h
  obtain ⟨a, e0, _, wa⟩ := DataW.trod_int Tryd.underlying3 hy0
  obtain ⟨n, e1, _, wn⟩ := DataW.trod_int Tryd.underlying3 hy1
  simp at e0 e1
  subst e0 e1
  exact ⟨a, n, rfl, wa, wn⟩

theorem addr_plain {a : Addr} {v : Value} (h : W.cell? a = some v) : ∃ b off, a = ⟨b, off, none⟩ ∧ b < W.heap.size := by
  obtain ⟨b, off, sp⟩ := a
  have hs : sp = none := cell_spot h
  subst hs
  exact ⟨b, off, rfl, World.block_lt_of_cell? W _ h⟩
theorem add_at (b off j : Nat) : (⟨b, off, none⟩ : Addr).add j = ⟨b, off + j, none⟩ := by
  unfold Addr.add
  split
  · rename_i h; subst h; rfl
  · rfl

/-- a slice of two-field structs, whatever the fields read as by R -/
theorem open_two {t e : TypeId} {f0 f1 : Field} {v : Value} {d : DataW H} {p : List MemPlace} {α : Type} (mk : α → Value) (dt : α → DataW H) (dflt : α) (ht : Tryd.prog.underlying t = some (.slice e)) (he : Tryd.prog.underlying e = some (.struct #[f0, f1]))
    (ce : Tryd.prog.cellsOf e = 2) (o0 : f0.offset = 0) (o1 : f1.offset = 1) (c0 : Tryd.prog.cellsOf f0.type = 1) (c1 : Tryd.prog.cellsOf f1.type = 1)
    (r0 : ∀ (n : Nat) (u : Value) (y : DataW H × List MemPlace), DataW.trod enc Tryd.prog W 0 (fun _ => true) true n f0.type [u] = some y → ∃ x, u = mk x ∧ y.1 = dt x)
    (r1 : ∀ (n : Nat) (u : Value) (y : DataW H × List MemPlace), DataW.trod enc Tryd.prog W 0 (fun _ => true) true n f1.type [u] = some y → ∃ x, u = mk x ∧ y.1 = dt x)
    {b0 : Nat} {r : Reach} (hv : Value.okWide Tryd.prog W r b0 t v) (h : DataW.Trod enc Tryd.prog W 0 (fun _ => true) true t v d p) :
    ∃ (ao : Option Addr) (len cap : Nat) (ps : List (α × α)), v = .slice ao len cap ∧ ps.length = len ∧ len ≤ cap ∧ cap ≤ maxLen ∧
      (0 < len → ∃ b off, ao = some ⟨b, off, none⟩ ∧ b < W.heap.size ∧ ∀ k, k < len → W.cell? ⟨b, off + k * 2, none⟩ = some (mk (ps.getD k (dflt, dflt)).1) ∧ W.cell? ⟨b, off + k * 2 + 1, none⟩ = some (mk (ps.getD k (dflt, dflt)).2)) ∧
      ((d = .nil ∧ len = 0 ∧ cap = 0) ∨ ∃ spare, d = .slice (ps.map fun x => .agg [dt x.1, dt x.2]) spare ∧ len + spare.length = cap) := by
  obtain ⟨ao, len, cap, rfl⟩ := okWide_slice ht hv
  obtain ⟨fuel, hf⟩ := h
  rcases open_slice_pairs ht he ce o0 o1 c0 c1 hf with ⟨hcs, hx⟩ | ⟨a, len', cap', m, n, V0, V1, D0, D1, P0, P1, hcs, _, hl, hm, hmm, hx, hat⟩
  · simp [Value.cells] at hcs
    obtain ⟨rfl, rfl, rfl⟩ := hcs
    simp only [Prod.mk.injEq] at hx
    exact ⟨none, 0, 0, [], rfl, rfl, Nat.le_refl _, Nat.zero_le _, fun h => absurd h (by omega), .inl ⟨hx.1, rfl, rfl⟩⟩
  · simp [Value.cells] at hcs
    obtain ⟨rfl, rfl, rfl⟩ := hcs
    simp only [if_true] at hmm
    subst hmm
    simp only [Prod.mk.injEq] at hx
    have key : ∀ i, i < m → ∃ x : α × α, V0 i = mk x.1 ∧ V1 i = mk x.2 ∧ D0 i = dt x.1 ∧ D1 i = dt x.2 := by
      intro i hi
      obtain ⟨_, _, t0, t1⟩ := hat i hi
      obtain ⟨x0, e0, g0⟩ := r0 _ _ _ t0
      obtain ⟨x1, e1, g1⟩ := r1 _ _ _ t1
      exact ⟨(x0, x1), e0, e1, g0, g1⟩
    have hch : ∀ k, k ≤ m → ∃ ps : List (α × α), ps.length = k ∧ ∀ i, i < k → V0 i = mk (ps.getD i (dflt, dflt)).1 ∧ V1 i = mk (ps.getD i (dflt, dflt)).2 ∧ D0 i = dt (ps.getD i (dflt, dflt)).1 ∧ D1 i = dt (ps.getD i (dflt, dflt)).2 := by
      intro k
      induction k with
      | zero => intro _; exact ⟨[], rfl, fun i hi => by omega⟩
      | succ k ih =>
        intro hk
        obtain ⟨ps, hps, hall⟩ := ih (by omega)
        obtain ⟨x, hxx⟩ := key k (by omega)
        refine ⟨ps ++ [x], by simp [hps], fun i hi => ?_⟩
        rcases (show i < k ∨ i = k by omega) with h | h
        · have := hall i h
          simpa [List.getD, List.getElem?_append_left (show i < ps.length by omega)] using this
        · subst h
          simpa [List.getD, ← hps] using hxx
    obtain ⟨ps, hps, hall⟩ := hch len hl
    refine ⟨some a, len, m, ps, rfl, hps, hl, hm, fun h0 => ?_, .inr ⟨(List.range (m - len)).map (fun j => .agg [D0 (len + j), D1 (len + j)]), ?_, ?_⟩⟩
    · have hc0 := (hat 0 (by omega)).1
      rw [Nat.zero_mul, show a.add 0 = a from by unfold Addr.add; simp] at hc0
      obtain ⟨b, off, rfl, hb⟩ := addr_plain hc0
      refine ⟨b, off, rfl, hb, fun k hk => ?_⟩
      obtain ⟨g0, g1, _, _⟩ := hat k (by omega)
      rw [add_at] at g0 g1
      rw [(hall k hk).1] at g0
      rw [(hall k hk).2.1] at g1
      exact ⟨g0, by rw [Nat.add_assoc]; exact g1⟩
    · rw [hx.1]
      congr 1
      apply List.ext_getElem
      · simp [hps]
      · intro i h1 h2
        simp at h1 h2
        have := hall i h1
        simp [this.2.2.1, this.2.2.2, List.getD, List.getElem?_eq_getElem h2]
    · simp; omega

theorem rd_int (n : Nat) (u : Value) (y : DataW H × List MemPlace) (h : DataW.trod enc Tryd.prog W 0 (fun _ => true) true n 3 [u] = some y) : ∃ x : Int, u = .int .i64 x ∧ y.1 = .lit (.int .i64 x) := by
  obtain ⟨a, e0, e1, _⟩ := DataW.trod_int Tryd.underlying3 h
  simp at e0
  exact ⟨a, e0, by rw [e1]⟩
theorem rd_str (n : Nat) (u : Value) (y : DataW H × List MemPlace) (h : DataW.trod enc Tryd.prog W 0 (fun _ => true) true n 9 [u] = some y) : ∃ x : ByteArray, u = .string x ∧ y.1 = .lit (.string x.data.toList) := by
  obtain ⟨a, e0, e1, _⟩ := DataW.trod_string Tryd.underlying9 h
  simp at e0
  exact ⟨a, e0, by rw [e1]⟩
/-- []impl.Piece -/
theorem open_pieces {v : Value} {d : DataW H} {p : List MemPlace} {b0 : Nat} {r : Reach} (hv : Value.okWide Tryd.prog W r b0 24 v) (h : DataW.Trod enc Tryd.prog W 0 (fun _ => true) true 24 v d p) :
    ∃ (ao : Option Addr) (len cap : Nat) (ps : List (Int × Int)), v = .slice ao len cap ∧ PcRd W W.heap.size ao len ps ∧ len ≤ cap ∧ cap ≤ maxLen ∧
      ((d = .nil ∧ len = 0 ∧ cap = 0) ∨ ∃ spare, d = .slice (ps.map fun x => .agg [.lit (.int .i64 x.1), .lit (.int .i64 x.2)]) spare ∧ len + spare.length = cap) := by
  obtain ⟨ao, len, cap, ps, e, hl, h1, h2, h3, h4⟩ := open_two (H := H) (fun x : Int => Value.int .i64 x) (fun x : Int => .lit (.int .i64 x)) 0 Tryd.underlying24 Tryd.underlying23 cells23 rfl rfl cells3 cells3 rd_int rd_int hv h
  exact ⟨ao, len, cap, ps, e, ⟨hl, h3⟩, h1, h2, h4⟩

/-- a slice of pairs of strings -/
def PrRd (w : World) (B : Nat) (ao : Option Addr) (n : Nat) (ps : List (ByteArray × ByteArray)) : Prop :=
  ps.length = n ∧ (0 < n → ∃ b off, ao = some ⟨b, off, none⟩ ∧ b < B ∧ ∀ k, k < n →
    w.cell? ⟨b, off + k * 2, none⟩ = some (.string (ps.getD k (ByteArray.empty, ByteArray.empty)).1) ∧ w.cell? ⟨b, off + k * 2 + 1, none⟩ = some (.string (ps.getD k (ByteArray.empty, ByteArray.empty)).2))
/-- []impl.Pair -/
theorem open_pairs {v : Value} {d : DataW H} {p : List MemPlace} {b0 : Nat} {r : Reach} (hv : Value.okWide Tryd.prog W r b0 46 v) (h : DataW.Trod enc Tryd.prog W 0 (fun _ => true) true 46 v d p) :
    ∃ (ao : Option Addr) (len cap : Nat) (ps : List (ByteArray × ByteArray)), v = .slice ao len cap ∧ PrRd W W.heap.size ao len ps ∧ len ≤ cap ∧ cap ≤ maxLen ∧
      ((d = .nil ∧ len = 0 ∧ cap = 0) ∨ ∃ spare, d = .slice (ps.map fun x => .agg [.lit (.string x.1.data.toList), .lit (.string x.2.data.toList)]) spare ∧ len + spare.length = cap) := by
  obtain ⟨ao, len, cap, ps, e, hl, h1, h2, h3, h4⟩ := open_two (H := H) (fun x : ByteArray => Value.string x) (fun x : ByteArray => .lit (.string x.data.toList)) ByteArray.empty Tryd.underlying46 Tryd.underlying53 cells53 rfl rfl cells9 cells9 rd_str rd_str hv h
  exact ⟨ao, len, cap, ps, e, ⟨hl, h3⟩, h1, h2, h4⟩
end
end Go.Proofs.YtfndlifolohlgaaDoor
