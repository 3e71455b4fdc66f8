/-
  Words for memory in these proofs: a slice of pieces that reads as a list of pairs; a block that is known whole; what stays while one block alone is written. Plain laws on worlds; no program stands here.
-/
import Derived.WalkKit
import Derived.Laws.Rows
import Derived.Deep.Draws
namespace Go.Proofs.YtfndlifolohlgaaDoor
open Go Go.RowKit

/-- the slice value (A, n) reads as these pieces, and lies below block B -/
def PcRd (w : World) (B : Nat) (ao : Option Addr) (n : Nat) (ps : List (Int × Int)) : Prop :=
  ps.length = n ∧ (0 < n → ∃ b off, ao = some ⟨b, off, none⟩ ∧ b < B ∧ ∀ k, k < n →
    w.cell? ⟨b, off + k * 2, none⟩ = some (.int .i64 (ps.getD k (0, 0)).1) ∧ w.cell? ⟨b, off + k * 2 + 1, none⟩ = some (.int .i64 (ps.getD k (0, 0)).2))
theorem PcRd.below {w w' : World} {B n : Nat} {ao : Option Addr} {ps : List (Int × Int)} (h : PcRd w B ao n ps) (hb : Below B w w') : PcRd w' B ao n ps := by
  refine ⟨h.1, fun hn => ?_⟩
  obtain ⟨b, off, e, hlt, hc⟩ := h.2 hn
  refine ⟨b, off, e, hlt, fun k hk => ?_⟩
  obtain ⟨h1, h2⟩ := hc k hk
  exact ⟨(hb.cell (p := ⟨b, off + k * 2, none⟩) hlt).trans h1, (hb.cell (p := ⟨b, off + k * 2 + 1, none⟩) hlt).trans h2⟩

/-- block g is just these cells, none frozen -/
def Bk (w : World) (g : Nat) (t : TypeId) (cs : Array Value) : Prop := w.heap[g]? = some (.cells cs t (0, 0))
theorem Bk.lt {w : World} {g : Nat} {t : TypeId} {cs : Array Value} (h : Bk w g t cs) : g < w.heap.size := lt_of_block h
theorem Bk.cell {w : World} {g : Nat} {t : TypeId} {cs : Array Value} (h : Bk w g t cs) (i : Nat) : w.cell? ⟨g, i, none⟩ = cs[i]? := cell_of_row w g i cs t (0, 0) h
theorem Bk.free {w : World} {g : Nat} {t : TypeId} {cs : Array Value} (h : Bk w g t cs) (i : Nat) : w.frozen? ⟨g, i, none⟩ = false := by
  unfold Bk at h; simp [World.frozen?, h]
theorem Bk.put {w : World} {g : Nat} {t : TypeId} {cs : Array Value} (h : Bk w g t cs) (i : Nat) (u : Value) : Bk (w.setCell ⟨g, i, none⟩ u) g t (cs.setIfInBounds i u) := by
  unfold Bk at h ⊢
  simp [World.setCell, Array.getElem?_modify, h]
theorem Bk.new (w : World) (t : TypeId) (cs : Array Value) : Bk (w.alloc (.cells cs t)) w.heap.size t cs := heap_alloc_new w _
theorem Bk.alloc {w : World} {g : Nat} {t : TypeId} {cs : Array Value} (h : Bk w g t cs) (o : Obj) : Bk (w.alloc o) g t cs := (Below.heap_alloc w o g h.lt).trans h
theorem Bk.below {w w' : World} {B g : Nat} {t : TypeId} {cs : Array Value} (h : Bk w g t cs) (hb : Below B w w') (hg : g < B) : Bk w' g t cs := (hb.block g hg).trans h
theorem Bk.grown {w w' : World} {row : Option Nat} {g : Nat} {t : TypeId} {cs : Array Value} (h : Bk w g t cs) (hb : w.grownBy w' row) (hg : some g ≠ row) : Bk w' g t cs := (hb.block g h.lt hg).trans h
theorem Bk.ne {w : World} {g g' : Nat} {t t' : TypeId} {cs cs' : Array Value} (h : Bk w g t cs) (h' : Bk w g' t' cs') (hne : t ≠ t') : g ≠ g' := by
  rintro rfl
  unfold Bk at h h'
  rw [h] at h'
  injection h' with h'
  injection h' with _ ht
  exact hne ht
theorem own_ne {w : World} {base : Nat} {e t : TypeId} {size n g : Nat} {v : Value} {xs : List Value} {cs : Array Value} (h : w.ownsRow base e size v n xs) (hg : Bk w g t cs) (hne : e ≠ t) : v.ownBlock ≠ some g := by
  rcases h.2 with ⟨rfl, _⟩ | ⟨g', cap, cur, rfl, _, hh, _⟩
  · simp [Value.ownBlock]
  · intro he
    have : g' = g := by simpa [Value.ownBlock] using he
    subst this
    exact Bk.ne (t := e) hh hg hne rfl

/-! ### 'only block g, and what is new, has turned' -/
theorem gb_trans {a b c : World} {g : Option Nat} (h : a.grownBy b g) (k : b.grownBy c g) : a.grownBy c g :=
  ⟨k.os.trans h.os, k.tape.trans h.tape, k.output.trans h.output, Nat.le_trans h.size k.size, fun i hi hne => (k.block i (Nat.lt_of_lt_of_le hi h.size) hne).trans (h.block i hi hne)⟩
theorem gb_below {w w' : World} {g : Option Nat} (hb : Below w.heap.size w w') : w.grownBy w' g := ⟨hb.os, hb.tape, hb.output, hb.size, fun k hk _ => hb.block k hk⟩
theorem gb_set (w : World) (g i : Nat) (u : Value) : w.grownBy (w.setCell ⟨g, i, none⟩ u) (some g) :=
  ⟨rfl, rfl, rfl, by simp [World.setCell], fun k _ hne => Below.heap_setCell w _ u k (fun e => hne (by rw [e]))⟩
theorem gb_alloc (w : World) (o : Obj) (g : Option Nat) : w.grownBy (w.alloc o) g := World.grownBy_alloc w o g
theorem gb_drew {a w : World} {g : Option Nat} (h : a.grownBy w g) : a.grownBy w.drew g := ⟨h.os, h.tape, h.output, h.size, h.block⟩
theorem gb_drewN {a w : World} {g : Option Nat} (h : a.grownBy w g) (n : Nat) : a.grownBy (w.drewN n) g := ⟨h.os, h.tape, h.output, h.size, h.block⟩
theorem below_gb {B : Nat} {a w w' : World} {g : Nat} (h : Below B a w) (hg : w.grownBy w' (some g)) (hB : B ≤ w.heap.size) (hr : B ≤ g) : Below B a w' :=
  h.grown hg hB (fun k hk => by injection hk with hk; omega)
theorem below_dN {B : Nat} {a w : World} (h : Below B a w) (n : Nat) : Below B a (w.drewN n) := ⟨h.os, h.tape, h.output, h.size, h.block⟩
/-- a block that was just made, behind a call that makes memory alone -/
theorem cell_new {w w1 : World} {B : Nat} {cs : Array Value} {t : TypeId} (hb : Below B (w.alloc (.cells cs t)) w1) (hB : w.heap.size < B) (i : Nat) : w1.cell? ⟨w.heap.size, i, none⟩ = cs[i]? :=
  (hb.cell (p := ⟨w.heap.size, i, none⟩) hB).trans ((Bk.new w t cs).cell i)
end Go.Proofs.YtfndlifolohlgaaDoor
