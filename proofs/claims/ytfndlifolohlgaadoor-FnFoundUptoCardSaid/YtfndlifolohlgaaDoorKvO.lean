/-
  A slice of pairs of strings, as a row reads it, in the words of the tables' walks; how much it holds. No walk stands here.
-/
import Derived.Test.YtfndlifolohlgaaDoorKvA
import Derived.Test.YtfndlifolohlgaaDoorOpen
import Derived.Test.YtfndlifolohlgaaDoorBulk
namespace Go.Proofs.YtfndlifolohlgaaDoor
open Go Go.RowKit Kv

def kvOf (ps : List (ByteArray × ByteArray)) : List KV := ps.map fun p => (p.1.data.toList, p.2.data.toList)
theorem pairs_qrd {w : World} {B n : Nat} {ao : Option Addr} {ps : List (ByteArray × ByteArray)} (h : PrRd w B ao n ps) : QRd w B ao n (kvOf ps) := by
  refine ⟨by simpa [kvOf] using h.1, fun hn => ?_⟩
  obtain ⟨b, off, e, hlt, hc⟩ := h.2 hn
  refine ⟨b, off, e, hlt, fun k hk => ?_⟩
  have hk' : k < ps.length := by rw [h.1]; exact hk
  obtain ⟨h1, h2⟩ := hc k hk
  simp only [List.getD, List.getElem?_eq_getElem hk', Option.getD_some] at h1 h2
  simp only [kvOf, List.getD, List.getElem?_map, List.getElem?_eq_getElem hk', Option.map_some, Option.getD_some, sv]
  exact ⟨h1, h2⟩
theorem pairs_held {H : Type} : ∀ ps : List (ByteArray × ByteArray), ps.length + sz (kvOf ps) ≤ Rows.uptoBulkAll (ps.map fun x => (DataW.agg [.lit (.string x.1.data.toList), .lit (.string x.2.data.toList)] : DataW H))
  | [] => by simp [kvOf, sz]
  | p :: r => by
    have ih := pairs_held (H := H) r
    have e : kvOf (p :: r) = (p.1.data.toList, p.2.data.toList) :: kvOf r := rfl
    rw [e, sz_cons, List.map_cons]
    simp only [Rows.uptoBulkAll, Rows.uptoBulk, List.length_cons]
    simp only [Array.length_toList] at *
    omega
theorem pairs_small {H : Type} {d : DataW H} {len cap : Nat} {ps : List (ByteArray × ByteArray)} (hl : ps.length = len)
    (h : (d = .nil ∧ len = 0 ∧ cap = 0) ∨ ∃ spare, d = .slice (ps.map fun x => .agg [.lit (.string x.1.data.toList), .lit (.string x.2.data.toList)]) spare ∧ len + spare.length = cap) : len + sz (kvOf ps) ≤ Rows.uptoBulk d := by
  rcases h with ⟨_, h0, _⟩ | ⟨spare, rfl, _⟩
  · rw [h0] at hl
    have : ps = [] := List.eq_nil_of_length_eq_zero hl
    subst this
    simp [kvOf, sz, h0]
  · have h1 := pairs_held (H := H) ps
    have h2 := bulks.slice_elems (ps.map fun x => (DataW.agg [.lit (.string x.1.data.toList), .lit (.string x.2.data.toList)] : DataW H)) spare
    omega
end Go.Proofs.YtfndlifolohlgaaDoor
