/-
  The walk of EncodeImportAttributes: a map that holds what a table holds is written as that table's bytes, key by key in rising order.
  Conditions: the map lies below the heap's size and holds what the table T holds, T by rising keys; T holds at most 2^20 pairs and 2^20 bytes.
-/
import Derived.Test.YtfndlifolohlgaaDoorKvA
import Derived.Test.YtfndlifolohlgaaDoorKvS
import Derived.Test.YtfndlifolohlgaaDoorBuild
import Derived.Maps.RangeWalk
import Derived.Maps.StringElems
import Derived.Sort.OwnSorted
import Derived.StillTailTactics
namespace Go.Proofs.YtfndlifolohlgaaDoor
open Go Go.RowKit Go.Maps Go.Sort Kv
set_option maxRecDepth 100000

theorem zero9 (w : World) : (zeroValue 9).run Tryd.prog w = .ok (.string ⟨#[]⟩) w := by kernel_rfl
theorem plain_empty : plainElem (H := Unit) Tryd.prog 9 (.string ⟨#[]⟩) = some (.lit (.string []), []) := by kernel_rfl
theorem info9 : (Tryd.prog.info? 9).map (fun i => (i.zero, i.size, i.bytes)) = some (some (.string ⟨#[]⟩), 1, 16) := by kernel_rfl
/-- as many keys as the table has pairs -/
theorem size_agr {w : World} {B n : Nat} {D : DataW Unit} {T : List KV} (hown : w.ownsMap Tryd.prog 9 (plainElem Tryd.prog 9) B n D) (h : Agr D T) (hT : Srt T) : Maps.size D = T.length := by
  obtain ⟨es, hD, hpw, _⟩ := hown.entries law9
  obtain ⟨es', hD', hko⟩ := hown.keysOf
  obtain rfl : es = es' := by rw [hD] at hD'; simpa using hD'
  have hp := perm_strKeys (H := Unit) hpw (fun p hp => by obtain ⟨v, hv⟩ := hko p hp; obtain ⟨x, _, hx, _⟩ := Maps.keyOf_str Tryd.underlying9 hv; exact ⟨x, hx⟩)
    (ss := T.map Prod.fst) (List.pairwise_map.2 (srt_apart hT)) (fun x => by rw [← lk_some, ← (h x).1, hD])
  have := hp.length_eq
  rw [hD]
  simpa [strKeys, Maps.size] using this.symm
/-- 'm[k]' at elements that are strings -/
theorem wpList_lookup_str (w : World) {ops : Array Oper} {rest : List Oper} {o : Oper} {a : Act} {Q : Exit → Act → World → Prop}
    (hg : o.guard = none) (m x : Operand) (hop : o.op = Op.lookup 92 m x false) (b n : Nat) (D : DataW Unit) (hm : a.eval m = .map (some b))
    (hown : w.ownsMap Tryd.prog 9 (plainElem Tryd.prog 9) b n D) (key : Value) (kl : Lit) (hx : a.eval x = key) (hkey : keyOf Tryd.prog 9 key = some kl) (v : Bs) (hat : D.atKey kl (.lit (.string [])) = .lit (.string v))
    (hK : wpList Tryd.prog ops Q rest (a.put o.dst (.string ⟨v.toArray⟩)) w) :
    wpList Tryd.prog ops Q (o :: rest) a w := by
  refine wpList_plain hg fun K' hK' => ?_
  obtain ⟨u, ps, hrun, hr⟩ := hown.lookup law9 Tryd.underlying92 (zero9 w) plain_empty hkey
  obtain ⟨s, rfl, hs, _⟩ := plainElem_string_inv Tryd.underlying9 hr
  rw [hat] at hs
  injection hs with hs _
  injection hs with hs
  injection hs with hs
  have : s = ⟨v.toArray⟩ := by rw [hs]
  subst this
  unfold Oper.wp
  simp [execOp, hop, hm, hx, hrun, Result.andThen]
  exact hK' _ _ hK

/-! ### what stays -/
theorem ownsMap_at {w w' : World} {b n : Nat} {D : DataW Unit} (h : w.ownsMap Tryd.prog 9 (plainElem Tryd.prog 9) b n D) (hb : ∀ o, w.heap[b]? = some o → w'.heap[b]? = some o) : w'.ownsMap Tryd.prog 9 (plainElem Tryd.prog 9) b n D := by
  obtain ⟨es, clock, hh, r⟩ := h
  exact ⟨es, clock, hb _ hh, r⟩
theorem ownsRow_at {w w' : World} {base e size n g c : Nat} {xs : List Value} (h : w.ownsRow base e size (.slice (some ⟨g, 0, none⟩) n c) n xs) (hb : ∀ o, w.heap[g]? = some o → w'.heap[g]? = some o) : w'.ownsRow base e size (.slice (some ⟨g, 0, none⟩) n c) n xs := by
  refine ⟨h.1, ?_⟩
  rcases h.2 with ⟨hv, _⟩ | ⟨g', cap, cur, hv, h1, hh, r⟩
  · cases hv
  · have : g' = g := by simp only [Value.slice.injEq, Option.some.injEq, Addr.mk.injEq] at hv; exact hv.1.1.symm
    subst this
    exact .inr ⟨g', cap, cur, hv, h1, hb _ hh, r⟩
/-- the state of the writing loop: the map, the keys' row, the result's block, the builder in block b, the four bytes in block b + 1 -/
def ESt (w : World) (B n : Nat) (D : DataW Unit) (g rc b : Nat) (T : List KV) (bs : List Value) (wr : World) : Prop :=
  wr.ownsMap Tryd.prog 9 (plainElem Tryd.prog 9) B n D ∧ wr.ownsRow w.heap.size 9 1 (.slice (some ⟨g, 0, none⟩) T.length rc) T.length ((T.map Prod.fst).map encStr) ∧
  Bk wr w.heap.size 63 #[.string ⟨#[]⟩] ∧ (∃ x0 x1 x2 x3, Bk wr (b + 1) 109 #[x0, x1, x2, x3]) ∧ Lib.IsBuilder 108 5 b b bs wr ∧ Below w.heap.size w wr ∧ w.heap.size < b
theorem row_g {w : World} {base e size n g c : Nat} {xs : List Value} (h : w.ownsRow base e size (.slice (some ⟨g, 0, none⟩) n c) n xs) : ∃ cur, w.heap[g]? = some (.cells cur e (0, 0)) := by
  rcases h.2 with ⟨hv, _⟩ | ⟨g', cap, cur, hv, h1, hh, r⟩
  · cases hv
  · have : g' = g := by simp only [Value.slice.injEq, Option.some.injEq, Addr.mk.injEq] at hv; exact hv.1.1.symm
    subst this
    exact ⟨cur, hh⟩
/-- a writing call of the builder's -/
theorem ESt.write {w wr wr' : World} {B n g rc b : Nat} {D : DataW Unit} {T : List KV} {bs bs' : List Value} (h : ESt w B n D g rc b T bs wr) (hw : BWr b b bs' wr wr') : ESt w B n D g rc b T bs' wr' := by
  obtain ⟨h1, h2, h3, ⟨x0, x1, x2, x3, h4⟩, h5, h6, h7⟩ := h
  obtain ⟨k1, k2, k3⟩ := hw
  obtain ⟨cur, hcur⟩ := row_g h2
  have hbb : ∃ c, wr.heap[b]? = some (.cells c 108 (0, 0)) := by
    rcases h5 with h5 | h5 <;> exact ⟨_, h5.2.choose_spec.1⟩
  obtain ⟨cb, hcb⟩ := hbb
  refine ⟨ownsMap_at h1 fun o ho => ?_, ownsRow_at h2 fun o ho => ?_, ?_, ⟨x0, x1, x2, x3, ?_⟩, .inr k1, h6.trans (k2.mono (Nat.le_of_lt h7)), h7⟩
  · obtain ⟨es, clock, hb, _⟩ := h1
    rw [hb] at ho
    injection ho with ho
    subst ho
    exact k3 B _ hb (fun e => by injection e with e; subst e; rw [hb] at hcb; cases hcb) (fun c fz e => by cases e)
  · rw [hcur] at ho
    injection ho with ho
    subst ho
    exact k3 g _ hcur (fun e => by injection e with e; subst e; rw [hcur] at hcb; injection hcb with hcb; injection hcb with _ hcb; exact absurd hcb (by decide)) (fun c fz e => by injection e with _ e; exact absurd e (by decide))
  · exact k3 _ _ h3 (fun e => by injection e with e; rw [e] at h3; unfold Bk at h3; rw [h3] at hcb; injection hcb with hcb; injection hcb with _ hcb; exact absurd hcb (by decide)) (fun c fz e => by injection e with _ e; exact absurd e (by decide))
  · exact k3 _ _ h4 (fun e => by injection e with e; omega) (fun c fz e => by injection e with _ e; exact absurd e (by decide))
/-- the four bytes are laid -/
theorem ESt.put {w wr : World} {B n g rc b : Nat} {D : DataW Unit} {T : List KV} {bs : List Value} (h : ESt w B n D g rc b T bs wr) (v : Nat) :
    ESt w B n D g rc b T bs ((wr.drew.alloc (.cells #[] 111)).setCells (b + 1) 0 (Lib.byteCells (Lib.leBytes 4 v))) ∧
      Bk ((wr.drew.alloc (.cells #[] 111)).setCells (b + 1) 0 (Lib.byteCells (Lib.leBytes 4 v))) (b + 1) 109 (Lib.byteCells (Lib.leBytes 4 v)).toArray := by
  obtain ⟨h1, h2, h3, ⟨x0, x1, x2, x3, h4⟩, h5, h6, h7⟩ := h
  obtain ⟨c0, c1, c2, c3, hc⟩ : ∃ c0 c1 c2 c3, Lib.byteCells (Lib.leBytes 4 v) = [c0, c1, c2, c3] := ⟨_, _, _, _, rfl⟩
  rw [hc]
  have hbk : Bk ((wr.drew.alloc (.cells #[] 111)).setCells (b + 1) 0 [c0, c1, c2, c3]) (b + 1) 109 #[c0, c1, c2, c3] := ((((Bk.alloc (w := wr.drew) h4 _).put 0 c0).put 1 c1).put 2 c2).put 3 c3
  have hgb : wr.grownBy ((wr.drew.alloc (.cells #[] 111)).setCells (b + 1) 0 [c0, c1, c2, c3]) (some (b + 1)) := by
    have g0 : wr.grownBy (wr.drew.alloc (.cells #[] 111)) (some (b + 1)) := gb_trans (gb_drew (gb_below (Below.refl _ _))) (gb_alloc _ _ _)
    exact gb_trans (gb_trans (gb_trans (gb_trans g0 (gb_set _ _ 0 c0)) (gb_set _ _ 1 c1)) (gb_set _ _ 2 c2)) (gb_set _ _ 3 c3)
  refine ⟨⟨h1.kept hgb (fun e => ?_), h2.kept hgb (.inr (own_ne h2 h4 (by decide))), h3.grown hgb (fun e => by injection e with e; omega), ⟨_, _, _, _, hbk⟩, ?_, below_gb h6 hgb h6.size (by omega), h7⟩, hbk⟩
  · injection e with e
    obtain ⟨es, clock, hb, _⟩ := h1
    unfold Bk at h4
    rw [← e, hb] at h4
    cases h4
  · have hB : ∀ p, Lib.BuilderAt 108 5 b b p bs wr → Lib.BuilderAt 108 5 b b p bs ((wr.drew.alloc (.cells #[] 111)).setCells (b + 1) 0 [c0, c1, c2, c3]) := fun p hp => by
      obtain ⟨q1, vv, q2, q3, q4⟩ := hp
      exact ⟨q1, vv, Bk.grown (t := 108) q2 hgb (fun e => by injection e with e; omega), q3.kept hgb (.inr (own_ne q3 h4 (by decide))), q4⟩
    rcases h5 with h5 | h5
    · exact .inl (hB _ h5)
    · exact .inr (hB _ h5)

attribute [local irreducible] Go.wpStill
theorem u32_in {n : Nat} (h : n < 4294967296) : IntKind.u32.wrap (n : Int) = n := by
  simp [IntKind.wrap, IntKind.bits, IntKind.signed]
  omega
theorem bc_one (l : List UInt8) : ∀ v ∈ Lib.byteCells l, v.oneCell' = true := by
  intro v hv
  obtain ⟨b, _, rfl⟩ := List.mem_map.1 hv
  rfl
theorem sc_arr (l : List UInt8) : Lib.strCells ⟨l.toArray⟩ = Lib.byteCells l := rfl
theorem le_room {n : Nat} (h : n ≤ 33554432) : n + 4 ≤ 140737488355328 := by omega
set_option maxHeartbeats 4000000 in
theorem encode_some (B n : Nat) (D : DataW Unit) (T : List KV) (w : World) (hown : w.ownsMap Tryd.prog 9 (plainElem Tryd.prog 9) B n D) (hagr : Agr D T) (hT : Srt T) (h0 : 0 < T.length) (hl : T.length ≤ 1048576) (hz : sz T ≤ 1048576) :
    Calls Tryd.prog 40 #[.map (some B)] w fun e w' => e = .returned (.agg #[.string ⟨(enc T).toArray⟩]) ∧ Below w.heap.size w w' := by
  obtain ⟨i0, hi, hz0, hz1, hz2⟩ := info_parts info9
  have hsize := size_agr hown hagr hT
  have hbl := hown.lt
  have hmax : Maps.size D ≤ maxLen := by rw [hsize]; unfold maxLen; omega
  have hby : i0.bytes * Maps.size D ≤ 281474976710656 := by rw [hz2, hsize]; omega
  have hpos : (0 : Int) < (Maps.size D : Nat) := by omega
  have hsD : Maps.size D ≤ 1048576 := by omega
  have HAG := Lib.hid (And.intro hagr (And.intro hT hsize))
  have HOW := Lib.hid hown
  clear hagr hT hsize
  generalize hwR : w.alloc (.cells #[.string ⟨#[]⟩] 63) = wR
  have hownR : wR.ownsMap Tryd.prog 9 (plainElem Tryd.prog 9) B n D := by rw [← hwR]; exact hown.alloc _
  have hbR : Below w.heap.size w wR := by rw [← hwR]; exact (Below.refl _ _).alloc (Nat.le_refl _) _
  have hkR : Bk wR w.heap.size 63 #[.string ⟨#[]⟩] := by rw [← hwR]; exact Bk.new w 63 _
  have HWR := Lib.hid (And.intro hbR hkR)
  have hszR : w.heap.size ≤ wR.heap.size := hbR.size
  have hne0 : (((Maps.size D : Nat) : Int) == 0) = false := by simp; omega
  clear hbR hkR hown
  go_enter Tryd.func40, Tryd.ntmps40
  go_wp2_with (first
    | (at_len; refine wpList_len_own _ rfl _ 92 rfl 9 9 Tryd.underlying92 _ B n _ rfl hownR ?_)
    | (at_make; refine wpList_make_own _ rfl _ _ 103 rfl w.heap.size 9 i0 (.string ⟨#[]⟩) 1 Tryd.underlying103 hi hz0 hz1 _ _ _ (Maps.size D) rfl rfl rfl hby hmax hszR ?_; intro w1 hrow1 hg1)
    | (at_range; refine wpList_range_own _ rfl _ 92 rfl 9 9 law9 Tryd.underlying92 _ B n _ rfl (hownR.kept hg1 (by simp)) ?_; intro w0 hrg0 hg0 hs0))
  go_frame
  have hbR1 : Below w.heap.size w w0 := ((HWR.out.1).grown hg1 hszR (fun j hj => by cases hj)).grown hg0 (Nat.le_trans hszR hg1.size) (fun j hj => by cases hj)
  have hk0 : Bk w0 w.heap.size 63 #[.string ⟨#[]⟩] := (HWR.out.2.grown hg1 (by simp)).grown hg0 (by simp)
  have hrow0 := hrow1.kept hg0 (Or.inr (by simp [Value.ownBlock]))
  have hs1 : w.heap.size < w1.heap.size := Nat.lt_of_lt_of_le HWR.out.2.lt hg1.size
  have HST := Lib.hid (And.intro hrg0 (And.intro hrow0 (And.intro hbR1 hk0)))
  clear hrg0 hrow0 hbR1 hk0 hrow1 hg0 hs0 hg1 hownR hwR
  go_loopw [3] (fun v wr => ∃ (left : Lit → Bool) (cnt : Nat) (ss : List (List UInt8)), Hid (wr.ranges Tryd.prog 9 (plainElem Tryd.prog 9) B w1.heap.size n D left cnt ∧ wr.ownsRow w.heap.size 9 1 v ss.length (ss.map encStr) ∧ Collected D left ss ∧ Below w.heap.size w wr ∧ Bk wr w.heap.size 63 #[.string ⟨#[]⟩]) ∧ ss.length + cnt ≤ Maps.size D ∧ v ≠ .slice none 0 0)
    (fun _ wr => wr.rangeLeft B w1.heap.size)
  case atStart =>
    exact ⟨_, _, [], ⟨HST.out.1, HST.out.2.1, Collected.start D, HST.out.2.2.1, HST.out.2.2.2⟩, by simp, by simp⟩
  case round =>
    obtain ⟨left, cnt, ss, HRL, hcs, hnn⟩ := hrel
    obtain ⟨hrg, hrow, hC, hnx, hkR⟩ := HRL.out
    go_wp2_with (at_next; refine wpList_next_ranges _ rfl _ rfl 9 law9 (plainElem Tryd.prog 9) encStr (fun c : ByteArray => Value.string c) (fun key kl hk => by obtain ⟨x, hx, _⟩ := Maps.keyOf_str Tryd.underlying9 hk; exact ⟨x, hx⟩) (fun v y hv => by obtain ⟨c, rfl, _⟩ := plainElem_string_inv Tryd.underlying9 hv; exact ⟨c, rfl⟩) B w1.heap.size n _ _ _ rfl hrg ?_ ?_)
    · intro hc0 hl0
      rcases hrow.2 with ⟨hnil, _⟩ | ⟨g, rc, cur, hv3, hbase, hb, q1, q2, q3, q4⟩
      · exact absurd hnil hnn
      subst hv3
      have hH : Holds encStr wr g 0 ss.toArray := holds_of_block hb (by simpa using q4)
      have hgl : g < wr.heap.size := (Array.getElem?_eq_some_iff.1 hb).1
      have hpm : ss.Perm (T.map Prod.fst) := keys_perm' HAG.out.1 HAG.out.2.1 hC.1 (fun x => by rw [hC.2 x, hl0]; simp)
      have hsl : ss.length = T.length := by simpa using hpm.length_eq
      have hsort := sort_keys HAG.out.2.1 hpm
      have hc := Tryd.sort_Strings g 0 rc ss wr hH hgl (by omega)
      have hownS := fun nn os => ownsRow_sorted (n := nn) (os := os) (ts := ss.mergeSort fun x y => decide (x ≤ y)) (by simp) hbase hb q1 q2 q3
      have hgS := fun nn os => grownBy_sorted (w := wr) (g := g) (n := nn) (os := os) (ss.mergeSort fun x y => decide (x ≤ y)).toArray
      have hownM := hrg.owns
      have hgB : g ≠ B := by omega
      have HCC := Lib.hid hc
      have HSL := Lib.hid hsl
      have HSS := Lib.hid (And.intro hownS (And.intro hgS (And.intro hownM (And.intro hnx (And.intro hkR (And.intro hsort (own_ne hrow hkR (by decide))))))))
      clear hsl hH hpm hsort hc hownS hgS hownM hrg hrow hC hnx hkR HRL hb q1 q2 q3 q4
      go_wp2_with fail
      refine HCC.out.mono ?_
      rintro e w4 ⟨rfl, nn, os, hw4⟩
      have hown4 := HSS.out.1 nn os
      have hg4 := HSS.out.2.1 nn os
      rw [← hw4] at hown4 hg4
      rw [HSS.out.2.2.2.2.2.1, HSL.out] at hown4
      have hM4 := HSS.out.2.2.1.kept hg4 (fun e => hgB (by injection e with e; exact e.symm))
      have hb4 := HSS.out.2.2.2.1.grown hg4 HSS.out.2.2.2.1.size (fun j hj => by injection hj with hj; omega)
      have hk4 := HSS.out.2.2.2.2.1.grown hg4 (fun e => HSS.out.2.2.2.2.2.2 e.symm)
      have HX4 := Lib.hid (And.intro hown4 (And.intro hM4 (And.intro hb4 hk4)))
      rw [HSL.out]
      clear hown4 hg4 hM4 hb4 hk4 HSS HCC hw4
      go_wp2
      generalize hwb : World.alloc (World.alloc w4 _) _ = wb
      have hst0 : ESt w B n D g rc w4.heap.size T [] wb := by
        obtain ⟨y1, y2, y3, y4⟩ := HX4.out
        rw [← hwb]
        refine ⟨(y2.alloc _).alloc _, (y1.alloc _).alloc _, (y4.alloc _).alloc _, ⟨.int .u8 0, .int .u8 0, .int .u8 0, .int .u8 0, ?_⟩, .inl ⟨Nat.le_refl _, .slice none 0 0, ?_, World.ownsRow_nil _ _ _ _, by simp [Value.ownBlock]⟩, (y3.alloc y3.size _).alloc (by simp; have := y3.size; omega) _, y4.lt⟩
        · have := Bk.new (w4.alloc (.cells #[.pointer none, .slice none 0 0] 108)) 109 #[.int .u8 0, .int .u8 0, .int .u8 0, .int .u8 0]
          simpa using this
        · exact (Bk.new w4 108 #[.pointer none, .slice none 0 0]).alloc _
      have HE0 := Lib.hid hst0
      clear hst0 hwb HX4
      generalize w4.heap.size = b at *
      go_loopw [31] (fun i wr => ∃ k : Nat, i = .int .i64 k ∧ k ≤ T.length ∧ Hid (ESt w B n D g rc b T (Lib.byteCells (enc (T.take k))) wr)) (fun i _ => T.length - (intOf i).toNat)
      case atStart => exact ⟨0, rfl, Nat.zero_le _, HE0.out⟩
      case round =>
        obtain ⟨k, rfl, hk, HS⟩ := hrel
        by_cases hlt : k < T.length
        · have hcell : wr.cell? ⟨g, k, none⟩ = some (sv (T.getD k ([], [])).1) := by
            rw [HS.out.2.1.cellAt k (by omega)]
            simp [List.getD, hlt, sv]
          have hmem : T.getD k ([], []) ∈ T := by simp [List.getD, hlt]
          have hpm := sz_mem hmem
          have hlk : lk (T.getD k ([], [])).1 T = some (T.getD k ([], [])).2 := mem_lk (srt_apart HAG.out.2.1) hmem
          have hat : D.atKey (.string (T.getD k ([], [])).1) (.lit (.string [])) = .lit (.string (T.getD k ([], [])).2) := by
            rw [(HAG.out.1 _).2, hlk]
          have hencs : enc (T.take (k + 1)) = enc (T.take k) ++ (Kv.one (T.getD k ([], [])).1 ++ Kv.one (T.getD k ([], [])).2) := by
            unfold enc
            rw [List.take_succ_eq_append_getElem hlt, List.flatMap_append]
            simp [List.getD, hlt]
          have hel : (enc (T.take k)).length ≤ 16777216 := by
            have h1 := enc_len T
            have h2 : (enc (T.take k)).length ≤ (enc T).length := by
              have : enc T = enc (T.take k) ++ enc (T.drop k) := by unfold enc; rw [← List.flatMap_append, List.take_append_drop]
              rw [this, List.length_append]; omega
            omega
          generalize (T.getD k ([], [])).1 = x at *
          generalize (T.getD k ([], [])).2 = v at *
          have hkey : keyOf Tryd.prog 9 (.string ⟨x.toArray⟩) = some (.string x) := by
            have := WideMaps.keyOf_string_mk (P := Tryd.prog) (k := 9) Tryd.underlying9 (s := ⟨x.toArray⟩) (by show x.length ≤ maxLen; unfold maxLen; omega)
            simpa using this
          unfold sv at hcell
          have hxs : ByteArray.size ⟨x.toArray⟩ = x.length := rfl
          have hvs : ByteArray.size ⟨v.toArray⟩ = v.length := rfl
          have HK := Lib.hid (And.intro hkey (And.intro hat hencs))
          clear hkey hat hencs hlk hmem
          generalize hxg : (⟨x.toArray⟩ : ByteArray) = xs at *
          generalize hvg : (⟨v.toArray⟩ : ByteArray) = vs at *
          have HXV := Lib.hid (And.intro hxg hvg)
          clear hxg hvg
          have hx32 : IntKind.u32.wrap (x.length : Int) = x.length := u32_in (by omega)
          have hv32 : IntKind.u32.wrap (v.length : Int) = v.length := u32_in (by omega)
          have HLO : Hid (D.atKey (.string x) (.lit (.string [])) = .lit (.string v)) := HK.out.2.1
          go_wp2_with (at_lookup; refine wpList_lookup_str _ rfl _ _ rfl B n D rfl HS.out.1 _ _ rfl HK.out.1 v HLO.out ?_; rw [HXV.out.2])
          go_still_tail 5, (by kernel_rfl)
          change wpList _ _ _ _ _ wr.drew
          obtain ⟨x01, x11, x21, x31, hq1⟩ := HS.out.2.2.2.1
          have hd1 : Bk wr.drew (b + 1) 109 #[x01, x11, x21, x31] := hq1
          have HP1 := Lib.hid (And.intro (HS.out.put x.length).1 (HS.out.put x.length).2)
          have HC1 := Lib.hid (Tryd.binary_LE_PutUint32 (b + 1) 0 4 4 x.length (by omega) x01 x11 x21 x31 wr.drew (by omega) (hd1.cell 0) (hd1.cell 1) (hd1.cell 2) (hd1.cell 3) (hd1.free 0) (hd1.free 1) (hd1.free 2) (hd1.free 3))
          clear hd1 hq1 HS
          go_wp2_with fail
          refine HC1.out.mono ?_
          rintro e wq1 ⟨rfl, hwq1⟩
          have HQ1 := Lib.hid (And.intro HP1.out.1 HP1.out.2)
          rw [← hwq1] at HQ1
          clear hwq1 HC1 HP1
          have hblt1 : b ≤ wq1.heap.size := by
            rcases HQ1.out.1.2.2.2.2.1 with y5 | y5 <;> exact Nat.le_of_lt y5.lt
          have hbs1 : (Lib.byteCells (enc (T.take k)) : List Value).length ≤ 33554432 := by
            simp only [Lib.byteCells_length]
            omega
          have HW1 := Lib.hid (bwrite b b (b + 1) _ _ 109 wq1 HQ1.out.1.2.2.2.2.1 HQ1.out.2 (by decide) (by omega) (fun u hu => bc_one _ u (by simpa using hu)) rfl (le_room hbs1) hblt1)
          go_wp2_with fail
          refine HW1.out.mono ?_
          rintro e wr1 ⟨rfl, hwr1⟩
          have HR1 := Lib.hid (HQ1.out.1.write hwr1)
          clear hwr1 HW1 HQ1 hblt1
          have hblt1' : b ≤ wr1.heap.size := by
            rcases HR1.out.2.2.2.2.1 with y5 | y5 <;> exact Nat.le_of_lt y5.lt
          have HW1 := Lib.hid (bwriteString b b _ xs wr1 HR1.out.2.2.2.2.1 (by simp only [List.length_append, Lib.byteCells_length, Lib.leBytes_length]; omega) hblt1')
          go_wp2_with fail
          refine HW1.out.mono ?_
          rintro e wz ⟨rfl, hwr1⟩
          have HS1 := Lib.hid (HR1.out.write hwr1)
          clear hwr1 HW1 HR1 hblt1' hbs1
          go_wp2_with fail
          go_still_tail 5, (by kernel_rfl)
          change wpList _ _ _ _ _ wz.drew
          obtain ⟨x02, x12, x22, x32, hq2⟩ := HS1.out.2.2.2.1
          have hd2 : Bk wz.drew (b + 1) 109 #[x02, x12, x22, x32] := hq2
          have HP2 := Lib.hid (And.intro (HS1.out.put v.length).1 (HS1.out.put v.length).2)
          have HC2 := Lib.hid (Tryd.binary_LE_PutUint32 (b + 1) 0 4 4 v.length (by omega) x02 x12 x22 x32 wz.drew (by omega) (hd2.cell 0) (hd2.cell 1) (hd2.cell 2) (hd2.cell 3) (hd2.free 0) (hd2.free 1) (hd2.free 2) (hd2.free 3))
          clear hd2 hq2 HS1
          go_wp2_with fail
          refine HC2.out.mono ?_
          rintro e wq2 ⟨rfl, hwq2⟩
          have HQ2 := Lib.hid (And.intro HP2.out.1 HP2.out.2)
          rw [← hwq2] at HQ2
          clear hwq2 HC2 HP2
          have hblt2 : b ≤ wq2.heap.size := by
            rcases HQ2.out.1.2.2.2.2.1 with y5 | y5 <;> exact Nat.le_of_lt y5.lt
          have hbs2 : (Lib.byteCells (enc (T.take k)) ++ (Lib.byteCells (Lib.leBytes 4 x.length)).toArray.toList ++ Lib.strCells xs : List Value).length ≤ 33554432 := by
            simp only [List.length_append, Lib.byteCells_length, Lib.strCells_length, Lib.leBytes_length]
            omega
          have HW2 := Lib.hid (bwrite b b (b + 1) _ _ 109 wq2 HQ2.out.1.2.2.2.2.1 HQ2.out.2 (by decide) (by omega) (fun u hu => bc_one _ u (by simpa using hu)) rfl (le_room hbs2) hblt2)
          go_wp2_with fail
          refine HW2.out.mono ?_
          rintro e wr2 ⟨rfl, hwr2⟩
          have HR2 := Lib.hid (HQ2.out.1.write hwr2)
          clear hwr2 HW2 HQ2 hblt2
          have hblt2' : b ≤ wr2.heap.size := by
            rcases HR2.out.2.2.2.2.1 with y5 | y5 <;> exact Nat.le_of_lt y5.lt
          have HW2 := Lib.hid (bwriteString b b _ vs wr2 HR2.out.2.2.2.2.1 (by simp only [List.length_append, Lib.byteCells_length, Lib.strCells_length, Lib.leBytes_length]; omega) hblt2')
          go_wp2_with fail
          refine HW2.out.mono ?_
          rintro e wy ⟨rfl, hwr2⟩
          have HS2 := Lib.hid (HR2.out.write hwr2)
          clear hwr2 HW2 HR2 hblt2' hbs2
          have HF : Hid (ESt w B n D g rc b T (Lib.byteCells (enc (T.take (k + 1)))) wy) := by
            have h := HS2.out
            have e1 : Lib.byteCells (enc (T.take (k + 1))) = Lib.byteCells (enc (T.take k)) ++ (Lib.byteCells (Lib.leBytes 4 x.length)).toArray.toList ++ Lib.strCells xs ++ (Lib.byteCells (Lib.leBytes 4 v.length)).toArray.toList ++ Lib.strCells vs := by
              rw [HK.out.2.2, ← HXV.out.1, ← HXV.out.2, sc_arr, sc_arr]
              unfold Kv.one
              simp [Lib.byteCells_append]
            rw [e1]
            exact h
          clear HS2
          go_wp2
          go_roundw
          case rel => exact ⟨k + 1, by go_num, by omega, HF⟩
          case measure => simp [intOf]; omega
        · obtain rfl : k = T.length := by omega
          have hE := HS.out
          rw [List.take_of_length_le (Nat.le_refl _)] at hE
          obtain ⟨y1, y2, y3, y4, y5, y6, y7⟩ := hE
          have hbw : b ≤ wr.heap.size := by
            rcases y5 with y5 | y5 <;> exact Nat.le_of_lt y5.lt
          have HSt := Lib.hid (Tryd.Builder_String_any b b (enc T) wr y5 hbw)
          have HY := Lib.hid (And.intro y3 y6)
          clear y1 y2 y3 y4 y5 y6 HS
          go_wp2_with fail
          refine HSt.out.mono ?_
          rintro e w5 ⟨rfl, hb5⟩
          have hk5 := HY.out.1.below hb5 y7
          have hb6 := HY.out.2.trans (hb5.mono (Nat.le_of_lt y7))
          have c5 : w5.cell? ⟨w.heap.size, 0, none⟩ = some (.string ⟨#[]⟩) := hk5.cell 0
          have f5 : w5.frozen? ⟨w.heap.size, 0, none⟩ = false := hk5.free 0
          have hk6 := hk5.put 0 (.string ⟨(enc T).toArray⟩)
          have c6 : (w5.setCell ⟨w.heap.size, 0, none⟩ (.string ⟨(enc T).toArray⟩)).cell? ⟨w.heap.size, 0, none⟩ = some (.string ⟨(enc T).toArray⟩) := hk6.cell 0
          have HB6 := Lib.hid (hb6.setCell (p := ⟨w.heap.size, 0, none⟩) (Nat.le_refl _) (.string ⟨(enc T).toArray⟩))
          clear hk5 hb5 hb6 hk6 HY HSt
          generalize hes : (⟨(enc T).toArray⟩ : ByteArray) = es at *
          have HES := Lib.hid hes
          clear hes
          go_wp2
          exact bodyPost_ret (v := .agg #[.string es]) (by simp [results, Tryd.results40, go_sem, c6]) rfl ⟨by rw [HES.out], HB6.out⟩
    · intro x c kl yd yp w2 cnt2 hkey hlk hv hat hrg2 hlt hg2 hs2 hen
      obtain ⟨x', ex, rfl, _⟩ := Maps.keyOf_str Tryd.underlying9 hkey
      obtain rfl : x = x' := encStr_inj ex
      have hrow2 := hrow.kept hg2 (Or.inr (row_ne_iter hrow hrg).symm)
      have hk2 := hkR.grown hg2 (fun e => by injection e with e; omega)
      have hz2' : w.heap.size ≤ w2.heap.size := Nat.le_trans hnx.size hg2.size
      have hnx2 := hnx.grown hg2 hnx.size (fun j hj => by injection hj with hj; omega)
      clear hs2
      go_wp2_with (at_builtin; refine wpList_append_own _ rfl _ _ 103 rfl w.heap.size 9 i0 (.string ⟨#[]⟩) 1 16 Tryd.underlying103 hi hz0 hz1 hz2 rfl (by decide) _ _ _ rfl (hrow2.alloc _) ⟨w2.heap.size, 0, none⟩ 1 1 [encStr x] rfl rfl (cell_one_new _ _ _) (by simp [Value.oneCell', encStr]) (by unfold maxLen at *; omega) (by omega) (by simp; omega) ?_; intro v' w3 hown' hg3 hnil3)
      have hrg3 := (hrg2.alloc _).kept hg3 (row_ne_low hrow2 hbl) (row_ne_iter hrow2 hrg2)
      have hk3 := (hk2.alloc _).grown hg3 (own_ne hrow2 hk2 (by decide)).symm
      have hnx3 := (hnx2.alloc hz2' _).grown hg3 (by simp; omega) (fun j hj => (hrow2.lt j hj).1)
      have HF := Lib.hid (And.intro hrg3 (And.intro (show w3.ownsRow w.heap.size 9 1 v' (ss ++ [x]).length ((ss ++ [x]).map encStr) by simpa using hown') (And.intro (hC.step hlk hat) (And.intro hnx3 hk3))))
      have hme : w3.rangeLeft B w1.heap.size < wr.rangeLeft B w1.heap.size := by rw [hrg3.left_eq, hrg.left_eq]; exact hlt
      go_roundw
      case rel => exact ⟨_, cnt2, ss ++ [x], HF, by simp; omega, fun hv' => by have := (hnil3.1 hv').2; omega⟩
      case measure => exact hme
set_option maxHeartbeats 800000 in
theorem encode_none (B n : Nat) (D : DataW Unit) (w : World) (hown : w.ownsMap Tryd.prog 9 (plainElem Tryd.prog 9) B n D) (hagr : Agr D []) :
    Calls Tryd.prog 40 #[.map (some B)] w fun e w' => e = .returned (.agg #[.string ⟨#[]⟩]) ∧ Below w.heap.size w w' := by
  have hsize : Maps.size D = 0 := size_agr hown hagr List.Pairwise.nil
  have hb0 : (((Maps.size D : Nat) : Int) == 0) = true := by rw [hsize]; rfl
  clear hsize
  go_enter Tryd.func40, Tryd.ntmps40
  go_wp2_with (at_len; refine wpList_len_own _ rfl _ 92 rfl 9 9 Tryd.underlying92 _ B n _ rfl (hown.alloc _) ?_)
  exact bodyPost_ret (v := .agg #[.string ⟨#[]⟩]) (by simp [results, Tryd.results40, go_sem]) rfl ⟨rfl, (Below.refl _ _).alloc (Nat.le_refl _) _⟩
/-- EncodeImportAttributes -/
theorem encode_any (B n : Nat) (T : List KV) (w : World) (hM : MpI w B n T) (hT : Srt T) (hl : T.length ≤ 1048576) (hz : sz T ≤ 1048576) :
    Calls Tryd.prog 40 #[.map (some B)] w fun e w' => e = .returned (.agg #[.string ⟨(enc T).toArray⟩]) ∧ Below w.heap.size w w' := by
  obtain ⟨D, hown, hagr⟩ := hM
  rcases Nat.eq_zero_or_pos T.length with h0 | h0
  · have : T = [] := List.eq_nil_of_length_eq_zero h0
    subst this
    exact encode_none B n D w hown hagr
  · exact encode_some B n D T w hown hagr hT h0 hl hz
end Go.Proofs.YtfndlifolohlgaaDoor
