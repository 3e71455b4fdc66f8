/-
  The walk of spec.Table: a list of pairs goes into a table by rising keys.
  Conditions: the slice reads as the pairs qs and lies below the heap's size; at most 2^20 pairs.
-/
import Derived.Test.YtfndlifolohlgaaDoorKvA
import Derived.Laws.CopyRow
import Derived.Laws.OwnMore
import Derived.BigQuiet
import Derived.Maps.AppendAt
import Derived.StillTailTactics
namespace Go.Proofs.YtfndlifolohlgaaDoor
open Go Go.RowKit Go.Maps Kv
set_option maxRecDepth 100000

theorem kv_set (a m : Bs) : ∀ (T : List KV) (j : Nat), j < T.length → (T.getD j ([], [])).1 = a → (kvCells T).set (j * 2 + 1) (.string ⟨m.toArray⟩) = kvCells (T.take j ++ (a, m) :: T.drop (j + 1))
  | p :: r, 0, _, h => by
    have h' : p.1 = a := h
    show (sv p.1 :: sv p.2 :: kvCells r).set (0 * 2 + 1) _ = sv a :: sv m :: kvCells r
    rw [h']
    rfl
  | p :: r, j + 1, hj, h => by
    have ih := kv_set a m r j (by simpa using hj) h
    show (sv p.1 :: sv p.2 :: kvCells r).set ((j + 1) * 2 + 1) _ = sv p.1 :: sv p.2 :: kvCells (r.take j ++ (a, m) :: r.drop (j + 1))
    rw [← ih, show (j + 1) * 2 + 1 = j * 2 + 1 + 1 + 1 by omega]
    rfl
theorem kv_put (a m : Bs) (x y : Value) : ∀ (A B : List KV), ((kvCells A ++ (x :: y :: kvCells B)).set (A.length * 2) (sv a)).set (A.length * 2 + 1) (sv m) = kvCells (A ++ (a, m) :: B)
  | [], B => rfl
  | p :: r, B => by
    have ih := kv_put a m x y r B
    show ((sv p.1 :: sv p.2 :: (kvCells r ++ (x :: y :: kvCells B))).set ((r.length + 1) * 2) _).set ((r.length + 1) * 2 + 1) _ = sv p.1 :: sv p.2 :: kvCells (r ++ (a, m) :: B)
    rw [← ih, show (r.length + 1) * 2 = r.length * 2 + 1 + 1 by omega]
    rfl
/-- where a row that has grown lies -/
theorem own_new {w6 w7 : World} {base X n c : Nat} {e : TypeId} {ao : Option Addr} {v' : Value} {xs : List Value} {o : Obj} (h : w7.ownsRow base e 2 v' (n + 1) xs)
    (hloc : v'.ownBlock = (Value.slice ao n c).ownBlock ∨ v'.ownBlock = some (w6.alloc o).heap.size) (hlt : ∀ k, (Value.slice ao n c).ownBlock = some k → base ≤ k ∧ k < X) (hX : X + 1 = w6.heap.size) :
    ∃ g cap, v' = .slice (some ⟨g, 0, none⟩) (n + 1) cap ∧ n + 1 ≤ cap ∧ g ≠ X ∧ base ≤ g := by
  rcases h.2 with ⟨_, h0⟩ | ⟨g, cap, cur, rfl, hb, hh, h1, h2, h3, h4⟩
  · omega
  · refine ⟨g, cap, rfl, h1, ?_, hb⟩
    rcases hloc with h' | h'
    · have := (hlt g (h'.symm)).2; omega
    · simp only [Value.ownBlock, Option.some.injEq, World.size_alloc] at h'; omega
theorem news1 (w : World) (t : TypeId) (x y : Value) : ∀ j u, [x, y][j]? = some u → (w.alloc (.cells #[x, y] t)).cell? (Addr.add ⟨w.heap.size, 0, none⟩ j) = some u := by
  have hb := Bk.new w t #[x, y]
  intro j u hj
  rw [show (Addr.add ⟨w.heap.size, 0, none⟩ j) = ⟨w.heap.size, j, none⟩ by unfold Addr.add; split <;> simp_all, hb.cell j]
  simpa using hj
/-- where a pair goes in -/
theorem ins_at (k v : Bs) : ∀ (T : List KV) (i : Nat), i ≤ T.length → (∀ j, j < i → (T.getD j ([], [])).1 < k) → (i < T.length → ¬ (T.getD i ([], [])).1 < k) →
    ins k v T = T.take i ++ (k, v) :: T.drop (if i < T.length ∧ (T.getD i ([], [])).1 = k then i + 1 else i)
  | [], 0, _, _, _ => by simp [ins]
  | p :: r, 0, _, _, h => by
    have h0 : ¬ p.1 < k := h (by simp)
    rw [ins, if_neg h0]
    by_cases he : p.1 = k
    · simp [he]
    · simp [he]
  | p :: r, i + 1, hi, hl, h => by
    have h0 : p.1 < k := hl 0 (by omega)
    have ih := ins_at k v r i (by simpa using hi) (fun j hj => hl (j + 1) (by omega)) (fun hi' => h (by simpa using hi'))
    rw [ins, if_pos h0, ih]
    simp only [List.take_succ_cons, List.cons_append, List.length_cons, Nat.add_lt_add_iff_right, List.getD_cons_succ]
    by_cases hc : i < r.length ∧ (r.getD i ([], [])).1 = k
    · rw [if_pos hc, if_pos hc]; rfl
    · rw [if_neg hc, if_neg hc]; rfl
theorem kv_append (a b : List KV) : kvCells (a ++ b) = kvCells a ++ kvCells b := by simp [kvCells]
theorem kv_one (l : List KV) : ∀ u ∈ kvCells l, u.oneCell' = true := by
  intro u hu
  obtain ⟨p, _, hp⟩ := List.mem_flatMap.1 hu
  simp at hp
  rcases hp with rfl | rfl <;> rfl

theorem run_copy2 {P : Program} (w : World) (dT sT ty elem : TypeId) (g o dLen dCap : Nat) (a : Addr) (sLen sCap : Nat) (cur : Array Value) (t : TypeId) (cs : List Value)
    (hu : P.underlying dT = some (.slice elem)) (hs : (P.info? elem).map (·.size) = some 2)
    (hg : w.heap[g]? = some (.cells cur t (0, 0))) (hn : cs.length = Nat.min sLen dLen * 2)
    (hsrc : ∀ j v, cs[j]? = some v → w.cell? (a.add j) = some v) (hfit : o + cs.length ≤ cur.size) (h1 : ∀ v ∈ cs, v.oneCell' = true) :
    (Builtin.copy_ #[dT, sT] ty #[.slice (some ⟨g, o, none⟩) dLen dCap, .slice (some a) sLen sCap]).run P w =
      .ok (goInt (Nat.min sLen dLen)) (w.setRow g (cur.toList.take o ++ cs ++ cur.toList.drop (o + cs.length)).toArray) := by
  have hl := run_loadCells_list (P := P) w a cs hsrc
  have hst := run_storeCells_at P g o t cs 0 cur w hg (by simpa using hfit) h1
  cases hq : P.info? elem with
  | none => simp [hq] at hs
  | some i =>
    have hi : i.size = 2 := by simpa [hq] using hs
    rw [hn] at hl
    simp [Builtin.copy_, run_underlying hu, Builtin.lenOf, Builtin.firstCells, sizeOf, typeInfo, hq, hi, hl, hst]

theorem sz52 : (Tryd.prog.info? 52).map (·.size) = some 2 := by kernel_rfl
theorem add0 (g o j : Nat) : Addr.add ⟨g, o, none⟩ j = ⟨g, o + j, none⟩ := by unfold Addr.add; split <;> simp_all
/-- the pairs from place i on go one place up -/
theorem run_shift (w : World) (ty : TypeId) (base g n i cap dc sc : Nat) (T : List KV) (z1 z2 : Value) (dp : Option Addr) (hT : T.length = n) (hi : i ≤ n) (hdp : i < n → dp = some ⟨g, (i + 1) * 2, none⟩)
    (hown : w.ownsRow base 52 2 (.slice (some ⟨g, 0, none⟩) (n + 1) cap) (n + 1) (kvCells T ++ [z1, z2])) :
    ∃ w' x y, (Builtin.copy_ #[48, 48] ty #[.slice dp (n - i) dc, .slice (some ⟨g, i * 2, none⟩) (n + 1 - i) sc]).run Tryd.prog w = .ok (.int .i64 ((n - i : Nat) : Int)) w' ∧
      w'.ownsRow base 52 2 (.slice (some ⟨g, 0, none⟩) (n + 1) cap) (n + 1) (kvCells (T.take i) ++ (x :: y :: kvCells (T.drop i))) ∧ w.grownBy w' (some g) := by
  rcases (show i = n ∨ i < n by omega) with rfl | hlt
  · refine ⟨w, z1, z2, ?_, ?_, gb_below (Below.refl _ _)⟩
    · obtain ⟨j, hj, hjs⟩ := Option.map_eq_some_iff.1 sz52
      have hl := run_loadCells_list (P := Tryd.prog) w ⟨g, i * 2, none⟩ [] (fun j v h => by simp at h)
      simp only [List.length_nil] at hl
      cases dp <;> simp [Builtin.copy_, run_underlying Tryd.underlying48, Builtin.lenOf, Builtin.firstCells, sizeOf, typeInfo, hj, hl, storeCells, goInt]
    · rw [List.take_of_length_le (by omega), List.drop_of_length_le (by omega)]
      exact hown
  · have hdp' := hdp hlt
    subst hdp'
    obtain ⟨hxl, hx⟩ := hown
    rcases hx with ⟨hv, _⟩ | ⟨g', cap', cur, hv, hb, hh, h1, h2, h3, h4⟩
    · cases hv
    simp only [Value.slice.injEq, Option.some.injEq, Addr.mk.injEq, and_true, true_and] at hv
    obtain ⟨rfl, rfl⟩ := hv
    have hdl : (kvCells (T.drop i)).length = (n - i) * 2 := by rw [kv_len, List.length_drop, hT]
    have hmin : Nat.min (n + 1 - i) (n - i) = n - i := Nat.min_eq_right (by omega)
    have htl : (kvCells (T.take i)).length = i * 2 := by rw [kv_len, List.length_take, hT, Nat.min_eq_left (by omega)]
    have hsplit : kvCells T = kvCells (T.take i) ++ kvCells (T.drop i) := by rw [← kv_append, List.take_append_drop]
    have hcur : ∀ j, j < (n + 1) * 2 → cur[j]? = (kvCells T ++ [z1, z2])[j]? := fun j hj => by
      rw [← h4, List.getElem?_take, if_pos hj]; simp
    have hrun := run_copy2 (P := Tryd.prog) w 48 48 ty 52 g ((i + 1) * 2) (n - i) dc ⟨g, i * 2, none⟩ (n + 1 - i) sc cur 52 (kvCells (T.drop i)) Tryd.underlying48 sz52 hh (by rw [hdl, hmin]) (fun j v hj => by
      have hjl : j < (n - i) * 2 := by
        rcases Nat.lt_or_ge j ((n - i) * 2) with h | h
        · exact h
        · rw [List.getElem?_eq_none (by omega)] at hj; cases hj
      rw [add0, cell_of_row w g _ cur 52 (0, 0) hh, hcur _ (by omega), List.getElem?_append_left (by rw [kv_len, hT]; omega), hsplit, List.getElem?_append_right (by omega), htl, Nat.add_sub_cancel_left]
      exact hj) (by rw [hdl, h3]; omega) (kv_one _)
    rw [hmin] at hrun
    refine ⟨_, ((kvCells T ++ [z1, z2]).getD (i * 2) (.bool true)), ((kvCells T ++ [z1, z2]).getD (i * 2 + 1) (.bool true)), hrun, ⟨?_, .inr ⟨g, cap, _, rfl, hb, setRow_heap w g cur _ 52 (0, 0) hh, h1, h2, ?_, ?_⟩⟩, ?_⟩
    · simp only [List.length_append, List.length_cons, htl, hdl]; omega
    · simp only [List.size_toArray, List.length_append, List.length_take, List.length_drop, Array.length_toList, hdl, h3]
      omega
    · have hL : (kvCells T ++ [z1, z2]).length = (n + 1) * 2 := by rw [List.length_append, kv_len, hT]; simp; omega
      have htk : cur.toList.take ((i + 1) * 2) = kvCells (T.take i) ++ [(kvCells T ++ [z1, z2]).getD (i * 2) (.bool true), (kvCells T ++ [z1, z2]).getD (i * 2 + 1) (.bool true)] := by
        have e1 : cur.toList.take ((i + 1) * 2) = (kvCells T ++ [z1, z2]).take ((i + 1) * 2) := by
          rw [← h4, List.take_take, Nat.min_eq_left (by omega)]
        rw [e1, show (i + 1) * 2 = i * 2 + 1 + 1 by omega, List.take_succ_eq_append_getElem (by omega), List.take_succ_eq_append_getElem (by omega)]
        have e2 : (kvCells T ++ [z1, z2]).take (i * 2) = kvCells (T.take i) := by
          rw [List.take_append_of_le_length (by rw [kv_len, hT]; omega), hsplit, List.take_append_of_le_length (by omega), List.take_of_length_le (by omega)]
        rw [e2, List.append_assoc]
        have q1 : (kvCells T ++ [z1, z2]).getD (i * 2) (.bool true) = (kvCells T ++ [z1, z2])[i * 2] := by unfold List.getD; rw [List.getElem?_eq_getElem (by omega)]; rfl
        have q2 : (kvCells T ++ [z1, z2]).getD (i * 2 + 1) (.bool true) = (kvCells T ++ [z1, z2])[i * 2 + 1] := by unfold List.getD; rw [List.getElem?_eq_getElem (by omega)]; rfl
        rw [q1, q2]
        rfl
      rw [List.toList_toArray, htk, List.take_append_of_le_length (by simp only [List.length_append, List.length_cons, List.length_nil, htl, hdl]; omega), List.take_of_length_le (by simp only [List.length_append, List.length_cons, List.length_nil, htl, hdl]; omega)]
      simp
    · exact ⟨rfl, rfl, rfl, by simp, fun k _ hk => setRow_other w g k _ (fun e => hk (by rw [e]))⟩

/-- 'copy(d, s)' where its run is known -/
theorem wpList_copy_known {P : Program} (w : World) {ops : Array Oper} {rest : List Oper} {o : Oper} {a : Act} {Q : Exit → Act → World → Prop} (hgd : o.guard = none) (d s : Operand) (t t' : TypeId)
    (ho : o.op = .call { callee := .builtin .copy, args := #[d, s], argTypes := #[t, t'] }) (v u : Value) (hd : a.eval d = v) (hs : a.eval s = u) {v' : Value} {w' : World}
    (hr : (Builtin.copy_ #[t, t'] o.type #[v, u]).run P w = .ok v' w') (h : wpList P ops Q rest (a.put o.dst v') w') : wpList P ops Q (o :: rest) a w := by
  refine wpList_plain hgd fun K hK => ?_
  unfold Oper.wp execOp
  simp only [ho, resolve, invoke, builtin, Sem.run_bind, Sem.run_pure, Result.andThen_ok, List.map_toArray, List.map_cons, List.map_nil, hd, hs, hr]
  exact hK _ _ h

attribute [local irreducible] Go.wpStill
theorem drewN_two (w : World) (a b : Nat) : (w.drewN a).drewN b = w.drewN (a + b) := by simp [World.drewN, Nat.add_assoc]
/-- the model's order of texts is that of their bytes' lists -/
theorem bless : ∀ (x y : List UInt8), Op.bytesLess x y = decide (x < y)
  | [], [] => by simp [Op.bytesLess]
  | _ :: _, [] => by simp [Op.bytesLess]
  | [], _ :: _ => by simp [Op.bytesLess]
  | a :: x, b :: y => by
    rw [Op.bytesLess, bless x y]
    simp only [List.cons_lt_cons_iff]
    by_cases h1 : a < b <;> by_cases h2 : a = b <;> by_cases h3 : x < y <;> simp [h1, h2, h3]
theorem less_eq (a b : Bs) : Op.bytesLess (ByteArray.toList ⟨a.toArray⟩) (ByteArray.toList ⟨b.toArray⟩) = decide (a < b) := by
  rw [bless, Lib.toList_data, Lib.toList_data]
theorem same_eq (a b : Bs) : ((ByteArray.toList ⟨a.toArray⟩) == (ByteArray.toList ⟨b.toArray⟩)) = decide (a = b) := by
  rw [Lib.toList_data, Lib.toList_data]
  rw [Bool.eq_iff_iff]; simp
/-- a table's rows as they lie -/
def TRel (qs : List KV) (w : World) (v : Value) (k : Nat) (wr : World) : Prop :=
  wr.ownsRow w.heap.size 52 2 v (tbl (qs.take k)).length (kvCells (tbl (qs.take k))) ∧ Below w.heap.size w wr
theorem own_forms {w : World} {base : Nat} {e : TypeId} {size n : Nat} {v : Value} {xs : List Value} (h : w.ownsRow base e size v n xs) :
    ∃ ao cap g, v = .slice ao n cap ∧ (0 < n → ao = some ⟨g, 0, none⟩) := by
  rcases h.2 with ⟨hv, h0⟩ | ⟨g, cap, cur, rfl, hb, hh, h1, h2, h3, h4⟩
  · rw [h0]
    exact ⟨none, 0, 0, hv, fun hn => by omega⟩
  · exact ⟨_, cap, g, rfl, fun _ => rfl⟩

set_option maxHeartbeats 4000000 in
theorem tbl_some (b off len cap : Nat) (qs : List KV) (w : World) (hl : 0 < len) (hm : len ≤ 1048576) (hr : QRd w w.heap.size (some ⟨b, off, none⟩) len qs) :
    Calls Tryd.prog 23 #[.slice (some ⟨b, off, none⟩) len cap] w (KvSay 52 (tbl qs) w) := by
  have HR := Lib.hid hr
  have hlen := hr.1
  clear hr
  obtain ⟨i0, hi, hz0, hz1, hz2⟩ := info_parts info52
  go_enter Tryd.func23, Tryd.ntmps23
  go_wp2
  go_loopw [3, 9] (fun v i wr => ∃ k : Nat, i = .int .i64 k ∧ k ≤ len ∧ Hid (TRel qs w v k wr)) (fun _ i _ => len - (intOf i).toNat)
  case atStart => exact ⟨0, rfl, Nat.zero_le _, World.ownsRow_nil _ _ _ _, Below.refl _ _⟩
  case round =>
    obtain ⟨k, rfl, hk, HS⟩ := hrel
    by_cases hlt : k < len
    · obtain ⟨hown, hbl⟩ := HS.out
      obtain ⟨b', off', he, _, hc⟩ := (HR.out.below hbl).2 hl
      simp only [Option.some.injEq, Addr.mk.injEq] at he
      obtain ⟨rfl, rfl, _⟩ := he
      obtain ⟨hc1, hc2⟩ := hc k hlt
      have hsn := tbl_succ qs k (by omega)
      have hnl : (tbl (qs.take k)).length ≤ k := by
        have := len_tbl (qs.take k) []
        simp at this
        exact Nat.le_trans this (Nat.min_le_left _ _)
      generalize (qs.getD k ([], [])).1 = a at *
      generalize (qs.getD k ([], [])).2 = m at *
      generalize hT : tbl (qs.take k) = T at *
      generalize hn : T.length = n at *
      obtain ⟨ao, vcap, g, hv, hao⟩ := own_forms hown
      subst hv
      unfold sv at hc1 hc2
      have hsize := hbl.size
      have HSN := Lib.hid (And.intro hsn hn)
      have HB := Lib.hid (And.intro hown hbl)
      clear hc hsn hbl hown HS hn hT
      go_wp2
      generalize hwa : wr.alloc _ = wa
      have hba : Below wr.heap.size wr wa := by rw [← hwa]; exact (Below.refl _ _).alloc (Nat.le_refl _) _
      have ca0 : wa.cell? ⟨wr.heap.size, 0, none⟩ = some (.string ⟨a.toArray⟩) := by rw [← hwa]; exact (Bk.new wr 52 _).cell 0
      have ca1 : wa.cell? ⟨wr.heap.size, 1, none⟩ = some (.string ⟨m.toArray⟩) := by rw [← hwa]; exact (Bk.new wr 52 _).cell 1
      have hza : wa.heap.size = wr.heap.size + 1 := by rw [← hwa]; simp
      have hown2 : wa.ownsRow w.heap.size 52 2 (.slice ao n vcap) n (kvCells T) := by rw [← hwa]; exact HB.out.1.alloc _
      have HA := Lib.hid (And.intro hown2 (HB.out.2.trans (hba.mono hsize)))
      have HGA := Lib.hid (show ∀ j, j < n → wa.cell? ⟨g, j * 2, none⟩ = some (.string ⟨(T.getD j ([], [])).1.toArray⟩) from fun j hj => by
        obtain rfl := hao (by omega)
        rw [hown2.cellAt (j * 2) (by omega)]
        exact kv_at 0 (by omega) T j (by rw [HSN.out.2]; exact hj))
      have HLT := Lib.hid HB.out.1.lt
      clear hwa hba hown2 HB hc1 hc2
      go_loopw [6] (fun i wi => ∃ j nq : Nat, i = .int .i64 j ∧ j ≤ n ∧ wi = wa.drewN nq ∧ Hid (∀ j', j' < j → (T.getD j' ([], [])).1 < a)) (fun i _ => n - (intOf i).toNat)
      case atStart => exact ⟨0, 0, rfl, Nat.zero_le _, rfl, fun j hj => by omega⟩
      case round =>
        obtain ⟨j, nq, rfl, hj, rfl, HJ⟩ := hrel
        by_cases hjn : j < n
        · obtain rfl := hao (by omega)
          have hcg := HGA.out j hjn
          have e1 := less_eq (T.getD j ([], [])).1 a
          have e2 := same_eq (T.getD j ([], [])).1 a
          have hjI : (j : Int) < n := by omega
          generalize hp1 : (T.getD j ([], [])).1 = p1 at *
          have HP1 := Lib.hid hp1
          clear hp1
          have d0 : (wa.drewN nq).cell? ⟨g, j * 2, none⟩ = some (.string ⟨p1.toArray⟩) := hcg
          have d1 : (wa.drewN nq).cell? ⟨wr.heap.size, 0, none⟩ = some (.string ⟨a.toArray⟩) := ca0
          generalize (⟨p1.toArray⟩ : ByteArray) = sp at *
          by_cases hpa : p1 < a
          · rw [decide_eq_true hpa] at e1
            generalize (⟨a.toArray⟩ : ByteArray) = sa at *
            clear e2
            go_wp2_with fail
            go_quiet (fail)
            clear d0 d1 e1
            go_wp2
            go_roundw
            case rel =>
              refine ⟨j + 1, _, by go_num, by omega, rfl, fun j' hj' => ?_⟩
              rcases (show j' < j ∨ j' = j by omega) with h | h
              · exact HJ.out j' h
              · rw [h, HP1.out]; exact hpa
            case measure => simp [intOf]; omega
          · rw [decide_eq_false hpa] at e1
            by_cases hpe : p1 = a
            · rw [decide_eq_true hpe] at e2
              generalize (⟨a.toArray⟩ : ByteArray) = sa at *
              go_wp2_with fail
              go_quiet (fail)
              generalize hw5 : World.drewN (World.drewN wa _) _ = w5
              replace d0 : w5.cell? ⟨g, j * 2, none⟩ = some (.string sp) := by rw [← hw5]; exact d0
              replace d1 : w5.cell? ⟨wr.heap.size, 0, none⟩ = some (.string sa) := by rw [← hw5]; exact d1
              have HW5 := Lib.hid hw5
              clear hw5 e1
              go_wp2_with fail
              go_quiet (fail)
              generalize hw6 : World.drewN w5 _ = w6
              have hown6 : w6.ownsRow w.heap.size 52 2 (.slice (some ⟨g, 0, none⟩) n vcap) n (kvCells T) := by rw [← hw6, ← HW5.out]; exact HA.out.1
              have hbl6 : Below w.heap.size w w6 := by rw [← hw6, ← HW5.out]; exact below_dN (below_dN (below_dN HA.out.2 _) _) _
              have d3 : w6.cell? ⟨wr.heap.size, 1, none⟩ = some (.string ⟨m.toArray⟩) := by rw [← hw6, ← HW5.out]; exact ca1
              have d4 : w6.cell? ⟨g, j * 2 + 1, none⟩ = some (sv (T.getD j ([], [])).2) := by
                rw [hown6.cellAt (j * 2 + 1) (by omega)]
                exact kv_at 1 (by omega) T j (by rw [HSN.out.2]; exact hjn)
              unfold sv at d4
              have f4 := hown6.frozenAt (j * 2 + 1)
              have hst := hown6.stored (j * 2 + 1) (.string ⟨m.toArray⟩)
              have HF : Hid (TRel qs w (.slice (some ⟨g, 0, none⟩) n vcap) (k + 1) (w6.setCell ⟨g, j * 2 + 1, none⟩ (.string ⟨m.toArray⟩))) := by
                obtain ⟨hs1, hs2⟩ := HSN.out
                unfold Hid TRel
                have hia := ins_at a m T j (by omega) HJ.out (fun _ => by rw [HP1.out]; exact hpa)
                rw [if_pos ⟨by omega, by rw [HP1.out]; exact hpe⟩] at hia
                have hlen1 : (ins a m T).length = n := by
                  rw [hia]; simp [List.length_take, List.length_drop]; omega
                rw [hs1, hlen1]
                refine ⟨?_, below_gb hbl6 hst.2 hbl6.size ?_⟩
                · rw [kv_set a m T j (by omega) (by rw [HP1.out]; exact hpe), ← hia] at hst
                  exact hst.1
                · exact (hown6.lt g rfl).1
              clear hst hown6 hbl6 hw6 HW5 d0 d1 HJ HP1 HA HGA
              go_wp2
              go_roundw
              case rel => exact ⟨k + 1, by go_num, by omega, HF⟩
              case measure => simp [intOf]; omega
            · rw [decide_eq_false hpe] at e2
              generalize hsa : (⟨a.toArray⟩ : ByteArray) = sa at *
              have HSA := Lib.hid hsa
              clear hsa
              go_wp2_with fail
              go_quiet (fail)
              generalize hw5 : World.drewN (World.drewN wa _) _ = w5
              replace d0 : w5.cell? ⟨g, j * 2, none⟩ = some (.string sp) := by rw [← hw5]; exact d0
              replace d1 : w5.cell? ⟨wr.heap.size, 0, none⟩ = some (.string sa) := by rw [← hw5]; exact d1
              have HW5 := Lib.hid hw5
              clear hw5
              go_wp2_with fail
              go_quiet (fail)
              generalize hw6 : World.drewN w5 _ = w6
              have hown6 : w6.ownsRow w.heap.size 52 2 (.slice (some ⟨g, 0, none⟩) n vcap) n (kvCells T) := by rw [← hw6, ← HW5.out]; exact HA.out.1
              have hbl6 : Below w.heap.size w w6 := by rw [← hw6, ← HW5.out]; exact below_dN (below_dN (below_dN HA.out.2 _) _) _
              have b0 : w6.cell? ⟨wr.heap.size, 0, none⟩ = some (.string sa) := by rw [← hw6, ← HW5.out]; exact ca0
              have b1 : w6.cell? ⟨wr.heap.size, 1, none⟩ = some (.string ⟨m.toArray⟩) := by rw [← hw6, ← HW5.out]; exact ca1
              have hz6 : wr.heap.size + 1 = w6.heap.size := by rw [← hw6, ← HW5.out, ← hza]; rfl
              have HIA := Lib.hid (ins_at a m T j (by have := HSN.out.2; omega) HJ.out (fun hx => by rw [HP1.out]; exact hpa))
              have HZ6 := Lib.hid hz6
              have HC := Lib.hid (show ¬ (j < T.length ∧ (T.getD j ([], [])).1 = a) from fun hx => hpe (by rw [← HP1.out]; exact hx.2))
              have HO6 := Lib.hid (And.intro hown6 hbl6)
              have HBX := Lib.hid (And.intro b0 b1)
              clear hw6 HW5 hown6 hbl6 b0 b1 HJ HA HGA hz6 d0 d1 e1 e2 HP1
              have hz7 : w.heap.size ≤ w6.heap.size := HO6.out.2.size
              have HN := Lib.hid (news1 w6 52 (.string ⟨#[]⟩) (.string ⟨#[]⟩))
              go_wp2_with (at_builtin; refine wpList_append_own_at _ rfl _ _ 48 rfl w.heap.size 52 i0 (.agg #[.string ⟨#[]⟩, .string ⟨#[]⟩]) 2 32 Tryd.underlying48 hi hz0 hz1 hz2 rfl (by decide) (.slice (some ⟨g, 0, none⟩) n vcap) n (kvCells T) rfl (HO6.out.1.alloc _) ⟨w6.heap.size, 0, none⟩ 1 1 [.string ⟨#[]⟩, .string ⟨#[]⟩] rfl rfl HN.out (by simp [Value.oneCell']) (by unfold maxLen; omega) (by omega) (by simp; omega) ?_; intro v' w7 hown7 hgrow7 _ hloc7)
              have hf7 : ∃ g' cap', v' = .slice (some ⟨g', 0, none⟩) (n + 1) cap' ∧ n + 1 ≤ cap' ∧ g' ≠ wr.heap.size ∧ w.heap.size ≤ g' := own_new hown7 hloc7 HLT.out HZ6.out
              obtain ⟨g', cap', hv', hnc, hgx, hgw⟩ := hf7
              subst hv'
              have x0 : w7.cell? ⟨wr.heap.size, 0, none⟩ = some (.string sa) := by
                refine hgrow7.cell ?_ (fun e => by have := (HLT.out wr.heap.size e.symm).2; omega)
                exact (World.cell?_alloc_lt w6 _ _ (by have := HZ6.out; show wr.heap.size < _; omega)).trans HBX.out.1
              have x1 : w7.cell? ⟨wr.heap.size, 1, none⟩ = some (.string ⟨m.toArray⟩) := by
                refine hgrow7.cell ?_ (fun e => by have := (HLT.out wr.heap.size e.symm).2; omega)
                exact (World.cell?_alloc_lt w6 _ _ (by have := HZ6.out; show wr.heap.size < _; omega)).trans HBX.out.2
              have hbl7 : Below w.heap.size w w7 := (HO6.out.2.alloc hz7 _).grown hgrow7 (by simp; omega) (fun kk hkk => (HO6.out.1.lt kk hkk).1)
              have HO7 := Lib.hid (And.intro hown7 hbl7)
              clear hown7 hbl7 hgrow7 hloc7 HN HO6 HBX
              have y1 : IntKind.i64.wrap ((j : Int) + 1) = (j : Int) + 1 := IntWalk.i64_in _ (by omega)
              have y2 : (0 : Int) ≤ (j : Int) + 1 := by omega
              have y3 : ((j : Int) + 1).toNat = j + 1 := by omega
              have y4 : (j : Int) + 1 ≤ (n : Int) + 1 := by omega
              have y5 : (j : Int) ≤ (n : Int) + 1 := by omega
              go_still_tail 7, (by kernel_rfl)
              change wpList _ _ _ _ _ w7.drew
              clear y1 y2 y3 y4 y5
              rw [if_neg (show ¬ cap' = j by omega)]
              generalize hdp : (if cap' = j + 1 then some ({ block := g', off := 0 } : Addr) else some { block := g', off := (j + 1) * 2 }) = dp
              have hdp' : j < n → dp = some ⟨g', (j + 1) * 2, none⟩ := fun hjn' => by rw [← hdp, if_neg (by omega)]
              obtain ⟨w8, x, y, hrun, hown8, hg8⟩ := run_shift w7.drew 3 w.heap.size g' n j cap' (cap' - (j + 1)) (cap' - j) T _ _ dp HSN.out.2 hj hdp' HO7.out.1.drew
              refine wpList_copy_known _ rfl _ _ 48 48 rfl _ _ rfl rfl hrun ?_
              have hx8 : ∀ i v, w7.cell? ⟨wr.heap.size, i, none⟩ = some v → w8.cell? ⟨wr.heap.size, i, none⟩ = some v := fun i v hv => hg8.cell (a := ⟨wr.heap.size, i, none⟩) hv (fun e => hgx (by injection e with e; exact e.symm))
              replace x0 := hx8 0 _ x0
              replace x1 := hx8 1 _ x1
              have htl : (kvCells (T.take j)).length = j * 2 := by rw [kv_len, List.length_take, HSN.out.2, Nat.min_eq_left hj]
              have z0 : w8.cell? ⟨g', j * 2, none⟩ = some x := by
                rw [hown8.cellAt (j * 2) (by omega), List.getElem?_append_right (by omega), htl, Nat.sub_self]; rfl
              have z1 : w8.cell? ⟨g', j * 2 + 1, none⟩ = some y := by
                rw [hown8.cellAt (j * 2 + 1) (by omega), List.getElem?_append_right (by omega), htl, Nat.add_sub_cancel_left]; rfl
              have f0 := hown8.frozenAt (j * 2)
              have f1 := hown8.frozenAt (j * 2 + 1)
              have hs1 := hown8.stored (j * 2) (.string sa)
              have hs2 := hs1.1.stored (j * 2 + 1) (.string ⟨m.toArray⟩)
              have z2 : (w8.setCell ⟨g', j * 2, none⟩ (.string sa)).cell? ⟨g', j * 2 + 1, none⟩ = some y := by
                rw [hs1.1.cellAt (j * 2 + 1) (by omega), List.getElem?_set_ne (by omega), List.getElem?_append_right (by omega), htl, Nat.add_sub_cancel_left]; rfl
              have f2 := hs1.1.frozenAt (j * 2 + 1)
              have hbl8 : Below w.heap.size w w8 := below_gb HO7.out.2.drew hg8 (by simp; exact HO7.out.2.size) hgw
              have HF : Hid (TRel qs w (.slice (some ⟨g', 0, none⟩) (n + 1) cap') (k + 1) ((w8.setCell ⟨g', j * 2, none⟩ (.string sa)).setCell ⟨g', j * 2 + 1, none⟩ (.string ⟨m.toArray⟩))) := by
                obtain ⟨hq1, hq2⟩ := HSN.out
                unfold Hid TRel
                have hia := HIA.out
                rw [if_neg HC.out] at hia
                have hlen1 : (ins a m T).length = n + 1 := by
                  rw [hia]; simp [List.length_take, List.length_drop]; omega
                rw [hq1, hlen1]
                refine ⟨?_, below_gb (below_gb hbl8 hs1.2 hbl8.size hgw) hs2.2 (by simp [World.setCell]; exact hbl8.size) hgw⟩
                have hkp := kv_put a m x y (T.take j) (T.drop j)
                rw [List.length_take, hq2, Nat.min_eq_left hj] at hkp
                rw [show sv a = .string sa by rw [← HSA.out]; rfl] at hkp
                rw [hia, ← hkp]
                exact hs2.1
              clear hs1 hs2 hown8 hg8 hx8 HIA HC HO7 htl hdp hdp' hrun hbl8
              go_wp2
              go_roundw
              case rel => exact ⟨k + 1, by go_num, by omega, HF⟩
              case measure => simp [intOf]; omega
        · have hjd : decide ((j : Int) < n) = false := decide_eq_false (by omega)
          go_wp2_with fail
          go_quiet (fail)
          generalize hw5 : World.drewN (World.drewN wa _) _ = w5
          skip
          have HW5 := Lib.hid hw5
          clear hw5
          go_wp2_with fail
          go_quiet (fail)
          generalize hw6 : World.drewN w5 _ = w6
          have hown6 : w6.ownsRow w.heap.size 52 2 (.slice ao n vcap) n (kvCells T) := by rw [← hw6, ← HW5.out]; exact HA.out.1
          have hbl6 : Below w.heap.size w w6 := by rw [← hw6, ← HW5.out]; exact below_dN (below_dN (below_dN HA.out.2 _) _) _
          have b0 : w6.cell? ⟨wr.heap.size, 0, none⟩ = some (.string ⟨a.toArray⟩) := by rw [← hw6, ← HW5.out]; exact ca0
          have b1 : w6.cell? ⟨wr.heap.size, 1, none⟩ = some (.string ⟨m.toArray⟩) := by rw [← hw6, ← HW5.out]; exact ca1
          have hz6 : wr.heap.size + 1 = w6.heap.size := by rw [← hw6, ← HW5.out, ← hza]; rfl
          have HIA := Lib.hid (ins_at a m T j (by have := HSN.out.2; omega) HJ.out (fun hx => by have := HSN.out.2; omega))
          have HZ6 := Lib.hid hz6
          have HC := Lib.hid (show ¬ (j < T.length ∧ (T.getD j ([], [])).1 = a) from fun hx => by have h1 := hx.1; have h2 := HSN.out.2; omega)
          have HO6 := Lib.hid (And.intro hown6 hbl6)
          have HBX := Lib.hid (And.intro b0 b1)
          clear hw6 HW5 hown6 hbl6 b0 b1 HJ HA HGA hz6 hjd
          have hz7 : w.heap.size ≤ w6.heap.size := HO6.out.2.size
          have HN := Lib.hid (news1 w6 52 (.string ⟨#[]⟩) (.string ⟨#[]⟩))
          go_wp2_with (at_builtin; refine wpList_append_own_at _ rfl _ _ 48 rfl w.heap.size 52 i0 (.agg #[.string ⟨#[]⟩, .string ⟨#[]⟩]) 2 32 Tryd.underlying48 hi hz0 hz1 hz2 rfl (by decide) (.slice ao n vcap) n (kvCells T) rfl (HO6.out.1.alloc _) ⟨w6.heap.size, 0, none⟩ 1 1 [.string ⟨#[]⟩, .string ⟨#[]⟩] rfl rfl HN.out (by simp [Value.oneCell']) (by unfold maxLen; omega) (by omega) (by simp; omega) ?_; intro v' w7 hown7 hgrow7 _ hloc7)
          have hf7 : ∃ g' cap', v' = .slice (some ⟨g', 0, none⟩) (n + 1) cap' ∧ n + 1 ≤ cap' ∧ g' ≠ wr.heap.size ∧ w.heap.size ≤ g' := own_new hown7 hloc7 HLT.out HZ6.out
          obtain ⟨g', cap', hv', hnc, hgx, hgw⟩ := hf7
          subst hv'
          have x0 : w7.cell? ⟨wr.heap.size, 0, none⟩ = some (.string ⟨a.toArray⟩) := by
            refine hgrow7.cell ?_ (fun e => by have := (HLT.out wr.heap.size e.symm).2; omega)
            exact (World.cell?_alloc_lt w6 _ _ (by have := HZ6.out; show wr.heap.size < _; omega)).trans HBX.out.1
          have x1 : w7.cell? ⟨wr.heap.size, 1, none⟩ = some (.string ⟨m.toArray⟩) := by
            refine hgrow7.cell ?_ (fun e => by have := (HLT.out wr.heap.size e.symm).2; omega)
            exact (World.cell?_alloc_lt w6 _ _ (by have := HZ6.out; show wr.heap.size < _; omega)).trans HBX.out.2
          have hbl7 : Below w.heap.size w w7 := (HO6.out.2.alloc hz7 _).grown hgrow7 (by simp; omega) (fun kk hkk => (HO6.out.1.lt kk hkk).1)
          have HO7 := Lib.hid (And.intro hown7 hbl7)
          clear hown7 hbl7 hgrow7 hloc7 HN HO6 HBX
          have y1 : IntKind.i64.wrap ((j : Int) + 1) = (j : Int) + 1 := IntWalk.i64_in _ (by omega)
          have y2 : (0 : Int) ≤ (j : Int) + 1 := by omega
          have y3 : ((j : Int) + 1).toNat = j + 1 := by omega
          have y4 : (j : Int) + 1 ≤ (n : Int) + 1 := by omega
          have y5 : (j : Int) ≤ (n : Int) + 1 := by omega
          go_still_tail 7, (by kernel_rfl)
          change wpList _ _ _ _ _ w7.drew
          clear y1 y2 y3 y4 y5
          rw [if_neg (show ¬ cap' = j by omega)]
          generalize hdp : (if cap' = j + 1 then some ({ block := g', off := 0 } : Addr) else some { block := g', off := (j + 1) * 2 }) = dp
          have hdp' : j < n → dp = some ⟨g', (j + 1) * 2, none⟩ := fun hjn' => by rw [← hdp, if_neg (by omega)]
          obtain ⟨w8, x, y, hrun, hown8, hg8⟩ := run_shift w7.drew 3 w.heap.size g' n j cap' (cap' - (j + 1)) (cap' - j) T _ _ dp HSN.out.2 hj hdp' HO7.out.1.drew
          refine wpList_copy_known _ rfl _ _ 48 48 rfl _ _ rfl rfl hrun ?_
          have hx8 : ∀ i v, w7.cell? ⟨wr.heap.size, i, none⟩ = some v → w8.cell? ⟨wr.heap.size, i, none⟩ = some v := fun i v hv => hg8.cell (a := ⟨wr.heap.size, i, none⟩) hv (fun e => hgx (by injection e with e; exact e.symm))
          replace x0 := hx8 0 _ x0
          replace x1 := hx8 1 _ x1
          have htl : (kvCells (T.take j)).length = j * 2 := by rw [kv_len, List.length_take, HSN.out.2, Nat.min_eq_left hj]
          have z0 : w8.cell? ⟨g', j * 2, none⟩ = some x := by
            rw [hown8.cellAt (j * 2) (by omega), List.getElem?_append_right (by omega), htl, Nat.sub_self]; rfl
          have z1 : w8.cell? ⟨g', j * 2 + 1, none⟩ = some y := by
            rw [hown8.cellAt (j * 2 + 1) (by omega), List.getElem?_append_right (by omega), htl, Nat.add_sub_cancel_left]; rfl
          have f0 := hown8.frozenAt (j * 2)
          have f1 := hown8.frozenAt (j * 2 + 1)
          have hs1 := hown8.stored (j * 2) (.string ⟨a.toArray⟩)
          have hs2 := hs1.1.stored (j * 2 + 1) (.string ⟨m.toArray⟩)
          have z2 : (w8.setCell ⟨g', j * 2, none⟩ (.string ⟨a.toArray⟩)).cell? ⟨g', j * 2 + 1, none⟩ = some y := by
            rw [hs1.1.cellAt (j * 2 + 1) (by omega), List.getElem?_set_ne (by omega), List.getElem?_append_right (by omega), htl, Nat.add_sub_cancel_left]; rfl
          have f2 := hs1.1.frozenAt (j * 2 + 1)
          have hbl8 : Below w.heap.size w w8 := below_gb HO7.out.2.drew hg8 (by simp; exact HO7.out.2.size) hgw
          have HF : Hid (TRel qs w (.slice (some ⟨g', 0, none⟩) (n + 1) cap') (k + 1) ((w8.setCell ⟨g', j * 2, none⟩ (.string ⟨a.toArray⟩)).setCell ⟨g', j * 2 + 1, none⟩ (.string ⟨m.toArray⟩))) := by
            obtain ⟨hq1, hq2⟩ := HSN.out
            unfold Hid TRel
            have hia := HIA.out
            rw [if_neg HC.out] at hia
            have hlen1 : (ins a m T).length = n + 1 := by
              rw [hia]; simp [List.length_take, List.length_drop]; omega
            rw [hq1, hlen1]
            refine ⟨?_, below_gb (below_gb hbl8 hs1.2 hbl8.size hgw) hs2.2 (by simp [World.setCell]; exact hbl8.size) hgw⟩
            have hkp := kv_put a m x y (T.take j) (T.drop j)
            rw [List.length_take, hq2, Nat.min_eq_left hj] at hkp
            skip
            rw [hia, ← hkp]
            exact hs2.1
          clear hs1 hs2 hown8 hg8 hx8 HIA HC HO7 htl hdp hdp' hrun hbl8
          go_wp2
          go_roundw
          case rel => exact ⟨k + 1, by go_num, by omega, HF⟩
          case measure => simp [intOf]; omega
    · go_wp2
      go_ret
      obtain rfl : k = qs.length := by omega
      have h1 := HS.out
      unfold TRel at h1
      rw [List.take_of_length_le (Nat.le_refl _)] at h1
      exact ⟨u3, rfl, h1.1, h1.2⟩
set_option maxHeartbeats 800000 in
theorem tbl_none (ao : Option Addr) (cap : Nat) (w : World) : Calls Tryd.prog 23 #[.slice ao 0 cap] w (KvSay 52 (tbl []) w) := by
  go_enter Tryd.func23, Tryd.ntmps23
  go_wp2
  refine wp_loop_rounds 1 ?_
  rw [rounds_succ]
  go_wp2
  go_ret
  exact ⟨_, rfl, World.ownsRow_nil _ _ _ _, Below.refl _ _⟩
/-- spec.Table -/
theorem tbl_any (ao : Option Addr) (len cap : Nat) (qs : List KV) (w : World) (hm : len ≤ 1048576) (hr : QRd w w.heap.size ao len qs) : Calls Tryd.prog 23 #[.slice ao len cap] w (KvSay 52 (tbl qs) w) := by
  rcases Nat.eq_zero_or_pos len with h0 | h0
  · subst h0
    have : qs = [] := List.eq_nil_of_length_eq_zero hr.1
    subst this
    exact tbl_none ao cap w
  · obtain ⟨b, off, rfl, _, _⟩ := hr.2 h0
    exact tbl_some b off len cap qs w h0 hm hr
end Go.Proofs.YtfndlifolohlgaaDoor
