/-
  The walk of DecodeIntoArray: a table's bytes are read back as its pairs.
  Conditions: T holds at most 2^20 pairs and 2^20 bytes.
-/
import Derived.Test.YtfndlifolohlgaaDoorKvA
import Derived.Test.YtfndlifolohlgaaDoorKvS
import Derived.Test.YtfndlifolohlgaaDoorKvP
import Derived.Lib.ConvBytes
import Derived.StillTailTactics
namespace Go.Proofs.YtfndlifolohlgaaDoor
open Go Go.RowKit Go.Maps Kv
set_option maxRecDepth 100000
attribute [local irreducible] Go.wpStill

def BtRd (w : World) (g : Nat) (l : Bs) : Prop := g < w.heap.size ∧ ∀ j, j < l.length → w.cell? ⟨g, j, none⟩ = some (.int .u8 ((l.getD j 0).toNat : Int))
theorem BtRd.below {w w' : World} {g : Nat} {l : Bs} (h : BtRd w g l) (hb : Below w.heap.size w w') : BtRd w' g l :=
  ⟨Nat.lt_of_lt_of_le h.1 hb.size, fun j hj => (hb.cell (p := ⟨g, j, none⟩) h.1).trans (h.2 j hj)⟩
theorem below_bytes (w : World) (e : TypeId) (s : ByteArray) : Below w.heap.size w (Lib.bytesWorld w e s) :=
  ⟨rfl, rfl, rfl, by rw [Lib.bytesWorld_size]; omega, fun k hk => Lib.bytesWorld_at_old w e s k hk⟩
theorem bytes_rd (w : World) (e : TypeId) (l : Bs) : BtRd (Lib.bytesWorld w e ⟨l.toArray⟩) w.heap.size l :=
  ⟨by rw [Lib.bytesWorld_size]; omega, fun j hj => by
    rw [Lib.bytesWorld_cell w e ⟨l.toArray⟩ j (by show j < l.toArray.size; simpa using hj)]⟩
/-- a text with its length ahead stands at place p of block g -/
def StrAt (w : World) (g p : Nat) (s : Bs) : Prop := ∃ b0 b1 b2 b3 : UInt8, w.cell? ⟨g, p, none⟩ = some (.int .u8 (b0.toNat : Int)) ∧ w.cell? ⟨g, p + 1, none⟩ = some (.int .u8 (b1.toNat : Int)) ∧ w.cell? ⟨g, p + 2, none⟩ = some (.int .u8 (b2.toNat : Int)) ∧ w.cell? ⟨g, p + 3, none⟩ = some (.int .u8 (b3.toNat : Int)) ∧
  Lib.leNat [b0, b1, b2, b3] = s.length ∧ ∀ j (hj : j < s.length), w.cell? ⟨g, p + 4 + j, none⟩ = some (.int .u8 (s[j].toNat : Int))
theorem strAt_of {w : World} {g : Nat} {l A B s : Bs} (h : BtRd w g l) (hl : l = A ++ (Kv.one s ++ B)) (hs : s.length < 4294967296) : StrAt w g A.length s := by
  obtain ⟨h1, h2⟩ := one_at hl hs
  have hlen := congrArg List.length hl
  simp only [List.length_append, one_len] at hlen
  refine ⟨_, _, _, _, h.2 _ (by omega), h.2 _ (by omega), h.2 _ (by omega), h.2 _ (by omega), h1, fun j hj => ?_⟩
  rw [h.2 _ (by omega), h2 j hj]
theorem StrAt.below {w w' : World} {g p B : Nat} {s : Bs} (h : StrAt w g p s) (hb : Below B w w') (hg : g < B) : StrAt w' g p s := by
  obtain ⟨b0, b1, b2, b3, c0, c1, c2, c3, hn, hc⟩ := h
  exact ⟨b0, b1, b2, b3, (hb.cell (p := ⟨g, p, none⟩) hg).trans c0, (hb.cell (p := ⟨g, p + 1, none⟩) hg).trans c1, (hb.cell (p := ⟨g, p + 2, none⟩) hg).trans c2, (hb.cell (p := ⟨g, p + 3, none⟩) hg).trans c3, hn, fun j hj => (hb.cell (p := ⟨g, p + 4 + j, none⟩) hg).trans (hc j hj)⟩
/-- the two texts of a pair, where they stand -/
theorem pair_at {w : World} {g : Nat} {T : List KV} (h : BtRd w g (enc T)) (hz : sz T ≤ 1048576) (k : Nat) (hk : k < T.length) :
    StrAt w g (enc (T.take k)).length (T.getD k ([], [])).1 ∧ StrAt w g ((enc (T.take k)).length + (4 + (T.getD k ([], [])).1.length)) (T.getD k ([], [])).2 := by
  have hpm : (T.getD k ([], [])).1.length + (T.getD k ([], [])).2.length ≤ sz T := sz_mem (by simp [List.getD, hk])
  have hsp := enc_split T k hk
  refine ⟨strAt_of h hsp (by omega), ?_⟩
  have := strAt_of h (show enc T = (enc (T.take k) ++ Kv.one (T.getD k ([], [])).1) ++ (Kv.one (T.getD k ([], [])).2 ++ enc (T.drop (k + 1))) by rw [hsp]; simp [List.append_assoc]) (by omega)
  rwa [List.length_append, one_len] at this
theorem StrAt.conv {w : World} {g p c : Nat} {s : Bs} (h : StrAt w g p s) : (convert 106 9 (.slice (some ⟨g, p + 4, none⟩) s.length c)).run Tryd.prog w = .ok (.string ⟨s.toArray⟩) w := by
  obtain ⟨b0, b1, b2, b3, c0, c1, c2, c3, hn, hc⟩ := h
  exact run_convert_bytes_back (P := Tryd.prog) w 106 9 5 ⟨g, p + 4, none⟩ c s Tryd.underlying106 Tryd.underlying5 Tryd.underlying9 (fun j hj => by
    rw [show Addr.add ⟨g, p + 4, none⟩ j = ⟨g, p + 4 + j, none⟩ by unfold Addr.add; split <;> simp_all]
    exact hc j hj)
theorem StrAt.num {w : World} {g p c : Nat} {s : Bs} (h : StrAt w g p s) : Calls Tryd.prog 50 #[.agg #[], .slice (some ⟨g, p, none⟩) 4 c] w fun e w' => e = .returned (.int .u32 s.length) ∧ Below w.heap.size w w' := by
  obtain ⟨b0, b1, b2, b3, c0, c1, c2, c3, hn, hc⟩ := h
  rw [← hn]
  exact Tryd.binary_LE_Uint32 g p 4 c b0 b1 b2 b3 w (by omega) c0 c1 c2 c3
theorem u32_four {n : Nat} (h : n ≤ 1048576) : IntKind.u32.wrap (4 + (n : Int)) = 4 + (n : Int) := by
  simp [IntKind.wrap, IntKind.bits, IntKind.signed]
  omega
theorem below_undrew {B : Nat} {w w' : World} (h : Below B w.drew w') : Below B w w' := ⟨h.os, h.tape, h.output, h.size, h.block⟩
theorem own_lie {w w' : World} {base e size n : Nat} {v : Value} {xs : List Value} (h : w.ownsRow base e size v n xs) (hb : Below w.heap.size w w') : w'.ownsRow base e size v n xs :=
  h.kept (gb_below hb (g := none)) (by
    rcases h.2 with ⟨hv, _⟩ | ⟨g, cap, cur, hv, _⟩
    · exact .inl (by rw [hv]; rfl)
    · exact .inr (by rw [hv]; simp [Value.ownBlock]))
theorem own_down {w : World} {base base' e size n : Nat} {v : Value} {xs : List Value} (h : w.ownsRow base e size v n xs) (hb : base' ≤ base) : w.ownsRow base' e size v n xs := by
  refine ⟨h.1, ?_⟩
  rcases h.2 with h0 | ⟨g, cap, cur, hv, h1, r⟩
  · exact .inl h0
  · exact .inr ⟨g, cap, cur, hv, Nat.le_trans hb h1, r⟩
theorem newsD (w : World) (t : TypeId) (x y : Value) : ∀ j u, [x, y][j]? = some u → (w.alloc (.cells #[x, y] t)).cell? (Addr.add ⟨w.heap.size, 0, none⟩ j) = some u := by
  have hb := Bk.new w t #[x, y]
  intro j u hj
  rw [show (Addr.add ⟨w.heap.size, 0, none⟩ j) = ⟨w.heap.size, j, none⟩ by unfold Addr.add; split <;> simp_all, hb.cell j]
  simpa using hj
theorem enc_none {T : List KV} {k : Nat} (h : (enc (T.drop k)).length = 0) : T.length ≤ k := by
  have := enc_len (T.drop k)
  rw [List.length_drop] at this
  omega
theorem conv_none (w : World) (g p : Nat) (m : Bs) (hm : m.length = 0) : (convert 106 9 (.slice (some ⟨g, p, none⟩) 0 0)).run Tryd.prog w = .ok (.string ⟨m.toArray⟩) w := by
  obtain rfl := List.eq_nil_of_length_eq_zero hm
  exact run_convert_bytes_back (P := Tryd.prog) w 106 9 5 ⟨g, p, none⟩ 0 [] Tryd.underlying106 Tryd.underlying5 Tryd.underlying9 (fun j hj => by simp at hj)
def lenV : Value → Nat
  | .slice _ n _ => n
  | _ => 0
theorem info96 : (Tryd.prog.info? 96).map (fun i => (i.zero, i.size, i.bytes)) = some (some (.agg #[.string ⟨#[]⟩, .string ⟨#[]⟩]), 2, 32) := by kernel_rfl
def DRel (T : List KV) (w wb : World) (v : Value) (k : Nat) (wr : World) : Prop := wr.ownsRow wb.heap.size 96 2 v k (kvCells (T.take k)) ∧ Below w.heap.size w wr ∧ Below wb.heap.size wb wr

set_option maxHeartbeats 2000000 in
theorem dec_some (T : List KV) (w : World) (h0 : 0 < T.length) (hl : T.length ≤ 1048576) (hz : sz T ≤ 1048576) :
    Calls Tryd.prog 42 #[.agg #[.string ⟨(enc T).toArray⟩]] w (KvSay 96 T w) := by
  obtain ⟨i0, hi, hz0, hz1, hz2⟩ := info_parts info96
  have hlen := enc_len T
  have hne : (ByteArray.toList ⟨(enc T).toArray⟩).isEmpty = false := by
    rw [Lib.toList_data]
    show (enc T).isEmpty = false
    cases hE : enc T with
    | nil => rw [hE] at hlen; simp at hlen; omega
    | cons a l => rfl
  have hsz : ByteArray.size ⟨(enc T).toArray⟩ = (enc T).length := by show (enc T).toArray.size = _; simp
  have HRD := Lib.hid (bytes_rd (w.alloc (.cells #[.string ⟨(enc T).toArray⟩] 63)) 5 (enc T))
  generalize hs : (⟨(enc T).toArray⟩ : ByteArray) = s at *
  have hcv := Lib.run_convert_string_bytes (P := Tryd.prog) (w.alloc (.cells #[.string s] 63)) 9 106 5 s Tryd.underlying9 Tryd.underlying106 Tryd.underlying5
  clear hs
  have hbb : Below w.heap.size w (Lib.bytesWorld (w.alloc (.cells #[.string s] 63)) 5 s) := ((Below.refl _ _).alloc (Nat.le_refl _) _).trans ((below_bytes _ 5 s).mono (by simp))
  have hca : s.size ≤ grownCap (w.alloc (.cells #[.string s] 63)) s.size 0 5 := grownCap_ge _ _ _ _
  rw [World.size_alloc] at HRD
  have HBB := Lib.hid hbb
  have HLEN := Lib.hid (And.intro hlen hsz)
  have hel0 : (enc T).length ≤ 16777216 := by omega
  clear hbb hlen hsz
  go_enter Tryd.func42, Tryd.ntmps42
  go_wp2
  clear hcv
  generalize hwb : Lib.bytesWorld _ _ _ = wb at *
  generalize hcp : grownCap _ _ _ _ = cp at *
  clear hwb hcp
  go_loopw [2, 3] (fun vr vb wr => ∃ (k c : Nat) (ao : Option Addr), vb = .slice ao (enc (T.drop k)).length c ∧ k ≤ T.length ∧ (enc (T.drop k)).length ≤ c ∧ (k < T.length → ao = some ⟨w.heap.size + 1, (enc (T.take k)).length, none⟩) ∧ Hid (DRel T w wb vr k wr)) (fun _ vb _ => lenV vb)
  case atStart =>
    refine ⟨0, cp, some ⟨w.heap.size + 1, 0, none⟩, ?_, Nat.zero_le _, ?_, fun _ => rfl, World.ownsRow_nil _ _ _ _, HBB.out, Below.refl _ _⟩
    · rw [show enc (T.drop 0) = enc T from rfl, ← HLEN.out.2]
    · rw [show enc (T.drop 0) = enc T from rfl, ← HLEN.out.2]
      exact hca
  case round =>
    obtain ⟨k, c, ao, rfl, hk, hc, hao, HS⟩ := hrel
    by_cases hlt : k < T.length
    · obtain rfl := hao hlt
      have hel := enc_drop T k hlt
      have het := enc_take T k hlt
      have hsn := kv_snoc T k hlt
      have hpm : (T.getD k ([], [])).1.length + (T.getD k ([], [])).2.length ≤ sz T := sz_mem (by simp [List.getD, hlt])
      obtain ⟨hst1, hst2⟩ := pair_at HRD.out hz k hlt
      have hgb := HRD.out.1
      generalize (T.getD k ([], [])).1 = a at *
      generalize (T.getD k ([], [])).2 = m at *
      generalize (enc (T.drop k)).length = E at *
      generalize hE' : (enc (T.drop (k + 1))).length = E' at *
      generalize (enc (T.take k)).length = o at *
      generalize ho' : (enc (T.take (k + 1))).length = o' at *
      have HEQ := Lib.hid (And.intro hE' ho')
      clear hE' ho'
      have z1 : (0 : Int) < E := by omega
      have z2 : (4 : Int) ≤ c := by omega
      have z3 : ¬ c = 4 := by omega
      have z4 : (4 : Int) + (a.length : Int) ≤ c := by omega
      have HA := Lib.hid (hst1.below (HS.out.2.2) hgb)
      have HM := Lib.hid (hst2.below (HS.out.2.2) hgb)
      have HE := Lib.hid (And.intro hel (And.intro het hsn))
      clear hst1 hst2 hel het hsn hao
      have hx1 : IntKind.u32.wrap (4 + (a.length : Int)) = 4 + (a.length : Int) := u32_four (by omega)
      have hx2 : IntKind.u32.wrap (4 + (m.length : Int)) = 4 + (m.length : Int) := u32_four (by omega)
      have HN1 := Lib.hid (show Calls Tryd.prog 50 #[.agg #[], .slice (some ⟨w.heap.size + 1, o, none⟩) 4 c] wr.drew _ from StrAt.num (s := a) HA.out)
      go_wp2
      go_still_tail 3, (by kernel_rfl)
      change wpList _ _ _ _ _ wr.drew
      go_wp2_with fail
      refine HN1.out.mono ?_
      rintro e w1 ⟨rfl, hb1⟩
      have s1 : wr.heap.size ≤ w1.heap.size := hb1.size
      have hgr : w.heap.size + 1 < wr.heap.size := Nat.lt_of_lt_of_le hgb HS.out.2.2.size
      have hcv1 := (StrAt.below (w := wr.drew) (w' := w1) HA.out hb1 hgr).conv (c := c - 4)
      have HM1 := Lib.hid (StrAt.below (w := wr.drew) (w' := w1) HM.out hb1 hgr)
      have z5 : (4 : Int) + (a.length : Int) ≤ E := by have := HE.out.1; omega
      have z6 : ¬ c = 4 + a.length := by have := HE.out.1; omega
      have HB1 := Lib.hid (below_undrew hb1)
      clear hb1 HA HM HN1 z1 z2 z3
      obtain ⟨c1, hc1⟩ : ∃ c1, c - (4 + a.length) = c1 := ⟨_, rfl⟩
      obtain ⟨E1, hE1⟩ : ∃ E1, E - (4 + a.length) = E1 := ⟨_, rfl⟩
      obtain ⟨o1, ho1⟩ : ∃ o1, o + (4 + a.length) = o1 := ⟨_, rfl⟩
      rw [ho1] at HM1
      have hE2 : E1 = 4 + m.length + E' := by have := HE.out.1; omega
      have hc2 : E1 ≤ c1 := by omega
      have ho2 : o' = o1 + (4 + m.length) := by have := HE.out.2.1; omega
      have z7 : (4 : Int) ≤ c1 := by omega
      have HE2 := Lib.hid (And.intro hE2 ho2)
      clear hE2 ho2
      have HN2 := Lib.hid (show Calls Tryd.prog 50 #[.agg #[], .slice (some ⟨w.heap.size + 1, o1, none⟩) 4 c1] w1.drew _ from StrAt.num (s := m) HM1.out)
      go_wp2
      clear hcv1
      go_still_tail 3, (by kernel_rfl)
      change wpList _ _ _ _ _ w1.drew
      go_wp2_with fail
      refine HN2.out.mono ?_
      rintro e w2 ⟨rfl, hb2⟩
      have s2 : w1.heap.size ≤ w2.heap.size := hb2.size
      have HCV := Lib.hid (StrAt.below (w := w1.drew) (w' := w2) HM1.out hb2 (by show _ < w1.heap.size; omega))
      have hb02 : Below wr.heap.size wr w2 := HB1.out.trans ((below_undrew hb2).mono s1)
      have HO2 := Lib.hid (And.intro (own_lie HS.out.1 hb02) (And.intro (HS.out.2.1.trans (hb02.mono HS.out.2.1.size)) (HS.out.2.2.trans (hb02.mono HS.out.2.2.size))))
      have hsz2 := HO2.out.2.1.size
      have hsz3 := HO2.out.2.2.size
      have hbw := HBB.out.size
      clear hb2 hb02 HM1 HN2 hc1 hE1 ho1 z5 z6 z7 HB1 HS
      obtain ⟨c2, hc3⟩ : ∃ c2, c1 - (4 + m.length) = c2 := ⟨_, rfl⟩
      have hE3 : E1 - (4 + m.length) = E' := by have := HE2.out.1; omega
      have ho3 : o1 + (4 + m.length) = o' := HE2.out.2.symm
      have z9 : (4 : Int) + (m.length : Int) ≤ c1 := by have := HE2.out.1; omega
      have z10 : (4 : Int) + (m.length : Int) ≤ E1 := by have := HE2.out.1; omega
      have z11 : (4 : Int) ≤ c1 := by omega
      have z12 : E' ≤ c2 := by omega
      have HN := Lib.hid (newsD w2 96 (.string ⟨a.toArray⟩) (.string ⟨m.toArray⟩))
      have hcases : (c1 = 4 ∧ m.length = 0 ∧ E' = 0) ∨ (¬ c1 = 4 ∧ c1 = 4 + m.length ∧ E' = 0) ∨ (¬ c1 = 4 ∧ ¬ c1 = 4 + m.length) := by omega
      rcases hcases with ⟨y1, y2, y3⟩ | ⟨y1, y2, y3⟩ | ⟨y1, y2⟩
      · subst y1
        have HY := Lib.hid y3
        have hcv2 := conv_none w2 (w.heap.size + 1) o1 m y2
        go_wp2_with (at_builtin; refine wpList_append_own _ rfl _ _ 94 rfl wb.heap.size 96 i0 (.agg #[.string ⟨#[]⟩, .string ⟨#[]⟩]) 2 32 Tryd.underlying94 hi hz0 hz1 hz2 rfl (by decide) u2 k (kvCells (T.take k)) rfl (HO2.out.1.alloc _) ⟨w2.heap.size, 0, none⟩ 1 1 [.string ⟨a.toArray⟩, .string ⟨m.toArray⟩] rfl rfl HN.out (by simp [Value.oneCell']) (by unfold maxLen; omega) (by omega) (by simp; omega) ?_; intro v' w3 hown' hgrow _)
        have HF : Hid (DRel T w wb v' (k + 1) w3) := by
          refine ⟨?_, ?_, ?_⟩
          · rw [HE.out.2.2]; exact hown'
          · exact (HO2.out.2.1.alloc hsz2 _).grown hgrow (by simp; omega) (fun kk hkk => Nat.le_trans hbw (HO2.out.1.lt kk hkk).1)
          · exact (HO2.out.2.2.alloc hsz3 _).grown hgrow (by simp; omega) (fun kk hkk => (HO2.out.1.lt kk hkk).1)
        clear hown' hgrow HO2 HN hcv2 HCV
        go_roundw
        case rel =>
          exact ⟨k + 1, 0, some ⟨w.heap.size + 1, o1, none⟩, by rw [HEQ.out.1, HY.out], by omega, by rw [HEQ.out.1, HY.out]; omega, fun h => absurd (enc_none (HEQ.out.1.trans HY.out)) (by omega), HF⟩
        case measure => have := HE.out.1; simp [lenV]; omega
      · subst y2
        have HY := Lib.hid y3
        clear hc3
        have y4 : ¬ m.length = 0 := by omega
        have y5 : ¬ m = [] := fun e => y4 (by rw [e]; rfl)
        have hcv2 := HCV.out.conv (c := m.length)
        go_wp2_with (at_builtin; refine wpList_append_own _ rfl _ _ 94 rfl wb.heap.size 96 i0 (.agg #[.string ⟨#[]⟩, .string ⟨#[]⟩]) 2 32 Tryd.underlying94 hi hz0 hz1 hz2 rfl (by decide) u2 k (kvCells (T.take k)) rfl (HO2.out.1.alloc _) ⟨w2.heap.size, 0, none⟩ 1 1 [.string ⟨a.toArray⟩, .string ⟨m.toArray⟩] rfl rfl HN.out (by simp [Value.oneCell']) (by unfold maxLen; omega) (by omega) (by simp; omega) ?_; intro v' w3 hown' hgrow _)
        have HF : Hid (DRel T w wb v' (k + 1) w3) := by
          refine ⟨?_, ?_, ?_⟩
          · rw [HE.out.2.2]; exact hown'
          · exact (HO2.out.2.1.alloc hsz2 _).grown hgrow (by simp; omega) (fun kk hkk => Nat.le_trans hbw (HO2.out.1.lt kk hkk).1)
          · exact (HO2.out.2.2.alloc hsz3 _).grown hgrow (by simp; omega) (fun kk hkk => (HO2.out.1.lt kk hkk).1)
        clear hown' hgrow HO2 HN hcv2 HCV
        go_roundw
        case rel =>
          exact ⟨k + 1, 0, some ⟨w.heap.size + 1, o1, none⟩, by rw [HEQ.out.1, HY.out], by omega, by rw [HEQ.out.1, HY.out]; omega, fun h => absurd (enc_none (HEQ.out.1.trans HY.out)) (by omega), HF⟩
        case measure => have := HE.out.1; simp [lenV]; omega
      · have hcv2 := HCV.out.conv (c := c1 - 4)
        go_wp2_with (at_builtin; refine wpList_append_own _ rfl _ _ 94 rfl wb.heap.size 96 i0 (.agg #[.string ⟨#[]⟩, .string ⟨#[]⟩]) 2 32 Tryd.underlying94 hi hz0 hz1 hz2 rfl (by decide) u2 k (kvCells (T.take k)) rfl (HO2.out.1.alloc _) ⟨w2.heap.size, 0, none⟩ 1 1 [.string ⟨a.toArray⟩, .string ⟨m.toArray⟩] rfl rfl HN.out (by simp [Value.oneCell']) (by unfold maxLen; omega) (by omega) (by simp; omega) ?_; intro v' w3 hown' hgrow _)
        have HF : Hid (DRel T w wb v' (k + 1) w3) := by
          refine ⟨?_, ?_, ?_⟩
          · rw [HE.out.2.2]; exact hown'
          · exact (HO2.out.2.1.alloc hsz2 _).grown hgrow (by simp; omega) (fun kk hkk => Nat.le_trans hbw (HO2.out.1.lt kk hkk).1)
          · exact (HO2.out.2.2.alloc hsz3 _).grown hgrow (by simp; omega) (fun kk hkk => (HO2.out.1.lt kk hkk).1)
        clear hown' hgrow HO2 HN hcv2 HCV
        go_roundw
        case rel =>
          exact ⟨k + 1, c2, some ⟨w.heap.size + 1, o', none⟩, by rw [HEQ.out.1], by omega, by rw [HEQ.out.1]; exact z12, fun _ => by rw [HEQ.out.2], HF⟩
        case measure => have := HE.out.1; simp [lenV]; omega
    · have hE0 : (enc (T.drop k)).length = 0 := by rw [List.drop_of_length_le (by omega)]; rfl
      obtain rfl : k = T.length := by omega
      go_wp2
      go_ret
      refine ⟨u2, rfl, ?_, HS.out.2.1⟩
      have h1 := HS.out.1
      rw [List.take_of_length_le (Nat.le_refl _)] at h1
      exact own_down h1 HBB.out.size
set_option maxHeartbeats 800000 in
theorem dec_none (w : World) : Calls Tryd.prog 42 #[.agg #[.string ⟨#[]⟩]] w (KvSay 96 [] w) := by
  have hne : (ByteArray.toList ⟨#[]⟩).isEmpty = true := by kernel_rfl
  go_enter Tryd.func42, Tryd.ntmps42
  go_wp2
  go_ret
  exact ⟨_, rfl, World.ownsRow_nil _ _ _ _, (Below.refl _ _).alloc (Nat.le_refl _) _⟩
/-- DecodeIntoArray -/
theorem dec_any (T : List KV) (w : World) (hl : T.length ≤ 1048576) (hz : sz T ≤ 1048576) : Calls Tryd.prog 42 #[.agg #[.string ⟨(enc T).toArray⟩]] w (KvSay 96 T w) := by
  rcases Nat.eq_zero_or_pos T.length with h0 | h0
  · obtain rfl := List.eq_nil_of_length_eq_zero h0
    exact dec_none w
  · exact dec_some T w h0 hl hz
end Go.Proofs.YtfndlifolohlgaaDoor
