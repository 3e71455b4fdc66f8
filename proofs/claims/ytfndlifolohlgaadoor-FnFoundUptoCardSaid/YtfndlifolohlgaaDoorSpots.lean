/-
  The walks of MakeLineColumnTracker and impl.Spots: for pieces that begin at boundaries of a valid text, the list of their spots, in new memory.
  Conditions: the text is valid UTF-8 and no longer than 2^20 bytes; each piece lies within it and begins at a boundary; at most 2^20 pieces; the two tables of unicode/utf8 hold what the program's text lays.
-/
import Derived.Test.YtfndlifolohlgaaDoorMsg
import Derived.Test.YtfndlifolohlgaaDoorAll
import Derived.Deep.RegionHeld3
import Derived.Deep.AppendLies
import Derived.OwnWalk
namespace Go.Proofs.YtfndlifolohlgaaDoor
open Go Go.RowKit Ln
set_option maxRecDepth 100000

set_option maxHeartbeats 800000 in
theorem make_any (s : ByteArray) (h : Nat) (w : World) (c0 : w.cell? ⟨h, 0, none⟩ = some (.string ByteArray.empty)) (c1 : w.cell? ⟨h, 1, none⟩ = some (.string ByteArray.empty)) (c3 : w.cell? ⟨h, 3, none⟩ = some (.string s)) (hh : h < w.heap.size) :
    Calls Tryd.prog 30 #[.pointer (some ⟨h, 0, none⟩)] w fun e w' => e = .returned (.agg (tkCells s 0 0 0 0 true false)) ∧ Below w.heap.size w w' := by
  have e0 : ∀ o1 : Obj, (w.alloc o1).cell? ⟨h, 0, none⟩ = some (.string ByteArray.empty) := fun o1 => (World.cell?_alloc_lt w o1 _ hh).trans c0
  have e1 : ∀ o1 : Obj, (w.alloc o1).cell? ⟨h, 1, none⟩ = some (.string ByteArray.empty) := fun o1 => (World.cell?_alloc_lt w o1 _ hh).trans c1
  have e3 : ∀ o1 : Obj, (w.alloc o1).cell? ⟨h, 3, none⟩ = some (.string s) := fun o1 => (World.cell?_alloc_lt w o1 _ hh).trans c3
  go_enter Tryd.func30, Tryd.ntmps30
  go_wp2
  generalize hw2 : w.alloc _ = w2
  have f0 : w2.cell? ⟨h, 0, none⟩ = some (.string ByteArray.empty) := by rw [← hw2]; exact e0 _
  have f1 : w2.cell? ⟨h, 1, none⟩ = some (.string ByteArray.empty) := by rw [← hw2]; exact e1 _
  have f3 : w2.cell? ⟨h, 3, none⟩ = some (.string s) := by rw [← hw2]; exact e3 _
  have HW2 := Lib.hid hw2
  clear hw2 e0 e1 e3 c0 c1 c3
  go_still_tail 9, (by kernel_rfl)
  change wpList _ _ _ _ _ w2.drew
  have hw2 := HW2.out
  subst hw2
  clear HW2 f0 f1 f3
  go_wp2
  exact bodyPost_ret (v := .agg (tkCells s 0 0 0 0 true false)) (by simp [results, Tryd.results30, go_sem, tkCells]) rfl ⟨rfl, (((Below.refl _ _).alloc (Nat.le_refl _) _)).drew⟩
theorem make_at (s : ByteArray) (w : World) (cs : Array Value) (e0 : cs[0]? = some (.string ByteArray.empty)) (e1 : cs[1]? = some (.string ByteArray.empty)) (e3 : cs[3]? = some (.string s)) :
    Calls Tryd.prog 30 #[.pointer (some ⟨w.heap.size, 0, none⟩)] (w.alloc (.cells cs 69)) fun e w' =>
      e = .returned (.agg #[.string s, .string ByteArray.empty, .string ByteArray.empty, .int .i32 0, .int .i32 0, .int .i32 0, .int .i32 0, .bool true, .bool false, .bool true]) ∧ Below (w.alloc (.cells cs 69)).heap.size (w.alloc (.cells cs 69)) w' :=
  make_any s w.heap.size _ (((Bk.new w 69 cs).cell 0).trans e0) (((Bk.new w 69 cs).cell 1).trans e1) (((Bk.new w 69 cs).cell 3).trans e3) (Bk.new w 69 cs).lt
theorem info30 : (Tryd.prog.info? 30).map (fun i => (i.zero, i.size, i.bytes)) = some (some (.agg #[.int .i64 0, .int .i64 0, .int .i64 0, .string ⟨#[]⟩]), 4, 40) := by kernel_rfl

/-- a piece's spot -/
def spotCells (s : ByteArray) (p : Int × Int) : List Value :=
  [.int .i64 ((Ln.L s.data.toList p.1.toNat : Nat) + 1), .int .i64 (p.1 - (Ln.S s.data.toList p.1.toNat : Nat)), .int .i64 p.2, .string (s.extract (Ln.S s.data.toList p.1.toNat) (Ln.E s.data.toList p.1.toNat))]
def spotsCells (s : ByteArray) (ps : List (Int × Int)) (k : Nat) : List Value := (ps.take k).flatMap (spotCells s)
theorem spots_succ (s : ByteArray) (ps : List (Int × Int)) (k : Nat) (hk : k < ps.length) : spotsCells s ps (k + 1) = spotsCells s ps k ++ spotCells s (ps.getD k (0, 0)) := by
  unfold spotsCells
  rw [List.take_succ_eq_append_getElem hk, List.flatMap_append]
  simp [List.getD, hk]
theorem TkI.row {w w' : World} {g : Nat} {row : Option Nat} {s : ByteArray} {o : Int} {i : Nat} (h : TkI w g s o i) (hg : w.grownBy w' row) (hne : row ≠ some g) : TkI w' g s o i := by
  obtain ⟨ls, le, hs, he, hb, h1, h2⟩ := h
  exact ⟨ls, le, hs, he, hb.grown hg (fun e => hne e.symm), h1, h2⟩
/-- what Spots comes to -/
def SpotsSay (s : ByteArray) (ps : List (Int × Int)) (w : World) (e : Ending) (w' : World) : Prop :=
  ∃ v, e = .returned v ∧ w'.ownsRow w.heap.size 30 4 v ps.length (spotsCells s ps ps.length) ∧ Below w.heap.size w w'
/-- the loop's relation -/
def SpRel (s : ByteArray) (ps : List (Int × Int)) (g : Nat) (w : World) (v : Value) (k : Nat) (wr : World) : Prop :=
  wr.ownsRow w.heap.size 30 4 v k (spotsCells s ps k) ∧ (∃ o : Nat, Bd s.data.toList o ∧ TkI wr g s o o) ∧ Below w.heap.size w wr

set_option maxHeartbeats 4000000 in
theorem spots_some (s : ByteArray) (b off len cap : Nat) (ps : List (Int × Int)) (w : World) (hl : 0 < len) (hm : len ≤ 1048576) (hok : AllOk s ps) (hT : Lib.Utf8Tabs 1 2 w)
    (hr : PcRd w w.heap.size (some ⟨b, off, none⟩) len ps) : Calls Tryd.prog 14 #[.string s, .slice (some ⟨b, off, none⟩) len cap] w (SpotsSay s ps w) := by
  obtain ⟨hz, hv, hpc⟩ := hok
  have h3 := tabs_lt hT
  have HR := Lib.hid hr
  have HV := Lib.hid hv
  have HP := Lib.hid hpc
  have HT := Lib.hid hT
  clear hr hv hpc hT
  go_enter Tryd.func14, Tryd.ntmps14
  go_wp2_with (go_at_call 30; refine (make_at s w _ rfl rfl rfl).mono ?_; rintro e w1 ⟨rfl, hb1⟩)
  have hsz1 := hb1.size
  simp only [World.size_alloc] at hsz1
  have HB1 := Lib.hid (((Below.refl w.heap.size w).alloc (Nat.le_refl _) _).trans (hb1.mono (by simp)))
  clear hb1
  go_loopw [7, 16] (fun v i wr => ∃ k : Nat, i = .int .i64 k ∧ k ≤ len ∧ Hid (SpRel s ps w1.heap.size w v k wr)) (fun _ i _ => len - (intOf i).toNat)
  case atStart =>
    refine ⟨0, rfl, Nat.zero_le _, World.ownsRow_nil _ _ _ _, ⟨0, HV.out.1, 0, 0, true, false, Bk.new w1 71 _, fun _ => rfl, fun h => by cases h⟩, ?_⟩
    exact HB1.out.alloc (by omega) _
  case round =>
    obtain ⟨k, rfl, hk, HS⟩ := hrel
    by_cases hlt : k < len
    · obtain ⟨hown, ⟨o, hbo, htk⟩, hbl⟩ := HS.out
      have hlen := HR.out.1
      obtain ⟨b', off', he, _, hc⟩ := (HR.out.below hbl).2 hl
      simp only [Option.some.injEq, Addr.mk.injEq] at he
      obtain ⟨rfl, rfl, _⟩ := he
      have hcell := hc k hlt
      have hpk := HP.out k (by omega)
      obtain ⟨a, m, hap⟩ : ∃ a m, ps.getD k (0, 0) = (a, m) := ⟨_, _, rfl⟩
      rw [hap] at hcell hpk
      obtain ⟨hc1, hc2⟩ := hcell
      obtain ⟨p1, p2, p3, p4, p5, p6⟩ := hpk
      simp only at hc1 hc2 p1 p2 p3 p4 p5 p6
      obtain ⟨q, rfl⟩ := Int.eq_ofNat_of_zero_le p1
      obtain ⟨n, rfl⟩ := Int.eq_ofNat_of_zero_le p2
      rw [Int.toNat_natCast] at p5 p6
      have HAP := Lib.hid hap
      have hsize := hbl.size
      have hgl : w1.heap.size < wr.heap.size := by
        obtain ⟨ls, le, hs, he, hbk, _, _⟩ := htk
        exact hbk.lt
      have HX := Lib.hid (And.intro hown (And.intro htk (And.intro hbl (And.intro hbo p5))))
      clear hc hap hown htk hbl hbo p5 p6 HS hlen
      go_wp2_with fail
      refine (of_any _ _ _ (by omega) (by omega) (by omega) (by omega)).mono ?_
      rintro e w2 ⟨rfl, hb2⟩
      have hb2' := (Below.refl wr.heap.size wr).alloc (Nat.le_refl _) _ |>.trans (hb2.mono (by simp))
      go_wp2_with fail
      refine (msg_any s w1.heap.size o q n w2 hz HV.out HX.out.2.2.2.1 HX.out.2.2.2.2 (by omega) (by omega) (tabs_below (tabs_below HT.out HX.out.2.2.1 (by omega)) hb2' (by omega)) (HX.out.2.1.below hb2' hgl)).mono ?_
      rintro e w3 ⟨mm, rfl, hmm, hbm, htk3, hg3⟩
      have d3 : w3.cell? ⟨mm, 3, none⟩ = some (.string (s.extract (Ln.S s.data.toList q) (Ln.E s.data.toList q))) := hbm.cell 3
      have d5 : w3.cell? ⟨mm, 5, none⟩ = some (.int .i64 ((Ln.L s.data.toList q : Nat) + 1)) := hbm.cell 5
      have d6 : w3.cell? ⟨mm, 6, none⟩ = some (.int .i64 ((q : Int) - (Ln.S s.data.toList q : Nat))) := hbm.cell 6
      have d7 : w3.cell? ⟨mm, 7, none⟩ = some (.int .i64 n) := hbm.cell 7
      have hne : u7.ownBlock ≠ some w1.heap.size := by
        obtain ⟨ls, le, hs, he, hbk, _, _⟩ := HX.out.2.1
        exact own_ne HX.out.1 hbk (show (30 : TypeId) ≠ 71 by decide)
      have hown3 := (HX.out.1.kept (gb_below hb2' (g := some w1.heap.size)) (.inr hne)).kept hg3 (.inr hne)
      have hsz2 := hb2.size
      simp only [World.size_alloc] at hsz2
      have hsz3 := hg3.size
      have hnm : u7.ownBlock ≠ some mm := own_ne hown3 hbm (show (30 : TypeId) ≠ 82 by decide)
      have hmlt := hbm.lt
      have HY := Lib.hid (And.intro hown3 (And.intro htk3 (And.intro hb2' (And.intro hg3 hne))))
      have hspot : spotCells s (ps.getD k (0, 0)) = [.int .i64 ((Ln.L s.data.toList q : Nat) + 1), .int .i64 ((q : Int) - (Ln.S s.data.toList q : Nat)), .int .i64 n, .string (s.extract (Ln.S s.data.toList q) (Ln.E s.data.toList q))] := by
        rw [HAP.out]; rfl
      have HSP := Lib.hid hspot
      clear hbm htk3 hg3 hown3 hb2 hb2' hne hspot hc1 hc2
      generalize Ln.L s.data.toList q = Lq at *
      generalize Ln.S s.data.toList q = Sq at *
      generalize s.extract Sq (Ln.E s.data.toList q) = tx at *
      go_wp2_with fail
      obtain ⟨i0, hi0, hz0, hz1, hz2⟩ := info_parts info30
      have HN := Lib.hid hnm
      clear hnm
      go_region_held3 (fun w' => w'.cell? ⟨mm, 3, none⟩ = some (.string tx) ∧ w'.cell? ⟨mm, 5, none⟩ = some (.int .i64 ((Lq : Int) + 1)) ∧ w'.cell? ⟨mm, 6, none⟩ = some (.int .i64 ((q : Int) - Sq)) ∧ w'.cell? ⟨mm, 7, none⟩ = some (.int .i64 n))
        (first
          | go_keep
          | (go_split_ands
             refine ⟨?_, ?_, ?_, ?_⟩
             · (rw [hgrow.cell_far _ (by simp; omega) (Ne.symm HN.out)]; assumption)
             · (rw [hgrow.cell_far _ (by simp; omega) (Ne.symm HN.out)]; assumption)
             · (rw [hgrow.cell_far _ (by simp; omega) (Ne.symm HN.out)]; assumption)
             · (rw [hgrow.cell_far _ (by simp; omega) (Ne.symm HN.out)]; assumption)))
        ((refine step_append_lies _ (by rfl) _ _ _ (by rfl) w.heap.size 30 i0 _ 4 40 Tryd.underlying27 hi0 hz0 hz1 hz2 rfl (by omega) u7 k (spotsCells s ps k) (by rfl) ((HY.out.1.alloc _).drew)
            ⟨w3.heap.size, 0, none⟩ 1 1 [.int .i64 ((Lq : Int) + 1), .int .i64 ((q : Int) - Sq), .int .i64 n, .string tx] (by rfl) (by rfl) (World.news_of_block (cs := #[.int .i64 ((Lq : Int) + 1), .int .i64 ((q : Int) - Sq), .int .i64 n, .string tx]) (t := 30) (fr := (0, 0)) (heap_alloc_new w3 _)) (by simp [Value.oneCell'])
            (by omega) (by unfold maxLen; omega) (by omega) (by simp; omega) (w3.heap.size + 1) (by simp) ?_; intro gg cap' w4 hown1 hgrow hat hlt4))
      have HF : Hid (SpRel s ps w1.heap.size w (.slice (some ⟨gg, 0, none⟩) (k + 1) cap') (k + 1) w4) := by
        have hlen := HR.out.1
        obtain ⟨y1, y2, y3, y4, y5⟩ := HY.out
        refine ⟨?_, ⟨q, HX.out.2.2.2.2, ?_⟩, ?_⟩
        · rw [spots_succ s ps k (by omega), HSP.out]
          exact hown1
        · exact (y2.below (B := w3.heap.size) (((Below.refl _ _).alloc (Nat.le_refl _) _).drew) (by omega)).row hgrow y5
        · have z1 := HX.out.2.2.1.trans (y3.mono hsize)
          have z2 : Below w.heap.size w w3 := below_gb z1 y4 (by omega) (by omega)
          refine ((z2.alloc (by omega) _).drew).grown hgrow (by simp; omega) (fun kk hkk => ?_)
          exact (y1.lt kk hkk).1
      clear hown1 hgrow hat hlt4 HY HX
      go_wp2
      go_roundw
      case rel => exact ⟨k + 1, by go_num, by omega, HF⟩
      case measure => simp [intOf]; omega
    · go_wp2
      go_ret
      have hlen := HR.out.1
      obtain rfl : k = ps.length := by omega
      exact ⟨u7, rfl, HS.out.1, HS.out.2.2⟩
set_option maxHeartbeats 800000 in
theorem spots_none (s : ByteArray) (ao : Option Addr) (cap : Nat) (w : World) : Calls Tryd.prog 14 #[.string s, .slice ao 0 cap] w (SpotsSay s [] w) := by
  go_enter Tryd.func14, Tryd.ntmps14
  go_wp2_with (go_at_call 30; refine (make_at s w _ rfl rfl rfl).mono ?_; rintro e w1 ⟨rfl, hb1⟩)
  have hsz1 := hb1.size
  simp only [World.size_alloc] at hsz1
  have HB1 := Lib.hid (((Below.refl w.heap.size w).alloc (Nat.le_refl _) _).trans (hb1.mono (by simp)))
  clear hb1
  refine wp_loop_rounds 1 ?_
  rw [rounds_succ]
  go_wp2
  go_ret
  exact ⟨_, rfl, World.ownsRow_nil _ _ _ _, HB1.out.alloc (by omega) _⟩
/-- impl.Spots -/
theorem spots_any (s : ByteArray) (ao : Option Addr) (len cap : Nat) (ps : List (Int × Int)) (w : World) (hm : len ≤ 1048576) (hok : AllOk s ps) (hT : Lib.Utf8Tabs 1 2 w)
    (hr : PcRd w w.heap.size ao len ps) : Calls Tryd.prog 14 #[.string s, .slice ao len cap] w (SpotsSay s ps w) := by
  rcases Nat.eq_zero_or_pos len with h0 | h0
  · subst h0
    have : ps = [] := List.eq_nil_of_length_eq_zero hr.1
    subst this
    exact spots_none s ao cap w
  · obtain ⟨b, off, rfl, _, _⟩ := hr.2 h0
    exact spots_some s b off len cap ps w h0 hm hok hT hr
end Go.Proofs.YtfndlifolohlgaaDoor
