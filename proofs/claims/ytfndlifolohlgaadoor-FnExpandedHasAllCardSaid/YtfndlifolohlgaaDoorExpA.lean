/-
  The walks of Range.End, spec.Both, Range.ExpandBy and impl.Expanded: a piece that is expanded by others is the one that the reference gives.
  Conditions: beginnings and lengths are at most 2^28; the slice reads as the pieces ps, and lies below the heap's size.
-/
import Derived.Test.YtfndlifolohlgaaDoorQuoted
import Derived.Deep.RegionHeld3
namespace Go.Proofs.YtfndlifolohlgaaDoor
open Go Go.RowKit Ln
set_option maxRecDepth 100000

/-- the least piece that has two others -/
def bothP (a b : Int × Int) : Int × Int := if a.2 = 0 then b else (min a.1 b.1, max (a.1 + a.2) (b.1 + b.2) - min a.1 b.1)
def InB (b : Int × Int) : Prop := 0 ≤ b.1 ∧ b.1 ≤ 268435456 ∧ 0 ≤ b.2 ∧ b.2 ≤ 268435456
def InW (a : Int × Int) : Prop := 0 ≤ a.1 ∧ a.1 ≤ 268435456 ∧ 0 ≤ a.2 ∧ a.1 + a.2 ≤ 536870912
theorem inW_of {b : Int × Int} (h : InB b) : InW b := by unfold InB at h; unfold InW; omega
theorem inW_both {a b : Int × Int} (ha : InW a) (hb : InB b) : InW (bothP a b) := by
  unfold bothP
  split
  · exact inW_of hb
  · unfold InW at *; unfold InB at hb; simp only; omega

set_option maxHeartbeats 400000 in
theorem end_any (a n : Int) (w : World) (h1 : 0 ≤ a) (h3 : 0 ≤ n) (h4 : a + n ≤ 1073741824) :
    Calls Tryd.prog 38 #[.agg #[.int .i32 a, .int .i32 n]] w fun e w' => e = .returned (.int .i32 (a + n)) ∧ Below w.heap.size w w' := by
  go_enter Tryd.func38, Tryd.ntmps38
  go_wp2
  go_ret
  exact ⟨rfl, (Below.refl _ _).alloc (Nat.le_refl _) _⟩

set_option maxHeartbeats 1600000 in
theorem both_any (a b : Int × Int) (w : World) (ha : InW a) (hb : InB b) :
    Calls Tryd.prog 18 #[.agg #[.int .i64 a.1, .int .i64 a.2], .agg #[.int .i64 b.1, .int .i64 b.2]] w fun e w' => e = .returned (.agg #[.int .i64 (bothP a b).1, .int .i64 (bothP a b).2]) ∧ Below w.heap.size w w' := by
  obtain ⟨a1, a2⟩ := a
  obtain ⟨b1, b2⟩ := b
  unfold InW at ha
  unfold InB at hb
  simp only at ha hb ⊢
  obtain ⟨u1, u2, u3, u4⟩ := ha
  obtain ⟨v1, v2, v3, v4⟩ := hb
  by_cases h0 : a2 = 0
  · have t0 : ((a2 : Int) == 0) = true := by simp [h0]
    have e : bothP (a1, a2) (b1, b2) = (b1, b2) := by unfold bothP; rw [if_pos h0]
    rw [e]
    clear h0 e
    go_enter Tryd.func18, Tryd.ntmps18
    go_wp2
    exact bodyPost_ret (v := .agg #[.int .i64 b1, .int .i64 b2]) (by simp [results, Tryd.results18, go_sem]) rfl ⟨rfl, (((Below.refl _ _).alloc (Nat.le_refl _) _).alloc (by simp) _).alloc (by simp; omega) _⟩
  · have t0 : ((a2 : Int) == 0) = false := by simp [h0]
    have e : bothP (a1, a2) (b1, b2) = (min a1 b1, max (a1 + a2) (b1 + b2) - min a1 b1) := by unfold bothP; rw [if_neg h0]
    rw [e]
    clear e
    have w1 : IntKind.i64.wrap (a1 + a2) = a1 + a2 := IntWalk.i64_in _ (by omega)
    have w2 : IntKind.i64.wrap (b1 + b2) = b1 + b2 := IntWalk.i64_in _ (by omega)
    go_enter Tryd.func18, Tryd.ntmps18
    go_wp2
    go_quiet (fail)
    go_wp2
    have hB : ∀ o1 o2 o3 : Obj, Below w.heap.size w (((w.alloc o1).alloc o2).alloc o3) := fun o1 o2 o3 => (((Below.refl _ _).alloc (Nat.le_refl _) _).alloc (by simp) _).alloc (by simp; omega) _
    refine bodyPost_ret (v := .agg #[.int .i64 (min a1 b1), .int .i64 (max (a1 + a2) (b1 + b2) - min a1 b1)]) (by simp [results, Tryd.results18, go_sem]) rfl ⟨rfl, ?_⟩
    exact ((below_dN (hB _ _ _) _).setCell (by simp; omega) _).setCell (by simp; omega) _

/-- what ExpandBy comes to -/
def ExpSays (r : Nat) (c : Int × Int) (w : World) (e : Ending) (w' : World) : Prop := e = .returned (.tuple #[]) ∧ Bk w' r 79 #[.int .i32 c.1, .int .i32 c.2] ∧ w.grownBy w' (some r)
theorem rg0 {w : World} {r : Nat} {x y u : Value} (h : Bk w r 79 #[x, y]) : Bk (w.setCell ⟨r, 0, none⟩ u) r 79 #[u, y] := h.put 0 _
theorem rg1 {w : World} {r : Nat} {x y u : Value} (h : Bk w r 79 #[x, y]) : Bk (w.setCell ⟨r, 1, none⟩ u) r 79 #[x, u] := h.put 1 _

set_option maxHeartbeats 3200000 in
theorem expand_any (r : Nat) (a b : Int × Int) (w : World) (ha : InW a) (hb : InB b) (hbk : Bk w r 79 #[.int .i32 a.1, .int .i32 a.2]) :
    Calls Tryd.prog 36 #[.pointer (some ⟨r, 0, none⟩), .agg #[.int .i32 b.1, .int .i32 b.2]] w (ExpSays r (bothP a b) w) := by
  obtain ⟨a1, a2⟩ := a
  obtain ⟨b1, b2⟩ := b
  unfold InW at ha
  unfold InB at hb
  simp only at ha hb hbk ⊢
  obtain ⟨u1, u2, u3, u4⟩ := ha
  obtain ⟨v1, v2, v3, v4⟩ := hb
  have hr := hbk.lt
  obtain ⟨wa, hwa⟩ : ∃ wa, wa = w.alloc (.cells #[.int .i32 b1, .int .i32 b2] 79) := ⟨_, rfl⟩
  have hbkb : Bk wa w.heap.size 79 #[.int .i32 b1, .int .i32 b2] := by rw [hwa]; exact Bk.new w 79 _
  have hbka : Bk wa r 79 #[.int .i32 a1, .int .i32 a2] := by rw [hwa]; exact hbk.alloc _
  have hga : w.grownBy wa (some r) := by rw [hwa]; exact gb_alloc _ _ _
  have hza : wa.heap.size = w.heap.size + 1 := by rw [hwa]; simp
  have c0 : wa.cell? ⟨r, 0, none⟩ = some (.int .i32 a1) := hbka.cell 0
  have c1 : wa.cell? ⟨r, 1, none⟩ = some (.int .i32 a2) := hbka.cell 1
  have d0 : wa.cell? ⟨w.heap.size, 0, none⟩ = some (.int .i32 b1) := hbkb.cell 0
  have d1 : wa.cell? ⟨w.heap.size, 1, none⟩ = some (.int .i32 b2) := hbkb.cell 1
  have f0 := hbka.free 0
  have f1 := hbka.free 1
  have HA := Lib.hid (And.intro hbka (And.intro hbkb (And.intro hga hza)))
  have HWA := Lib.hid hwa
  clear hbk hbka hbkb hga hza
  by_cases h0 : a2 = 0
  · have t0 : ((a2 : Int) == 0) = true := by simp [h0]
    have e : bothP (a1, a2) (b1, b2) = (b1, b2) := by unfold bothP; rw [if_pos h0]
    rw [e]
    clear h0 e
    go_enter Tryd.func36, Tryd.ntmps36
    go_upto_region 1 with (fail)
    rw [← hwa]
    clear hwa
    go_wp2
    go_end0
    refine ⟨rfl, rg1 (rg0 HA.out.1), gb_trans HA.out.2.2.1 (gb_trans (gb_set _ _ _ _) (gb_set _ _ _ _))⟩
  · have t0 : ((a2 : Int) == 0) = false := by simp [h0]
    have e : bothP (a1, a2) (b1, b2) = (min a1 b1, max (a1 + a2) (b1 + b2) - min a1 b1) := by unfold bothP; rw [if_neg h0]
    rw [e]
    clear e h0
    go_enter Tryd.func36, Tryd.ntmps36
    go_upto_region 1 with (fail)
    rw [← hwa]
    clear hwa
    go_wp2_with fail
    refine (end_any _ _ _ (by omega) (by omega) (by omega)).mono ?_
    rintro e w1 ⟨rfl, hb1⟩
    have hz1 := hb1.size
    have hza := HA.out.2.2.2
    have hk1 : Bk w1 r 79 #[.int .i32 a1, .int .i32 a2] := HA.out.1.below hb1 (by omega)
    have hk2 : Bk w1 w.heap.size 79 #[.int .i32 b1, .int .i32 b2] := HA.out.2.1.below hb1 (by omega)
    have hg1 : w.grownBy w1 (some r) := gb_trans HA.out.2.2.1 (gb_below hb1)
    have c0' : w1.cell? ⟨w.heap.size, 0, none⟩ = some (.int .i32 b1) := hk2.cell 0
    have c1' : w1.cell? ⟨w.heap.size, 1, none⟩ = some (.int .i32 b2) := hk2.cell 1
    have H1 := Lib.hid (And.intro hk1 (And.intro hk2 hg1))
    clear hb1 hk1 hk2 hg1 c0 c1 d0 d1 f0 f1 HA HWA hza
    go_wp2_with fail
    refine (end_any _ _ _ (by omega) (by omega) (by omega)).mono ?_
    rintro e w2 ⟨rfl, hb2⟩
    have hz2 := hb2.size
    have hlt1 := H1.out.2.1.lt
    have hk1 : Bk w2 r 79 #[.int .i32 a1, .int .i32 a2] := H1.out.1.below hb2 (by omega)
    have hk2 : Bk w2 w.heap.size 79 #[.int .i32 b1, .int .i32 b2] := H1.out.2.1.below hb2 (by omega)
    have hg2 : w.grownBy w2 (some r) := gb_trans H1.out.2.2 (gb_below hb2)
    have e0 : w2.cell? ⟨w.heap.size, 0, none⟩ = some (.int .i32 b1) := hk2.cell 0
    have g0 : w2.cell? ⟨r, 0, none⟩ = some (.int .i32 a1) := hk1.cell 0
    have g1 : w2.cell? ⟨r, 1, none⟩ = some (.int .i32 a2) := hk1.cell 1
    have f0 := hk1.free 0
    have f1 := hk1.free 1
    have H2 := Lib.hid (And.intro hk1 hg2)
    clear hb2 hk1 hk2 hg2 c0' c1' H1
    rcases Int.lt_or_le (a1 + a2) (b1 + b2) with hA | hA
    · have em : max (a1 + a2) (b1 + b2) = b1 + b2 := by omega
      have EM := Lib.hid em
      clear em
      rcases Int.lt_or_le b1 a1 with hB | hB
      · have en : min a1 b1 = b1 := by omega
        have EN := Lib.hid en
        clear en
        go_wp2
        go_quiet (fail)
        go_wp2
        go_end0
        rw [EM.out, EN.out]
        refine ⟨rfl, rg1 (rg0 (show Bk (w2.drewN _) r 79 _ from H2.out.1)), gb_trans (gb_drewN H2.out.2 _) (gb_trans (gb_set _ _ _ _) (gb_set _ _ _ _))⟩
      · have en : min a1 b1 = a1 := by omega
        have EN := Lib.hid en
        clear en
        have tb : decide ((b1 : Int) < a1) = false := by simp; omega
        go_wp2
        go_quiet (fail)
        go_wp2
        go_end0
        rw [EM.out, EN.out]
        refine ⟨rfl, rg1 (show Bk (w2.drewN _) r 79 _ from H2.out.1), gb_trans (gb_drewN H2.out.2 _) (gb_set _ _ _ _)⟩
    · have em : max (a1 + a2) (b1 + b2) = a1 + a2 := by omega
      have EM := Lib.hid em
      clear em
      have ta : decide (a1 + a2 < b1 + b2) = false := by simp; omega
      rcases Int.lt_or_le b1 a1 with hB | hB
      · have en : min a1 b1 = b1 := by omega
        have EN := Lib.hid en
        clear en
        go_wp2
        go_quiet (fail)
        go_wp2
        go_end0
        rw [EM.out, EN.out]
        refine ⟨rfl, rg1 (rg0 (show Bk (w2.drewN _) r 79 _ from H2.out.1)), gb_trans (gb_drewN H2.out.2 _) (gb_trans (gb_set _ _ _ _) (gb_set _ _ _ _))⟩
      · have en : min a1 b1 = a1 := by omega
        have EN := Lib.hid en
        clear en
        have tb : decide ((b1 : Int) < a1) = false := by simp; omega
        go_wp2
        go_quiet (fail)
        go_wp2
        go_end0
        rw [EM.out, EN.out]
        refine ⟨rfl, rg1 (show Bk (w2.drewN _) r 79 _ from H2.out.1), gb_trans (gb_drewN H2.out.2 _) (gb_set _ _ _ _)⟩

/-- the piece, expanded by the first k others -/
def foldB (p : Int × Int) (ps : List (Int × Int)) (k : Nat) : Int × Int := (ps.take k).foldl bothP p
theorem foldB_succ (p : Int × Int) (ps : List (Int × Int)) (k : Nat) (hk : k < ps.length) : foldB p ps (k + 1) = bothP (foldB p ps k) (ps.getD k (0, 0)) := by
  unfold foldB
  rw [List.take_succ_eq_append_getElem hk, List.foldl_append]
  simp [List.getD, hk]
theorem foldB_in {p : Int × Int} {ps : List (Int × Int)} (hp : InB p) (hall : ∀ k, k < ps.length → InB (ps.getD k (0, 0))) : ∀ k, k ≤ ps.length → InW (foldB p ps k)
  | 0, _ => inW_of hp
  | k + 1, hk => by
    rw [foldB_succ p ps k (by omega)]
    exact inW_both (foldB_in hp hall k (by omega)) (hall k (by omega))
/-- the loop's relation -/
def ExRel (p : Int × Int) (ps : List (Int × Int)) (r : Nat) (w : World) (k : Nat) (wr : World) : Prop :=
  Bk wr r 79 #[.int .i32 (foldB p ps k).1, .int .i32 (foldB p ps k).2] ∧ Bk wr (w.heap.size + 1) 23 #[.int .i64 0, .int .i64 0] ∧ Below w.heap.size w wr
def ExpandedSays (p : Int × Int) (ps : List (Int × Int)) (w : World) (e : Ending) (w' : World) : Prop :=
  e = .returned (.tuple #[.agg #[.int .i64 (foldB p ps ps.length).1, .int .i64 (foldB p ps ps.length).2], .int .i64 ((foldB p ps ps.length).1 + (foldB p ps ps.length).2)]) ∧ Below w.heap.size w w'

theorem keep2 {w6 : World} {g g' i : Nat} {v x y : Value} (h : w6.cell? ⟨g, i, none⟩ = some v) (hne : g ≠ g') : ((w6.setCell ⟨g', 0, none⟩ x).setCell ⟨g', 1, none⟩ y).cell? ⟨g, i, none⟩ = some v := by
  rw [World.cell?_setCell_other _ _ _ _ (fun e => hne (by have := congrArg Addr.block e; simp only at this; omega)), World.cell?_setCell_other _ _ _ _ (fun e => hne (by have := congrArg Addr.block e; simp only at this; omega))]
  exact h
set_option maxHeartbeats 3200000 in
theorem expanded_some (p : Int × Int) (b off len cap : Nat) (ps : List (Int × Int)) (w : World) (hp : InB p) (hall : ∀ k, k < ps.length → InB (ps.getD k (0, 0))) (hl : 0 < len) (hm : len ≤ 8796093022207)
    (hr : PcRd w w.heap.size (some ⟨b, off, none⟩) len ps) :
    Calls Tryd.prog 19 #[.agg #[.int .i64 p.1, .int .i64 p.2], .slice (some ⟨b, off, none⟩) len cap] w (ExpandedSays p ps w) := by
  have HR := Lib.hid hr
  have HALL := Lib.hid hall
  have HF := Lib.hid (foldB_in hp hall)
  have hp' := hp
  unfold InB at hp'
  obtain ⟨x1, x2, x3, x4⟩ := hp'
  clear hr hall hp
  go_enter Tryd.func19, Tryd.ntmps19
  go_wp2_with fail
  generalize hwa : w.alloc _ = wa
  generalize hwb : wa.alloc _ = wb
  have hba : Below w.heap.size w wa := by rw [← hwa]; exact (Below.refl _ _).alloc (Nat.le_refl _) _
  have hbb : Below w.heap.size w wb := by rw [← hwb]; exact hba.alloc hba.size _
  have hza : wa.heap.size = w.heap.size + 1 := by rw [← hwa]; simp
  have hzb : wb.heap.size = w.heap.size + 2 := by rw [← hwb, World.size_alloc, hza]
  have hres : Bk wb (w.heap.size + 1) 23 #[.int .i64 0, .int .i64 0] := by rw [← hwb, ← hza]; exact Bk.new wa 23 _
  refine (of_any _ _ _ (by omega) (by omega) (by omega) (by omega)).mono ?_
  rintro e w1 ⟨rfl, hb1⟩
  have hz1 := hb1.size
  have H1 := Lib.hid (And.intro (hbb.trans (hb1.mono hbb.size)) (hres.below hb1 (by omega)))
  clear hb1 hba hbb hres hwa hwb
  have hz1' : w.heap.size + 2 ≤ w1.heap.size := by omega
  clear hz1 hza hzb
  go_wp2_with fail
  go_loopw [13] (fun i wr => ∃ k : Nat, i = .int .i64 k ∧ k ≤ len ∧ Hid (ExRel p ps w1.heap.size w k wr)) (fun i _ => len - (intOf i).toNat)
  case atStart => exact ⟨0, rfl, Nat.zero_le _, Bk.new w1 79 _, H1.out.2.alloc _, H1.out.1.alloc H1.out.1.size _⟩
  case round =>
    obtain ⟨k, rfl, hk, HS⟩ := hrel
    have hlen := HR.out.1
    by_cases hlt : k < len
    · obtain ⟨b', off', he, _, hc⟩ := (HR.out.below HS.out.2.2).2 hl
      simp only [Option.some.injEq, Addr.mk.injEq] at he
      obtain ⟨rfl, rfl, _⟩ := he
      have hcell := hc k hlt
      have hin := HALL.out k (by omega)
      obtain ⟨a, m, hap⟩ : ∃ a m, ps.getD k (0, 0) = (a, m) := ⟨_, _, rfl⟩
      rw [hap] at hcell hin
      have HIN := Lib.hid hin
      unfold InB at hin
      obtain ⟨hc1, hc2⟩ := hcell
      obtain ⟨y1, y2, y3, y4⟩ := hin
      simp only at hc1 hc2 y1 y2 y3 y4
      have hsz := HS.out.1.lt
      have HAP := Lib.hid hap
      clear hc hap
      go_wp2_with fail
      refine (of_any _ _ _ (by omega) (by omega) (by omega) (by omega)).mono ?_
      rintro e w2 ⟨rfl, hb2⟩
      have hz2 := hb2.size
      simp only [World.size_alloc] at hz2
      have hb2' := ((Below.refl wr.heap.size wr).alloc (Nat.le_refl _) _).trans (hb2.mono (by simp))
      have HC := Lib.hid (expand_any w1.heap.size (foldB p ps k) (a, m) w2 (HF.out k (by omega)) HIN.out (HS.out.1.below hb2' hsz))
      have H2 := Lib.hid (And.intro hb2' (HS.out.2.1.below hb2' (by omega)))
      clear hb2 hb2' hc1 hc2
      go_wp2_with fail
      refine HC.out.mono ?_
      rintro e w3 ⟨rfl, hbk3, hg3⟩
      have HF3 : Hid (ExRel p ps w1.heap.size w (k + 1) w3) := by
        refine ⟨?_, H2.out.2.grown hg3 (fun e => by injection e with e; omega), ?_⟩
        · rw [foldB_succ p ps k (by omega), HAP.out]; exact hbk3
        · have hbl := HS.out.2.2
          have hbs := hbl.size
          exact below_gb (hbl.trans (H2.out.1.mono hbs)) hg3 (by omega) (by omega)
      clear hbk3 hg3 HC H2
      go_wp2
      go_roundw
      case rel => exact ⟨k + 1, by go_num, by omega, HF3⟩
      case measure => simp [intOf]; omega
    · obtain rfl : k = ps.length := by omega
      have hw := HF.out ps.length (Nat.le_refl _)
      obtain ⟨hbk, hres, hbl⟩ := HS.out
      obtain ⟨c, hcc⟩ : ∃ c, c = foldB p ps ps.length := ⟨_, rfl⟩
      rw [← hcc] at hbk hw
      obtain ⟨ca, cb⟩ := c
      unfold InW at hw
      obtain ⟨z1, z2, z3, z4⟩ := hw
      simp only at hbk z1 z2 z3 z4
      have c0 : wr.cell? ⟨w1.heap.size, 0, none⟩ = some (.int .i32 ca) := hbk.cell 0
      have c1 : wr.cell? ⟨w1.heap.size, 1, none⟩ = some (.int .i32 cb) := hbk.cell 1
      have HCC := Lib.hid hcc
      have hlt := hbk.lt
      have HB := Lib.hid (And.intro hres hbl)
      have hrl := hres.lt
      clear hcc hbk hres hbl HS hlen
      go_wp2_with fail
      go_region_held3 (fun w' => w'.cell? ⟨w1.heap.size, 0, none⟩ = some (.int .i32 ca) ∧ w'.cell? ⟨w1.heap.size, 1, none⟩ = some (.int .i32 cb))
        (first
          | go_keep
          | (go_split_ands
             refine ⟨?_, ?_⟩
             · (rw [hb5.cell (p := ⟨w1.heap.size, 0, none⟩) (by simp; omega)]; assumption)
             · (rw [hb5.cell (p := ⟨w1.heap.size, 1, none⟩) (by simp; omega)]; assumption))
          | (go_split_ands
             refine ⟨?_, ?_⟩
             · (with_reducible refine keep2 (by assumption) (by omega))
             · (with_reducible refine keep2 (by assumption) (by omega)))
          | (go_split_ands
             refine ⟨?_, ?_⟩
             · (rw [hb6.cell (p := ⟨w1.heap.size, 0, none⟩) (by have hx := hb5.size; simp at hx ⊢; omega)]; assumption)
             · (rw [hb6.cell (p := ⟨w1.heap.size, 1, none⟩) (by have hx := hb5.size; simp at hx ⊢; omega)]; assumption)))
        (first
          | (go_at_call 37; refine (piece_any ca cb _ (by omega) (by omega) (by omega) (by omega)).mono ?_; rintro e w5 ⟨rfl, hb5⟩)
          | (go_at_call 38; refine (end_any ca cb _ (by omega) (by omega) (by omega)).mono ?_; rintro e w6 ⟨rfl, hb6⟩; have hr6 := (Bk.below (Bk.below (show Bk wr.drew (w.heap.size + 1) 23 #[.int .i64 0, .int .i64 0] from HB.out.1) hb5 (by simp; omega)) hb6 (by have hx := hb5.size; simp at hx ⊢; omega)); have q0 : w6.cell? ⟨w.heap.size + 1, 0, none⟩ = some (.int .i64 0) := hr6.cell 0; have q1 : w6.cell? ⟨w.heap.size + 1, 1, none⟩ = some (.int .i64 0) := hr6.cell 1; have fr0 := hr6.free 0; have fr1 := hr6.free 1))
      have hx5 := hb5.size
      have hx5' : wr.heap.size ≤ w5.heap.size := hx5
      have HBF := Lib.hid ((HB.out.2.drew.trans (hb5.mono (by simp; omega))).trans (hb6.mono (by omega)))
      clear hb5 hb6 hx5 c0 c1
      go_wp2
      have wcc : IntKind.i64.wrap (ca + cb) = ca + cb := IntWalk.i64_in _ (by omega)
      refine bodyPost_ret (v := .tuple #[.agg #[.int .i64 ca, .int .i64 cb], .int .i64 (ca + cb)]) (by simp [results, Tryd.results19, go_sem, q0, q1, wcc]) rfl ⟨?_, ?_⟩
      · rw [← HCC.out]
      · exact (HBF.out.setCell (by simp) _).setCell (by simp) _

set_option maxHeartbeats 1600000 in
theorem expanded_none (p : Int × Int) (ao : Option Addr) (cap : Nat) (w : World) (hp : InB p) :
    Calls Tryd.prog 19 #[.agg #[.int .i64 p.1, .int .i64 p.2], .slice ao 0 cap] w (ExpandedSays p [] w) := by
  unfold InB at hp
  obtain ⟨x1, x2, x3, x4⟩ := hp
  go_enter Tryd.func19, Tryd.ntmps19
  go_wp2_with fail
  generalize hwa : w.alloc _ = wa
  generalize hwb : wa.alloc _ = wb
  have hba : Below w.heap.size w wa := by rw [← hwa]; exact (Below.refl _ _).alloc (Nat.le_refl _) _
  have hbb : Below w.heap.size w wb := by rw [← hwb]; exact hba.alloc hba.size _
  have hza : wa.heap.size = w.heap.size + 1 := by rw [← hwa]; simp
  have hzb : wb.heap.size = w.heap.size + 2 := by rw [← hwb, World.size_alloc, hza]
  have hres : Bk wb (w.heap.size + 1) 23 #[.int .i64 0, .int .i64 0] := by rw [← hwb, ← hza]; exact Bk.new wa 23 _
  refine (of_any _ _ _ (by omega) (by omega) (by omega) (by omega)).mono ?_
  rintro e w1 ⟨rfl, hb1⟩
  have hz1 := hb1.size
  have H1 := Lib.hid (And.intro (hbb.trans (hb1.mono hbb.size)) (hres.below hb1 (by omega)))
  clear hb1 hba hbb hres hwa hwb
  have hz1' : w.heap.size + 2 ≤ w1.heap.size := by omega
  clear hz1 hza hzb
  go_wp2_with fail
  generalize hwr : w1.alloc _ = wr
  have hbk : Bk wr w1.heap.size 79 #[.int .i32 p.1, .int .i32 p.2] := by rw [← hwr]; exact Bk.new w1 79 _
  have hres : Bk wr (w.heap.size + 1) 23 #[.int .i64 0, .int .i64 0] := by rw [← hwr]; exact H1.out.2.alloc _
  have hbl : Below w.heap.size w wr := by rw [← hwr]; exact H1.out.1.alloc H1.out.1.size _
  have c0 : wr.cell? ⟨w1.heap.size, 0, none⟩ = some (.int .i32 p.1) := hbk.cell 0
  have c1 : wr.cell? ⟨w1.heap.size, 1, none⟩ = some (.int .i32 p.2) := hbk.cell 1
  have hlt := hbk.lt
  have HB := Lib.hid (And.intro hres hbl)
  have hrl := hres.lt
  clear hbk hres hbl hwr H1
  obtain ⟨ca, cb⟩ := p
  simp only at c0 c1 x1 x2 x3 x4 ⊢
  refine wp_loop_rounds 1 ?_
  rw [rounds_succ]
  go_wp2_with fail
  go_region_held3 (fun w' => w'.cell? ⟨w1.heap.size, 0, none⟩ = some (.int .i32 ca) ∧ w'.cell? ⟨w1.heap.size, 1, none⟩ = some (.int .i32 cb))
    (first
      | go_keep
      | (go_split_ands
         refine ⟨?_, ?_⟩
         · (rw [hb5.cell (p := ⟨w1.heap.size, 0, none⟩) (by simp; omega)]; assumption)
         · (rw [hb5.cell (p := ⟨w1.heap.size, 1, none⟩) (by simp; omega)]; assumption))
      | (go_split_ands
         refine ⟨?_, ?_⟩
         · (with_reducible refine keep2 (by assumption) (by omega))
         · (with_reducible refine keep2 (by assumption) (by omega)))
      | (go_split_ands
         refine ⟨?_, ?_⟩
         · (rw [hb6.cell (p := ⟨w1.heap.size, 0, none⟩) (by have hx := hb5.size; simp at hx ⊢; omega)]; assumption)
         · (rw [hb6.cell (p := ⟨w1.heap.size, 1, none⟩) (by have hx := hb5.size; simp at hx ⊢; omega)]; assumption)))
    (first
      | (go_at_call 37; refine (piece_any ca cb _ (by omega) (by omega) (by omega) (by omega)).mono ?_; rintro e w5 ⟨rfl, hb5⟩)
      | (go_at_call 38; refine (end_any ca cb _ (by omega) (by omega) (by omega)).mono ?_; rintro e w6 ⟨rfl, hb6⟩; have hr6 := (Bk.below (Bk.below (show Bk wr.drew (w.heap.size + 1) 23 #[.int .i64 0, .int .i64 0] from HB.out.1) hb5 (by simp; omega)) hb6 (by have hx := hb5.size; simp at hx ⊢; omega)); have q0 : w6.cell? ⟨w.heap.size + 1, 0, none⟩ = some (.int .i64 0) := hr6.cell 0; have q1 : w6.cell? ⟨w.heap.size + 1, 1, none⟩ = some (.int .i64 0) := hr6.cell 1; have fr0 := hr6.free 0; have fr1 := hr6.free 1))
  have hx5 := hb5.size
  have hx5' : wr.heap.size ≤ w5.heap.size := hx5
  have HBF := Lib.hid ((HB.out.2.drew.trans (hb5.mono (by simp; omega))).trans (hb6.mono (by omega)))
  clear hb5 hb6 hx5 c0 c1
  go_wp2
  have wcc : IntKind.i64.wrap (ca + cb) = ca + cb := IntWalk.i64_in _ (by omega)
  refine bodyPost_ret (v := .tuple #[.agg #[.int .i64 ca, .int .i64 cb], .int .i64 (ca + cb)]) (by simp [results, Tryd.results19, go_sem, q0, q1, wcc]) rfl ⟨rfl, ?_⟩
  exact (HBF.out.setCell (by simp) _).setCell (by simp) _
/-- impl.Expanded -/
theorem expanded_any (p : Int × Int) (ao : Option Addr) (len cap : Nat) (ps : List (Int × Int)) (w : World) (hp : InB p) (hall : ∀ k, k < ps.length → InB (ps.getD k (0, 0))) (hm : len ≤ 8796093022207)
    (hr : PcRd w w.heap.size ao len ps) : Calls Tryd.prog 19 #[.agg #[.int .i64 p.1, .int .i64 p.2], .slice ao len cap] w (ExpandedSays p ps w) := by
  rcases Nat.eq_zero_or_pos len with h0 | h0
  · subst h0
    have : ps = [] := List.eq_nil_of_length_eq_zero hr.1
    subst this
    exact expanded_none p ao cap w hp
  · obtain ⟨b, off, rfl, _, _⟩ := hr.2 h0
    exact expanded_some p b off len cap ps w hp hall h0 hm hr
end Go.Proofs.YtfndlifolohlgaaDoor
