/-
  The walks of impl.of and LineColumnTracker.MsgLocationOrNil: asked for a piece that begins at a boundary of a valid text, a new MsgLocation with the line, the column, the length and the line's text.
  Conditions: the text is valid UTF-8 and no longer than 2^20 bytes; the piece lies within it and begins at a boundary; the two tables of unicode/utf8 hold what the program's text lays.
-/
import Derived.Test.YtfndlifolohlgaaDoorComp
import Derived.StillTailTactics
namespace Go.Proofs.YtfndlifolohlgaaDoor
open Go Go.RowKit Ln
set_option maxRecDepth 100000

set_option maxHeartbeats 400000 in
theorem of_any (a n : Int) (w : World) (h1 : 0 ≤ a) (h2 : a ≤ 1073741824) (h3 : 0 ≤ n) (h4 : n ≤ 1073741824) :
    Calls Tryd.prog 32 #[.agg #[.int .i64 a, .int .i64 n]] w fun e w' => e = .returned (.agg #[.int .i32 a, .int .i32 n]) ∧ Below w.heap.size w w' := by
  go_enter Tryd.func32, Tryd.ntmps32
  go_wp2
  exact bodyPost_ret (v := .agg #[.int .i32 a, .int .i32 n]) (by simp [results, Tryd.results32, go_sem]) rfl ⟨rfl, ((Below.refl _ _).alloc (Nat.le_refl _) _).alloc (by simp) _⟩

def msgCells (s : ByteArray) (q n : Nat) : Array Value :=
  #[.string ByteArray.empty, .string ByteArray.empty, .string ByteArray.empty, .string (s.extract (Ln.S s.data.toList q) (Ln.E s.data.toList q)), .string ByteArray.empty, .int .i64 ((Ln.L s.data.toList q : Nat) + 1), .int .i64 ((q : Int) - (Ln.S s.data.toList q : Nat)), .int .i64 n]
def MsgSays (s : ByteArray) (g q n : Nat) (w : World) (e : Ending) (w' : World) : Prop :=
  ∃ m, e = .returned (.pointer (some ⟨m, 0, none⟩)) ∧ w.heap.size ≤ m ∧ Bk w' m 82 (msgCells s q n) ∧ TkI w' g s q q ∧ w.grownBy w' (some g)

set_option maxHeartbeats 4000000 in
theorem msg_any (s : ByteArray) (g o q n : Nat) (w : World) (hz : s.size ≤ 1048576) (hv : VT s.data.toList) (ho : Bd s.data.toList o) (hq : Bd s.data.toList q) (hn : n ≤ 1048576) (h3 : 3 ≤ g) (hT : Lib.Utf8Tabs 1 2 w) (hI : TkI w g s o o) :
    Calls Tryd.prog 31 #[.pointer (some ⟨g, 0, none⟩), .agg #[.int .i32 q, .int .i32 n]] w (MsgSays s g q n w) := by
  have hqs := hq.1
  rw [len_eq] at hqs
  have hSq := S_le hv q q (Nat.le_refl _) hq
  have hEq := E_bd s.data.toList q hq.1
  rw [len_eq] at hEq
  obtain ⟨hEq1, hEq2⟩ := hEq
  have hLq := L_le s.data.toList q
  have d9 : w.cell? ⟨g, 9, none⟩ = some (.bool true) := by
    obtain ⟨ls, le, hs, he, hbk, _, _⟩ := hI
    exact hbk.cell 9
  have hg : g < w.heap.size := by
    obtain ⟨ls, le, hs, he, hbk, _, _⟩ := hI
    exact hbk.lt
  have hbox : ∀ o1 : Obj, Below w.heap.size w (w.alloc o1) := fun o1 => (Below.refl _ _).alloc (Nat.le_refl _) _
  have HC : ∀ o1 : Obj, Hid (Calls Tryd.prog 44 #[.pointer (some ⟨g, 0, none⟩), .int .i64 q] (w.alloc o1) (Computed s g q (w.alloc o1))) := fun o1 =>
    compute_any s g o q _ hz hv ho hq h3 (tabs_below hT (hbox o1) (by omega)) (hI.below (hbox o1) hg)
  clear hv ho hq hT hI
  go_enter Tryd.func31, Tryd.ntmps31
  go_wp2_with (go_at_call 44; refine (HC _).out.mono ?_; rintro e w1 ⟨rfl, hI1, hg1⟩)
  have hbb : Bk w1 w.heap.size 79 #[.int .i32 q, .int .i32 n] := (Bk.new w 79 #[.int .i32 q, .int .i32 n]).grown hg1 (fun e => by injection e with e; omega)
  have e1 : w1.cell? ⟨w.heap.size, 1, none⟩ = some (.int .i32 n) := hbb.cell 1
  have HI1 := Lib.hid hI1
  obtain ⟨ls, le, hs, he, hbk, _, _⟩ := hI1
  have c0 : w1.cell? ⟨g, 0, none⟩ = some (.string s) := hbk.cell 0
  have c1 : w1.cell? ⟨g, 1, none⟩ = some (.string ByteArray.empty) := hbk.cell 1
  have c2 : w1.cell? ⟨g, 2, none⟩ = some (.string ByteArray.empty) := hbk.cell 2
  have HG1 := Lib.hid hg1
  clear hbk hbb hg1 d9 HC hbox
  have hSE : Ln.S s.data.toList q ≤ Ln.E s.data.toList q := by omega
  have w1w : IntKind.i64.wrap ((Ln.L s.data.toList q : Nat) + 1 : Int) = (Ln.L s.data.toList q : Nat) + 1 := IntWalk.i64_in _ (by omega)
  have w2w : IntKind.i64.wrap (n : Int) = n := IntWalk.i64_in _ (by omega)
  generalize hSv : Ln.S s.data.toList q = Sq at *
  generalize hEv : Ln.E s.data.toList q = Eq at *
  generalize hLv : Ln.L s.data.toList q = Lq at *
  have HSE := Lib.hid (And.intro hSv (And.intro hEv hLv))
  clear hSv hEv hLv
  go_still_tail 18, (by kernel_rfl)
  go_wp2
  go_ret
  have hsz := HG1.out.size
  simp only [World.size_alloc] at hsz
  refine ⟨w1.heap.size, rfl, by omega, ?_, ?_, ?_⟩
  · unfold msgCells
    rw [HSE.out.1, HSE.out.2.1, HSE.out.2.2]
    exact Bk.new w1 82 _
  · exact HI1.out.below (B := w1.heap.size) (((Below.refl _ _).alloc (Nat.le_refl _) _).drew) (by omega)
  · exact gb_drew (gb_trans (gb_trans (gb_alloc _ _ _) HG1.out) (gb_alloc _ _ _))
end Go.Proofs.YtfndlifolohlgaaDoor
