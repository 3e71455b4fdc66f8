/-
  PROVED: for every list of pairs and every key laws.FnFound returns true, and its arguments read afterwards as before: the tied card of the second form.
  Conditions: the arguments are of bulk at most 1048576; the two tables of unicode/utf8 hold what the program's text lays (the card ties them to it).
-/
import Derived.Test.YtfndlifolohlgaaDoorFound
import Derived.Test.YtfndlifolohlgaaDoorOpen
import Derived.Test.YtfndlifolohlgaaDoorKvO
namespace Go.Proofs.YtfndlifolohlgaaDoor.fnFound
open Go.ChangeShapes Go.WideShapes Go.ChangeAt Go.RowKit
open Go.ChangeMaps (open_string shut_string)
set_option maxRecDepth 100000

theorem contract (H : Type) (enc : TypeId × Value → H) (W : World) (base : Nat) (args : Array Value) (ds gs : List (DataW H)) (before : List MemPlace)
    (hval : ∀ (j : Nat) t v, Tryd.f11.params[j]? = some t → args[j]? = some v → Value.okWide Tryd.prog W .any base t v)
    (hW : DataW.Whole enc Tryd.prog Tryd.f11.params.toList Rows.fnFoundSpec.vars false W args.toList ds gs before)
    (hsz : (DataW.weightsEach Tryd.prog (Tryd.f11.params.toList ++ (Rows.OpenSpec.upto Rows.fnFoundSpec).bare.plain.varTypes Tryd.prog) (ds ++ gs)).all (· ≤ reachBytes) = true) (hk : Rows.uptoSmall H (ds ++ gs) = true)
    (hL : laidMetH Tryd.prog laidAll W) :
    Calls Tryd.prog 11 args W fun e W' => ∃ v, e = .returned v ∧ Rows.fnFoundSpec.post enc Tryd.prog Tryd.f11 false true false false W args v W' := by
  have hW' := hW
  obtain ⟨p, q, hA0, hV, rfl, hfz, hnd⟩ := hW
  have hA : DataW.TrodAll enc Tryd.prog W 0 (fun _ => true) true Tryd.f11.params.toList args.toList ds p := hA0
  rw [Tryd.params11] at hA hval hsz
  obtain ⟨v0, vs0, d0, ds0, p0, q0, hargs, rfl, rfl, h0, r0⟩ := trodAll_cons hA
  obtain ⟨v1, vs1, d1, ds1, p1, q1, rfl, rfl, rfl, h1, r1⟩ := trodAll_cons r0
  obtain ⟨rfl, rfl, rfl⟩ := trodAll_nil r1
  obtain rfl : args = #[v0, v1] := by cases args; simp_all
  obtain ⟨rfl, rfl⟩ := trodVars_none hV
  have k0 := h0
  have lt0 : ∀ x ∈ p0, x.block < W.heap.size := by obtain ⟨m, hm⟩ := k0; exact DataW.trod_lt m _ _ _ hm
  obtain ⟨ao0, len0, cap0, ps0, rfl, rd0, lc0, cm0, dd0⟩ := open_pairs (hval 0 46 v0 rfl rfl) h0
  have k1 := h1
  have lt1 : ∀ x ∈ p1, x.block < W.heap.size := by obtain ⟨m, hm⟩ := k1; exact DataW.trod_lt m _ _ _ hm
  obtain ⟨a1, rfl, rfl, rfl, w1⟩ := open_string Tryd.underlying9 (hval 1 9 v1 rfl rfl) h1
  clear hA0
  have hb := of_decide_eq_true hk
  simp only [Rows.uptoBulkAll, List.cons_append, List.nil_append] at hb
  have hm0 := pairs_small rd0.1 dd0
  have hs := bulks.string_eq (H := H) a1.data.toList
  rw [len_eq] at hs
  refine (foundlaw_any ao0 len0 cap0 (kvOf ps0) a1 W (by omega) (by omega) (by omega) (pairs_qrd rd0) (tabs_of hL)).mono fun e W' ⟨he, bel⟩ => ?_
  subst he
  exact ⟨_, rfl, _, _, _, [], _, [], hW', trodAll_mk1 (shut_bool Tryd.underlying4 _), (trodAll_cons_mk (Below.trod laidOut (by kernel_rfl) (of_decide_eq_true (by kernel_rfl)) k0 bel lt0) (trodAll_cons_mk (Below.trod laidOut (by kernel_rfl) (of_decide_eq_true (by kernel_rfl)) k1 bel lt1) trodAll_mk0)), rfl, bel.frame _, fun h => by cases h⟩

theorem reads (os : Os) {H : Type} (enc : TypeId × Value → H) : ∃ places, DataW.whole enc Tryd.prog ((laidWorld os).forCall (fun _ _ => 0) ⟨#[], #[.slice none 0 0, .string ByteArray.empty], []⟩).memory Tryd.f11.params.toList Rows.fnFoundSpec.vars false (#[.slice none 0 0, .string ByteArray.empty] : Array Value).toList 8 = some ([.nil, .lit (.string [])], [], places) :=
  ⟨[], by kernel_rfl⟩

theorem lifted (os : Os) (started : os.Started) (H : Type) (enc : TypeId × Value → H) (F : Stop.Interp) :
    ReturnsInHanded {} Tryd.checked os 11 .any ((Rows.OpenSpec.upto Rows.fnFoundSpec).preRow enc Tryd.prog Tryd.f11 Rows.fnFoundUptoRow.domain false Rows.fnFoundUptoRow.laid) (((Rows.OpenSpec.upto Rows.fnFoundSpec).at F).post enc Tryd.prog Tryd.f11 false true false false) := by
  obtain ⟨places, hx⟩ := reads os enc
  refine returnsInHanded_of_row (C := Tryd.checked) (s := Rows.OpenSpec.upto Rows.fnFoundSpec) own started (by kernel_rfl) Tryd.func11
    (witness_row_at (enc := enc) (C := Tryd.checked) false (laidWorld os) #[.slice none 0 0, .string ByteArray.empty] rfl (by kernel_rfl) (by kernel_rfl) (by kernel_rfl)
      (OpenSpec.preRow_of_cond 8 hx (by kernel_rfl) (fun k hk => by cases hk; kernel_rfl) (by kernel_rfl) (laid_met os _))) ?_
  intro W base args ds gs before hval hW _ hcond hsz hL _ _
  exact contract H enc W base args ds gs before hval hW hsz (hcond _ rfl) hL

theorem said : Rows.FnFoundUptoSaid :=
  OpenClaim.holds_of_cond 11 Tryd.f11 rfl rfl rfl rfl rfl rfl rfl ⟨rfl, rfl, rfl, rfl, rfl⟩ rfl rfl rfl rfl rfl (by kernel_rfl) Tryd.func11 (by kernel_rfl)
    (of_decide_eq_true (by kernel_rfl)) (by unfold Func.isWrapper; first | (rw [if_pos (by decide +kernel)]; kernel_rfl) | (rw [if_neg (by decide +kernel)]; exact ⟨rfl, rfl⟩))
    (fun os started H enc _ F => by rw [OpenClaim.pre_eq_preRow]; exact lifted os started H enc F)

/-- No parameter wants a stand-in; the program's own looks are off. -/
theorem plain (f : FuncId) (fn : Func) (hf : Tryd.pinned.checked.prog.funcNamed "linesandcolumns/laws.FnFound" = some f) (hfn : Tryd.pinned.checked.prog.funcs[f]? = some fn) :
    false = Tryd.pinned.checked.prog.looks [] ∧ ∀ (j : Nat) t, fn.params[j]? = some t → Tryd.pinned.checked.prog.wantsStandIn t = false := by
  obtain rfl : f = 11 := Option.some.inj ((show Tryd.prog.funcNamed "linesandcolumns/laws.FnFound" = some 11 by kernel_rfl).symm.trans hf) |>.symm
  obtain rfl : fn = Tryd.f11 := (Option.some.inj (Tryd.func11.symm.trans hfn)).symm
  refine ⟨by kernel_rfl, fun j t ht => ?_⟩
  rw [Tryd.params11] at ht
  have hm : t = 46 ∨ t = 9 := by simpa using Array.mem_of_getElem? ht
  rcases hm with rfl | rfl
  · exact (show Tryd.prog.wantsStandIn 46 = false by kernel_rfl)
  · exact (show Tryd.prog.wantsStandIn 9 = false by kernel_rfl)

/-- ████ THE CARD ████ -/
theorem card : Rows.FnFoundUptoCardSaid :=
  Claim7.holds_tied_plain_at .later [] _ _ _ _ said (fun _ h => by cases h) (by kernel_rfl) (fun _ h => by cases h) fnFoundUpto_row_tie rfl ⟨rfl, rfl⟩ (by kernel_rfl) rfl plain (by kernel_rfl)
end Go.Proofs.YtfndlifolohlgaaDoor.fnFound
#print axioms Go.Proofs.YtfndlifolohlgaaDoor.fnFound.card
