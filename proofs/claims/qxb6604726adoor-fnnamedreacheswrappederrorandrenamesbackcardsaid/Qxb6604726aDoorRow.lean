/-
  The row of 'FnNamedReachesWrappedErrorAndRenamesBack' and its tied card.
-/
import Derived.Test.Qxb6604726aDoorRows
import Derived.Test.Qxb6604726aDoorTie
import Derived.Test.Qxb6604726aDoorCards
import Derived.Test.Qxb6604726aDoorLink
import Derived.ProofKit
import Derived.LaidLaws
import Derived.LaidHandle
import Derived.SevenTiedAt
namespace Go.Proofs.Qxb6604726aDoor
open Go.ChangeShapes Go.WideShapes Go.ChangeAt Go.RowKit
open Go.ChangeMaps (open_string shut_string)

theorem own : ownKnob Tryd.prog.godebug = none := by kernel_rfl
theorem et : Tryd.prog.globalNamed "errors.errorType" = some 0 := by kernel_rfl
theorem oneRow : ((List.range 205).filter fun t => Tryd.prog.rowNamed t [101, 114, 114, 111, 114]) = [37] := by kernel_rfl
theorem typesSize : Tryd.prog.types.size = 205 := by kernel_rfl

/-- What the row's condition gives a walk: the one cell of errors.errorType. -/
theorem handle_of_laid {W : World} (h : laidMetH Tryd.prog Rows.fnNamedReachesWrappedErrorAndRenamesBackRow.laid W) : W.cell? ⟨0, 0, none⟩ = some (.iface 107 (.agg #[.pointer (some ⟨5, 37, none⟩)])) := by
  have h' : laidMet Tryd.prog [] W ∧ handlesMet Tryd.prog Rows.fnNamedReachesWrappedErrorAndRenamesBackRow.laid W := h
  obtain ⟨name, u, ty, e1, e2, e3, e4, e5⟩ := h'.2 _ (List.mem_singleton.2 rfl)
  have en : name = [101, 114, 114, 111, 114] := (Option.some.inj e1).symm
  subst en
  obtain rfl : 107 = u := Option.some.inj (Eq.trans (Eq.symm (by kernel_rfl)) e2)
  have hm : ty ∈ (List.range 205).filter fun t => Tryd.prog.rowNamed t [101, 114, 114, 111, 114] := List.mem_filter.2 ⟨List.mem_range.2 (by rw [← typesSize]; exact e3), e4⟩
  rw [oneRow] at hm
  obtain rfl := List.mem_singleton.1 hm
  have hh : typeHandle Tryd.prog 37 = .pointer (some ⟨5, 37, none⟩) := by kernel_rfl
  rw [hh] at e5
  simpa using World.var?_cell et e5 0

/-- A world with the variable's cell laid. -/
def layErr (w0 : World) : World :=
  { w0 with heap := w0.heap.modify 0 fun
      | .cells _ t frozen => .cells #[.iface 107 (.agg #[.pointer (some ⟨5, 37, none⟩)])] t frozen
      | o => o }
theorem layErr_met (os : Os) (args : Array Value) : laidMetH Tryd.prog Rows.fnNamedReachesWrappedErrorAndRenamesBackRow.laid ((layErr (World.holding Tryd.prog os ⟨#[], #[], []⟩)).forCall (fun _ _ => 0) ⟨#[], args, []⟩).memory :=
  laidMetH_of_parts (laidMet_nil _ _) (by kernel_rfl)

set_option maxRecDepth 100000 in
theorem lifted (os : Os) (started : os.Started) (H : Type) (enc : TypeId × Value → H) :
    ReturnsInHanded {} Tryd.checked os 4 .any (fun w args => (Rows.fnNamedReachesWrappedErrorAndRenamesBackSpec.pre enc Tryd.prog Tryd.f4 [] false w args ∧ laidMetH Tryd.prog Rows.fnNamedReachesWrappedErrorAndRenamesBackRow.laid w) ∧ sizedMet enc Tryd.prog Tryd.f4 (OpenSpec.ofChange Rows.fnNamedReachesWrappedErrorAndRenamesBackSpec) false w args)
      (Rows.fnNamedReachesWrappedErrorAndRenamesBackSpec.post enc Tryd.prog Tryd.f4 false true false false) := by
  refine returnsInHanded_of_change_and (C := Tryd.checked) (X := fun w _ => laidMetH Tryd.prog Rows.fnNamedReachesWrappedErrorAndRenamesBackRow.laid w) (fun _ _ _ hh h => h.of_heap hh) own started (by kernel_rfl) Tryd.func4
    (ChangeSpec.witness_at (enc := enc) (C := Tryd.checked) (os := os) (X := fun w _ => laidMetH Tryd.prog Rows.fnNamedReachesWrappedErrorAndRenamesBackRow.laid w) false (layErr (World.holding Tryd.prog os ⟨#[], #[], []⟩)) #[.string ⟨#[]⟩, .string ⟨#[]⟩, .string ⟨#[]⟩] 8 rfl (by kernel_rfl) (by kernel_rfl) (by kernel_rfl) (by kernel_rfl) (by kernel_rfl) (layErr_met os _)) ?_
  intro W base args ds gs before hval0 hW _ _ hL _
  have hval : ∀ (j : Nat) t v, Tryd.f4.params[j]? = some t → args[j]? = some v → Value.okWide Tryd.prog W .any base t v := hval0
  have hW' := hW
  obtain ⟨p, q, hA0, hV, rfl, _, _⟩ := hW
  have hA : DataW.TrodAll enc Tryd.prog W 0 (fun _ => true) true Tryd.f4.params.toList args.toList ds p := hA0
  rw [Tryd.params4] at hA hval
  obtain ⟨v0, v1, v2, d0, d1, d2, p0, p1, p2, rfl, rfl, rfl, h0, h1, h2⟩ := trodAll_three hA
  obtain ⟨rfl, rfl⟩ := trodVars_none hV
  obtain ⟨a, rfl, rfl, rfl, wa⟩ := open_string Tryd.underlying9 (hval 0 9 v0 rfl rfl) h0
  obtain ⟨r, rfl, rfl, rfl, wr⟩ := open_string Tryd.underlying9 (hval 1 9 v1 rfl rfl) h1
  obtain ⟨b, rfl, rfl, rfl, wb⟩ := open_string Tryd.underlying9 (hval 2 9 v2 rfl rfl) h2
  simp only [List.append_nil] at hW'
  refine (law a r b W wa wr wb (handle_of_laid hL)).mono fun e W' ⟨he, hbw⟩ => ?_
  subst he
  exact ⟨_, rfl, _, _, _, [], [], [], hW', trodAll_mk1 (shut_bool Tryd.underlying4 _), trodAll_mk3 (shut_string Tryd.underlying9 wa) (shut_string Tryd.underlying9 wr) (shut_string Tryd.underlying9 wb), rfl, hbw.frame _, fun h => by cases h⟩

theorem row_holds : Rows.FnNamedReachesWrappedErrorAndRenamesBackSaid :=
  OpenClaim.holds_of_wide 4 Tryd.f4 rfl rfl rfl rfl rfl rfl rfl ⟨rfl, rfl, rfl, rfl, rfl⟩ rfl rfl rfl rfl rfl (by kernel_rfl) Tryd.func4 (by kernel_rfl)
    (of_decide_eq_true (by kernel_rfl)) (by unfold Func.isWrapper; rw [if_neg (of_decide_eq_false (by kernel_rfl))]; exact ⟨rfl, rfl⟩)
    (fun os started H enc _ => lifted os started H enc)

theorem fnNamedReachesWrappedErrorAndRenamesBack_card_holds : Rows.FnNamedReachesWrappedErrorAndRenamesBackCardSaid :=
  Claim7.holds_tied_plain_at .later [] [.handle] true Rows.fnNamedReachesWrappedErrorAndRenamesBackCard.stood.harness Rows.fnNamedReachesWrappedErrorAndRenamesBackCard.stood.looks
    row_holds (fun _ h => by cases h) (by kernel_rfl) (fun _ h => by cases h) fnNamedReachesWrappedErrorAndRenamesBack_row_tie rfl ⟨rfl, rfl⟩ (by kernel_rfl) rfl
    (fun f fn hf hfn => by
      obtain rfl : f = 4 := Option.some.inj ((show Tryd.prog.funcNamed Rows.fnNamedReachesWrappedErrorAndRenamesBackRow.func = some 4 by kernel_rfl).symm.trans hf) |>.symm
      obtain rfl : fn = Tryd.f4 := (Option.some.inj (Tryd.func4.symm.trans hfn)).symm
      exact ⟨by kernel_rfl, fun j t ht => by
        rw [Tryd.params4] at ht
        have hm : t ∈ [9, 9, 9] := by simpa using Array.mem_of_getElem? ht
        have hall : ([9, 9, 9].all fun u => !Tryd.prog.wantsStandIn u) = true := by kernel_rfl
        exact (show Tryd.prog.wantsStandIn t = false by simpa using List.all_eq_true.1 hall t hm)⟩)
    (by kernel_rfl)
end Go.Proofs.Qxb6604726aDoor
