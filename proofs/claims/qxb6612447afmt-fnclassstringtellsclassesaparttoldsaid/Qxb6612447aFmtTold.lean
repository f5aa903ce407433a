/-
  The row of 'FnClassStringTellsClassesApart', and its card: fmt's texts told (none is asked for on the law's roads), the table of names tied to the program's text.
-/
import Derived.Test.Qxb6612447aFmtRows
import Derived.Test.Qxb6612447aFmtTie
import Derived.Test.Qxb6612447aFmtCards
import Derived.Test.Qxb6612447aFmtNames
import Derived.ProofKit
import Derived.OpenShut
import Derived.MakeChecks
import Derived.LaidLaws
import Derived.Lib.LaidU8
import Derived.Stop.JoinedTold
import Derived.SevenToldRow
import Derived.SevenTiedAt
namespace Go.Proofs.Qxb6612447aFmt
open Go.ChangeShapes Go.WideShapes Go.ChangeAt Go.RowKit
open Go.Extern.Stop Go.Stop Go.Extern

theorem own : ownKnob Tryf.prog.godebug = none := by kernel_rfl
theorem laidOut : laidOutB Tryf.pinned.checked.prog = true := by kernel_rfl
theorem stopsAre : Tryf.pinned.checked.prog.stops = Rows.fnClassStringTellsClassesApartRow.stops := by kernel_rfl
theorem stopKnobs : Tryf.pinned.checked.prog.stopKnobs = [] := by kernel_rfl
theorem quiet (os : Os) : Stop.quiet Tryf.pinned.checked.prog os := by
  intro k hk
  rw [stopKnobs] at hk
  cases hk

/-- The table's name. -/
def tabName : String := Rows.fnClassStringTellsClassesApartSpec.vars.headD ""
theorem tab_global : Tryf.prog.globalNamed tabName = some 0 := by kernel_rfl
theorem tab_type : (Tryf.prog.globals[0]?).map (·.type) = some 28 := by kernel_rfl
/-- The table's cells. -/
def tabCells : Array Value := (names.map fun s => Value.string ⟨s.toArray⟩).toArray
theorem tab_data {H : Type} : (Rows.laid_example_com_isograph_isograph_classNames : DataW H) = .agg (names.map fun s => .lit (.string s)) := rfl

/-- The table, read: whatever the mode. -/
theorem tab_reads {H : Type} (enc : TypeId × Value → H) (W : World) (sp : Nat → Bool) : DataW.trod enc Tryf.prog W 0 sp true 8 28 tabCells.toList = some (Rows.laid_example_com_isograph_isograph_classNames, []) := by kernel_rfl
theorem tab_vars {H : Type} (enc : TypeId × Value → H) (W : World) (sp : Nat → Bool) (hv : W.var? Tryf.prog tabName = some tabCells) :
    DataW.TrodVars enc Tryf.prog W sp [tabName] [Rows.laid_example_com_isograph_isograph_classNames] (MemPlace.row ⟨0, 0, none⟩ 12 ++ [] ++ []) :=
  ⟨0, 28, tabCells, 8, [], [], tab_global, tab_type, hv, tab_reads enc W sp, rfl, rfl⟩

theorem bytes_eta (s : ByteArray) : (⟨s.data.toList.toArray⟩ : ByteArray) = s := by cases s; simp

/-- A row of strings that reads as the names holds the names. -/
theorem cells_of_names {W : World} {fuel : Nat} {cs : List Value} {p : List MemPlace} (h : DataW.trod (fun _ => ()) Tryf.prog W 0 (fun _ => true) false fuel 28 cs = some (.agg (names.map fun s => .lit (.string s)), p)) :
    cs = names.map fun s => Value.string ⟨s.toArray⟩ := by
  obtain ⟨xs, m, _, hx, hlen, hxl, hall⟩ := DataW.trod_array Tryf.underlying28 h
  have hc28 : Tryf.prog.cellsOf 28 = 12 := by kernel_rfl
  have hc9 : Tryf.prog.cellsOf 9 = 1 := by kernel_rfl
  rw [hc28] at hlen
  have hxs : xs.map (·.1) = names.map fun s => (DataW.lit (.string s) : DataW Unit) := by
    have := congrArg Prod.fst hx
    simpa using this.symm
  apply List.ext_getElem?
  intro i
  by_cases hi : i < 12
  · have hr := hall i hi
    rw [hc9, Nat.mul_one] at hr
    have hxi : ∃ y, xs[i]? = some y := ⟨xs[i]'(by omega), List.getElem?_eq_getElem (by omega)⟩
    obtain ⟨y, hy⟩ := hxi
    rw [hy] at hr
    obtain ⟨s, hcs, hys, _⟩ := DataW.trod_string Tryf.underlying9 hr
    have h1 : cs[i]? = some (.string s) := by
      have := congrArg (·[0]?) hcs
      simpa [List.getElem?_take, List.getElem?_drop] using this
    have h2 : (xs.map (·.1))[i]? = some (DataW.lit (.string s.data.toList) : DataW Unit) := by simp [hy, hys]
    rw [hxs] at h2
    simp only [List.getElem?_map, Option.map_eq_some_iff, DataW.lit.injEq, Lit.string.injEq] at h2
    obtain ⟨z, hz, rfl⟩ := h2
    rw [h1, List.getElem?_map, hz, Option.map_some, bytes_eta]
  · rw [List.getElem?_eq_none (by omega), List.getElem?_eq_none (by show names.length ≤ i; have : names.length = 12 := rfl; omega)]

theorem var_of_laid {W : World} (h : laidMetH Tryf.prog Rows.fnClassStringTellsClassesApartRow.laid W) : W.var? Tryf.prog tabName = some tabCells := by
  rw [MakeChecks.laidMetH_plain _ _ _ (by kernel_rfl)] at h
  obtain ⟨g, t, cs, fuel, p, h1, h2, h3, h4⟩ : Lib.VarReads Tryf.prog W tabName Rows.laid_example_com_isograph_isograph_classNames := Lib.laidMet.reads h (.head _)
  obtain rfl := Option.some.inj (tab_global.symm.trans h1)
  obtain rfl := Option.some.inj (tab_type.symm.trans h2)
  rw [tab_data] at h4
  rw [h3]
  have := cells_of_names h4
  rw [tabCells, ← this]

theorem cell_of_var {W : World} (h : W.var? Tryf.prog tabName = some tabCells) (i : Nat) (hi : i < 12) : W.cell? ⟨0, i, none⟩ = some (.string (nm i)) := by
  have h1 := World.var?_cell tab_global h i
  rw [h1]
  rw [tabCells, List.getElem?_toArray]
  have hl : i < names.length := hi
  rw [List.getElem?_map, List.getElem?_eq_getElem hl]
  simp [nm, hl]

/-- A world with the table laid. -/
def layTab (w0 : World) : World :=
  { w0 with heap := w0.heap.modify 0 fun
      | .cells _ t frozen => .cells tabCells t frozen
      | o => o }
theorem layTab_met (os : Os) (args : Array Value) : laidMetH Tryf.prog Rows.fnClassStringTellsClassesApartRow.laid ((layTab (World.holding Tryf.prog os ⟨#[], #[], []⟩)).forCall (fun _ _ => 0) ⟨#[], args, []⟩).memory := by
  rw [MakeChecks.laidMetH_plain _ _ _ (by kernel_rfl)]
  exact laidMet_of_run (ps := MemPlace.row ⟨0, 0, none⟩ 12) 8 (by kernel_rfl) (by kernel_rfl) (by kernel_rfl)

set_option maxRecDepth 100000 in
set_option maxHeartbeats 1600000 in
theorem lifted (os : Os) (started : os.Started) (H : Type) (enc : TypeId × Value → H) :
    ReturnsInTold none {} Tryf.checked os 3 .any Input.okWide ((OpenSpec.ofChange Rows.fnClassStringTellsClassesApartSpec).preRow enc Tryf.prog Tryf.f3 Rows.fnClassStringTellsClassesApartRow.domain false Rows.fnClassStringTellsClassesApartRow.laid)
      (fun F => ((OpenSpec.ofChange Rows.fnClassStringTellsClassesApartSpec).at F).post enc Tryf.prog Tryf.f3 false true false false) (aloneAtReturn Tryf.prog) nothingAlways := by
  refine returnsInTold_of_row (C := Tryf.checked) (s := OpenSpec.ofChange Rows.fnClassStringTellsClassesApartSpec) (by kernel_rfl) own started (by kernel_rfl) Tryf.func3
    (OpenSpec.witness_stopped_at (enc := enc) (C := Tryf.checked) false (layTab (World.holding Tryf.prog os ⟨#[], #[], []⟩)) #[.int .u8 0, .int .u8 0] rfl (by kernel_rfl) (by kernel_rfl) (by kernel_rfl)
      (OpenSpec.preRow_of_B rfl 8 (by kernel_rfl) (by kernel_rfl) (layTab_met os _))) ?_
  intro F W base args ds gs before _ hF hval0 hW _ _ _ hL _
  have hval : ∀ (j : Nat) t v, Tryf.f3.params[j]? = some t → args[j]? = some v → Value.okWide Tryf.prog W .any base t v := hval0
  have hW' := hW
  obtain ⟨p, q, hA0, hV0, rfl, hfz, hnd⟩ := hW
  have hA : DataW.TrodAll enc Tryf.prog W 0 (fun _ => true) true Tryf.f3.params.toList args.toList ds p := hA0
  have hV : DataW.TrodVars enc Tryf.prog W (fun _ => true) [tabName] gs q := hV0
  rw [Tryf.params3] at hA hval
  obtain ⟨v0, v1, d0, d1, p0, p1, rfl, rfl, rfl, h0, h1⟩ := trodAll_two hA
  obtain ⟨c, rfl, rfl, rfl, wc⟩ := open_int Tryf.underlying5 (hval 0 5 v0 rfl rfl) h0
  obtain ⟨d, rfl, rfl, rfl, wd⟩ := open_int Tryf.underlying5 (hval 1 5 v1 rfl rfl) h1
  have hv := var_of_laid hL
  obtain ⟨rfl, rfl⟩ := hV.unique (tab_vars enc W _ hv)
  have hc0 : 0 ≤ c := by
    have := wc
    simp [Lit.wf, IntKind.min, IntKind.max, IntKind.signed, IntKind.bits] at this
    omega
  have hd0 : 0 ≤ d := by
    have := wd
    simp [Lit.wf, IntKind.min, IntKind.max, IntKind.signed, IntKind.bits] at this
    omega
  clear hA0 hV0 hval0
  refine (law c d W hc0 hd0 (cell_of_var hv)).mono fun e W' ⟨he, hw⟩ => ?_
  subst he
  obtain rfl : W' = W := hw
  exact ⟨_, rfl, _, _, _, [], [], MemPlace.row ⟨0, 0, none⟩ 12 ++ [] ++ [], hW', trodAll_mk1 (shut_bool Tryf.underlying4 _), trodAll_mk2 (shut_int Tryf.underlying5 wc) (shut_int Tryf.underlying5 wd), tab_vars enc _ _ hv, World.keptBut_refl _ _, fun h => by cases h⟩

theorem fnClassStringTellsClassesApart_told_holds : Rows.FnClassStringTellsClassesApartToldSaid :=
  Claim7.holds_of_told_tied_any_at .later 3 Tryf.f3 (Rows.fnClassStringTellsClassesApartRow.stops.headD "") [] [] Rows.fnClassStringTellsClassesApartCard.stood.harness false false [.widerDeep] true
    (by kernel_rfl) rfl rfl rfl laidOut (by kernel_rfl) rfl ⟨rfl, rfl, rfl, rfl, rfl, rfl, rfl⟩ rfl rfl (by kernel_rfl) (by kernel_rfl) Tryf.func3 (by kernel_rfl)
    (of_decide_eq_true (by kernel_rfl)) (by unfold Func.isWrapper; rw [if_neg (of_decide_eq_false (by kernel_rfl))]; exact ⟨rfl, rfl⟩) stopsAre.symm rfl stopKnobs.symm (by kernel_rfl)
    (by kernel_rfl) (by kernel_rfl) (by kernel_rfl) (by kernel_rfl) (by kernel_rfl) (by kernel_rfl) (by kernel_rfl) (by kernel_rfl) (by kernel_rfl) rfl (by kernel_rfl) rfl rfl
    rfl rfl
    rfl (by kernel_rfl) (by kernel_rfl) (by kernel_rfl) (by decide) (by kernel_rfl) fnClassStringTellsClassesApart_row_tie
    (OpenClaim.moreEntering_of (by kernel_rfl) (by kernel_rfl) (by kernel_rfl) (by kernel_rfl) (by kernel_rfl) (by kernel_rfl) (by kernel_rfl) (by kernel_rfl) (by kernel_rfl) (by kernel_rfl))
    ⟨_, WideRow.started_initial, quiet _⟩
    (fun os started _ H enc _ => lifted os started H enc)
end Go.Proofs.Qxb6612447aFmt
