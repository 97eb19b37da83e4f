/-
  The proof of 'Rows.FnKindStringNamesEachKindApartCardSaid': the row over the listed table, then the tied card by the builder's one call.
-/
import Derived.Test.Qxb6608589aDoorRows
import Derived.Test.Qxb6608589aDoorTie
import Derived.Test.Qxb6608589aDoorCards
import Derived.Test.Qxb6608589aDoorKindWalk
import Derived.ProofKit
import Derived.LaidMore
import Derived.OpenShut
import Derived.ChangeVars
import Derived.SevenTiedAt
import Derived.Stop.Joined
namespace Go.Proofs.Qxb6608589aDoor.kindApart
open Go.ChangeShapes Go.WideShapes Go.ChangeAt Go.RowKit

theorem own : ownKnob Tryd.prog.godebug = none := by kernel_rfl
/-- The table's name, off the given specification. -/
abbrev kn : String := Rows.fnKindStringNamesEachKindApartSpec.vars.headD ""
theorem gKinds : Tryd.prog.globalNamed kn = some 0 := by kernel_rfl
theorem tKinds : (Tryd.prog.globals[0]?).map (·.type) = some 43 := by kernel_rfl
theorem cells43 : Tryd.prog.cellsOf 43 = 7 := by kernel_rfl
theorem cells42 : Tryd.prog.cellsOf 42 = 1 := by kernel_rfl

/-- The table's seven cells. -/
def cells7 : Array Value := #[.string (nm 0), .string (nm 1), .string (nm 2), .string (nm 3), .string (nm 4), .string (nm 5), .string (nm 6)]
theorem cells7_at (i : Nat) (hi : i < 7) : cells7[i]? = some (.string (nm i)) := by
  have : i = 0 ∨ i = 1 ∨ i = 2 ∨ i = 3 ∨ i = 4 ∨ i = 5 ∨ i = 6 := by omega
  rcases this with rfl | rfl | rfl | rfl | rfl | rfl | rfl <;> rfl

/-- The datum, for any kind of token. -/
abbrev datum {H : Type} : DataW H := Rows.laid_example_com_beforehand_beforehand_internal_runlog_kindNames
theorem reads_table {H : Type} (enc : TypeId × Value → H) (W : World) (sp : Nat → Bool) : DataW.trod enc Tryd.prog W 0 sp true 3 43 cells7.toList = some (datum, []) := by kernel_rfl

/-- What the row's condition gives: the variable's cells. -/
theorem cells_of_laid {W : World} (h : laidMetH Tryd.prog Rows.fnKindStringNamesEachKindApartRow.laid W) : W.var? Tryd.prog kn = some cells7 := by
  rw [MakeChecks.laidMetH_plain _ _ _ (by kernel_rfl)] at h
  obtain ⟨ps, ⟨g, t, cs, fuel, p, q, hg, ht, hv, hd, _, _⟩, _⟩ := h
  obtain rfl := Option.some.inj (gKinds.symm.trans hg)
  obtain rfl := Option.some.inj (tKinds.symm.trans ht)
  obtain ⟨xs, m, _, hx, hl, _, hel⟩ := DataW.trod_array Tryd.underlying43 hd
  rw [cells43] at hl
  simp only [Prod.mk.injEq] at hx
  have hL : [DataW.lit (.string []), .lit (.string [108, 111, 99, 97, 108]), .lit (.string [115, 101, 110, 100]), .lit (.string [114, 101, 99, 101, 105, 118, 101]), .lit (.string [101, 110, 116, 101, 114]), .lit (.string [101, 120, 105, 116]), .lit (.string [97, 112, 112, 108, 121])] = xs.map (·.1) := DataW.agg.inj hx.1
  have key : ∀ i, i < 7 → cs.toList[i]? = some (.string (nm i)) := by
    intro i hi
    have h := hel i hi
    rw [cells42, Nat.mul_one] at h
    have hxi : (xs.map (·.1))[i]? = some (.lit (.string (nm i).data.toList)) := by
      rw [← hL]
      have : i = 0 ∨ i = 1 ∨ i = 2 ∨ i = 3 ∨ i = 4 ∨ i = 5 ∨ i = 6 := by omega
      rcases this with rfl | rfl | rfl | rfl | rfl | rfl | rfl <;> rfl
    rw [List.getElem?_map] at hxi
    cases hy : xs[i]? with
    | none => rw [hy] at hxi; simp at hxi
    | some y =>
      rw [hy] at hxi
      obtain ⟨s, e1, e2, _⟩ := DataW.trod_string Tryd.underlying42 (h.trans hy)
      have hs : s = nm i := by
        rw [e2] at hxi
        simp at hxi
        exact bytes_inj (by simpa using hxi)
      have h0 : ((cs.toList.drop i).take 1)[0]? = some (.string s) := by rw [e1]; rfl
      rw [← hs]
      simpa [List.getElem?_take, List.getElem?_drop] using h0
  refine hv.trans (congrArg some ?_)
  apply Array.ext'
  apply List.ext_getElem?
  intro i
  by_cases hi : i < 7
  · rw [key i hi]
    have := cells7_at i hi
    simpa using this.symm
  · rw [List.getElem?_eq_none (by omega), List.getElem?_eq_none (by show 7 ≤ i; omega)]

/-- The door's own heap meets the condition. -/
theorem door_met (os : Os) (args : Array Value) : laidMetH Tryd.prog Rows.fnKindStringNamesEachKindApartRow.laid ((World.doorLaid Tryd.prog 90 os).forCall (fun _ _ => 0) ⟨#[], args, []⟩).memory :=
  laidMetH_of_parts3 (fuel := 8) (laidMet_of_run' 8 (by kernel_rfl) (by kernel_rfl)) (by kernel_rfl) (by kernel_rfl)

set_option maxRecDepth 100000 in
theorem lifted (os : Os) (started : os.Started) (H : Type) (enc : TypeId × Value → H) :
    ReturnsInHanded {} Tryd.checked os 3 .any (fun w args => (Rows.fnKindStringNamesEachKindApartSpec.pre enc Tryd.prog Tryd.f3 [] false w args ∧ laidMetH Tryd.prog Rows.fnKindStringNamesEachKindApartRow.laid w) ∧ sizedMet enc Tryd.prog Tryd.f3 (OpenSpec.ofChange Rows.fnKindStringNamesEachKindApartSpec) false w args)
      (Rows.fnKindStringNamesEachKindApartSpec.post enc Tryd.prog Tryd.f3 false true false false) := by
  refine returnsInHanded_of_change_and (C := Tryd.checked) (X := fun w _ => laidMetH Tryd.prog Rows.fnKindStringNamesEachKindApartRow.laid w) (fun _ _ _ hh h => h.of_heap hh) own started (by kernel_rfl) Tryd.func3
    (ChangeSpec.witness_shaped (enc := enc) (C := Tryd.checked) (os := os) (X := fun w _ => laidMetH Tryd.prog Rows.fnKindStringNamesEachKindApartRow.laid w) false (World.doorLaid Tryd.prog 90 os) #[.int .u8 0, .int .u8 0] 8 rfl (World.shaped_of_RefB (by kernel_rfl) (by kernel_rfl)) (by kernel_rfl) (by kernel_rfl) (by kernel_rfl) (door_met os _)) ?_
  intro W base args ds gs before hval0 hW _ _ hL _
  have hval : ∀ (j : Nat) t v, Tryd.f3.params[j]? = some t → args[j]? = some v → Value.okWide Tryd.prog W .any base t v := hval0
  have hW' := hW
  obtain ⟨p, q, hA0, hV0, rfl, hfz, hnd⟩ := hW
  have hA : DataW.TrodAll enc Tryd.prog W 0 (fun _ => true) true Tryd.f3.params.toList args.toList ds p := hA0
  have hV : DataW.TrodVars enc Tryd.prog W (fun _ => true) [kn] gs q := hV0
  rw [Tryd.params3] at hA hval
  obtain ⟨v0, v1, d0, d1, p0, p1, rfl, rfl, rfl, h0, h1⟩ := trodAll_two hA
  obtain ⟨a, rfl, rfl, rfl, wa⟩ := open_int Tryd.underlying5 (hval 0 5 v0 rfl rfl) h0
  obtain ⟨b, rfl, rfl, rfl, wb⟩ := open_int Tryd.underlying5 (hval 1 5 v1 rfl rfl) h1
  obtain ⟨g, t, cs, fuel, d, p', rfl, hg, ht, hvar, hd, rfl⟩ := trodVars_one hV
  obtain rfl := Option.some.inj (gKinds.symm.trans hg)
  obtain rfl := Option.some.inj (tKinds.symm.trans ht)
  obtain rfl : cs = cells7 := Option.some.inj (hvar.symm.trans (cells_of_laid hL))
  obtain ⟨rfl, rfl⟩ := DataW.Trod.unique (v := .agg cells7) ⟨fuel, hd⟩ ⟨3, reads_table enc W _⟩
  clear hA0 hV0 hval0
  have hvars : ∀ sp : Nat → Bool, DataW.TrodVars enc Tryd.prog W sp [kn] [datum] (MemPlace.row ⟨0, 0, none⟩ cells7.size ++ [] ++ []) := fun sp =>
    ⟨0, 43, cells7, 3, [], [], hg, ht, hvar, reads_table enc W sp, rfl, rfl⟩
  have hc : ∀ i, i < 7 → W.cell? ⟨0, i, none⟩ = some (.string (nm i)) := fun i hi => (World.var?_cell hg hvar i).trans (cells7_at i hi)
  refine (walk a b (bounds_u8 wa).1 (bounds_u8 wb).1 W hc).mono fun e W' ⟨he, hw⟩ => ?_
  subst he; subst hw
  exact ⟨_, rfl, post_of_same (pa := []) hW' (fun _ _ _ => trodAll_mk1 (shut_bool Tryd.underlying4 true)) (fun sp _ => trodAll_mk2 (shut_int Tryd.underlying5 wa) (shut_int Tryd.underlying5 wb)) (fun sp _ => hvars sp) (by simp)
    (World.keptBut_refl _ _) (fun _ => rfl) (ok_one (by kernel_rfl) rfl (okWide_bool_mk Tryd.underlying4 _))⟩

/-- The bare row. -/
theorem row_holds : Rows.FnKindStringNamesEachKindApartSaid :=
  OpenClaim.holds_of_wide 3 Tryd.f3 rfl rfl rfl rfl rfl rfl rfl ⟨rfl, rfl, rfl, rfl, rfl⟩ rfl rfl rfl rfl rfl (by kernel_rfl) Tryd.func3 (by kernel_rfl)
    (of_decide_eq_true (by kernel_rfl)) (by unfold Func.isWrapper; first | (rw [if_pos (by decide +kernel)]; kernel_rfl) | (rw [if_neg (by decide +kernel)]; exact ⟨rfl, rfl⟩))
    (fun os started H enc _ => lifted os started H enc)

/-- The given statement: the row, its listed table tied to the program's text. -/
theorem proved : Rows.FnKindStringNamesEachKindApartCardSaid :=
  Claim7.holds_tied_plain_at .later [] [.widerDeep] true Rows.fnKindStringNamesEachKindApartCard.stood.harness true
    row_holds (fun _ h => by cases h) (by kernel_rfl) (fun _ h => by cases h) fnKindStringNamesEachKindApart_row_tie rfl ⟨rfl, rfl⟩ (by kernel_rfl) rfl
    (fun f fn hf hfn => by
      obtain rfl : f = 3 := Option.some.inj ((show Tryd.prog.funcNamed Rows.fnKindStringNamesEachKindApartRow.func = some 3 by kernel_rfl).symm.trans hf) |>.symm
      obtain rfl : fn = Tryd.f3 := (Option.some.inj (Tryd.func3.symm.trans hfn)).symm
      exact ⟨by kernel_rfl, fun j t ht => by
        rw [Tryd.params3] at ht
        have hm : t ∈ [5, 5] := by simpa using Array.mem_of_getElem? ht
        have hall : ([5, 5].all fun u => !Tryd.prog.wantsStandIn u) = true := by kernel_rfl
        exact (show Tryd.prog.wantsStandIn t = false by simpa using List.all_eq_true.1 hall t hm)⟩)
    (by kernel_rfl)
end Go.Proofs.Qxb6608589aDoor.kindApart
