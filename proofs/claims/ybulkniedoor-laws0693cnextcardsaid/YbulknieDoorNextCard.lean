import Derived.Test.YbulknieDoorRows
import Derived.Test.YbulknieDoorTie
import Derived.Test.YbulknieDoorCards
import Derived.Test.YbulknieDoorWalkC
import Derived.ProofKit
import Derived.LaidMore
import Derived.OpenShut
import Derived.Stop.Joined
import Derived.Lib.LaidTab
import Derived.SevenTiedAt
namespace Go.Proofs.YbulknieDoor.next
open Go.ChangeShapes Go.WideShapes Go.ChangeAt Go.RowKit

theorem own : ownKnob Ybad.prog.godebug = none := by kernel_rfl
/-- The listed variable's own name, off the given row. -/
abbrev vname : String := Rows.lawS0693CNextSpec.vars.headD ""
theorem gDays : Ybad.prog.globalNamed vname = some 0 := by kernel_rfl
theorem tDays : (Ybad.prog.globals[0]?).map (·.type) = some 28 := by kernel_rfl
theorem cells28 : Ybad.prog.cellsOf 28 = 12 := by kernel_rfl
theorem cells3 : Ybad.prog.cellsOf 3 = 1 := by kernel_rfl
def days : List Int := [0, 31, 59, 90, 120, 151, 181, 212, 243, 273, 304, 334]
def cells12 : Array Value := (days.map fun z => Value.int .i64 z).toArray
def laid1 : List (String × DataW Unit) := [(vname, Rows.laid_example_com_valkind_valkind_daysBeforeMonth)]

/-- The door's own heap meets the condition. -/
theorem door_met (os : Os) (args : Array Value) : laidMetH Ybad.prog laid1 ((World.doorLaid Ybad.prog 400 os).forCall (fun _ _ => 0) ⟨#[], args, []⟩).memory :=
  laidMetH_of_parts3 (fuel := 8) (laidMet_of_run' 8 (by kernel_rfl) (by kernel_rfl)) (by kernel_rfl) (by kernel_rfl)

theorem var_of_laid {W : World} (h : laidMetH Ybad.prog laid1 W) : W.var? Ybad.prog vname = some cells12 := by
  rw [MakeChecks.laidMetH_plain _ _ _ (by kernel_rfl)] at h
  exact Lib.tabIs_of_head (k := .i64) (zs := days) (rest := []) gDays tDays Ybad.underlying28 Ybad.underlying3 cells3 cells28 h

theorem tab_of_var {W : World} (h : W.var? Ybad.prog vname = some cells12) : Tab W := fun k hk =>
  Lib.TabIs.cell (k := .i64) (zs := days) h gDays k (by simpa [days] using hk)

abbrev tableH {H : Type} : DataW H := Rows.laid_example_com_valkind_valkind_daysBeforeMonth
theorem reads_table {H : Type} (enc : TypeId × Value → H) (W : World) (sp : Nat → Bool) : DataW.trod enc Ybad.prog W 0 sp true 3 28 cells12.toList = some (tableH, []) := by kernel_rfl

set_option maxRecDepth 100000 in
theorem lifted (os : Os) (started : os.Started) (H : Type) (enc : TypeId × Value → H) :
    ReturnsInHanded {} Ybad.checked os 4 .any (fun w args => (Rows.lawS0693CNextSpec.pre enc Ybad.prog Ybad.f4 [] false w args ∧ laidMetH Ybad.prog laid1 w) ∧ sizedMet enc Ybad.prog Ybad.f4 (OpenSpec.ofChange Rows.lawS0693CNextSpec) false w args)
      (Rows.lawS0693CNextSpec.post enc Ybad.prog Ybad.f4 false true false false) := by
  refine returnsInHanded_of_change_and (C := Ybad.checked) (X := fun w _ => laidMetH Ybad.prog laid1 w) (fun _ _ _ hh h => h.of_heap hh) own started (by kernel_rfl) Ybad.func4
    (ChangeSpec.witness_shaped (enc := enc) (C := Ybad.checked) (os := os) (X := fun w _ => laidMetH Ybad.prog laid1 w) false (World.doorLaid Ybad.prog 400 os) #[.int .u64 0] 8 rfl (World.shaped_of_RefB (by kernel_rfl) (by kernel_rfl)) (by kernel_rfl) (by kernel_rfl) (by kernel_rfl) (door_met os _)) ?_
  intro W base args ds gs before hval0 hW _ _ hL _
  have hval : ∀ (j : Nat) t v, Ybad.f4.params[j]? = some t → args[j]? = some v → Value.okWide Ybad.prog W .any base t v := hval0
  have hW' := hW
  obtain ⟨p, q, hA0, hV0, rfl, hfz, hnd⟩ := hW
  have hA : DataW.TrodAll enc Ybad.prog W 0 (fun _ => true) true Ybad.f4.params.toList args.toList ds p := hA0
  have hV : DataW.TrodVars enc Ybad.prog W (fun _ => true) [vname] gs q := hV0
  rw [Ybad.params4] at hA hval
  obtain ⟨v0, d0, rfl, rfl, h0⟩ := trodAll_one hA
  obtain ⟨x, rfl, rfl, rfl, wx⟩ := open_int Ybad.underlying22 (hval 0 22 v0 rfl rfl) h0
  obtain ⟨g, t, cs, fuel, d, p', rfl, hg, ht, hvar, hd, rfl⟩ := trodVars_one hV
  obtain rfl := Option.some.inj (gDays.symm.trans hg)
  obtain rfl := Option.some.inj (tDays.symm.trans ht)
  obtain rfl : cs = cells12 := Option.some.inj (hvar.symm.trans (var_of_laid hL))
  obtain ⟨rfl, rfl⟩ := DataW.Trod.unique (v := .agg cells12) ⟨fuel, hd⟩ ⟨3, reads_table enc W _⟩
  clear hA0 hV0 hval0
  have hvars : ∀ sp : Nat → Bool, DataW.TrodVars enc Ybad.prog W sp [vname] [tableH] (MemPlace.row ⟨0, 0, none⟩ cells12.size ++ [] ++ []) := fun sp =>
    ⟨0, 28, cells12, 3, [], [], hg, ht, hvar, reads_table enc W sp, rfl, rfl⟩
  refine (next_any x W (tab_of_var hvar)).mono fun e W' ⟨he, k, hw⟩ => ?_
  subst he; subst hw
  exact ⟨_, rfl, ChangeSpec.post_alike (post_of_same (pa := []) hW' (fun _ _ _ => trodAll_mk1 (shut_bool Ybad.underlying4 true)) (fun sp _ => trodAll_mk1 (shut_int Ybad.underlying22 wx)) (fun sp _ => hvars sp) (by simp)
      (World.keptBut_refl _ _) (fun _ => rfl) (ok_one (by kernel_rfl) rfl (okWide_bool_mk Ybad.underlying4 true))) (World.drewN_alike _ _)⟩

theorem row_holds : Rows.LawS0693CNextSaid :=
  OpenClaim.holds_of_wide 4 Ybad.f4 rfl rfl rfl rfl rfl rfl rfl ⟨rfl, rfl, rfl, rfl, rfl⟩ rfl rfl rfl rfl rfl (by kernel_rfl) Ybad.func4 (by kernel_rfl)
    (of_decide_eq_true (by kernel_rfl)) (by unfold Func.isWrapper; first | (rw [if_pos (by decide +kernel)]; kernel_rfl) | (rw [if_neg (by decide +kernel)]; exact ⟨rfl, rfl⟩))
    (fun os started H enc _ => lifted os started H enc)

/-- The tied card. -/
theorem card_holds : Rows.LawS0693CNextCardSaid :=
  Claim7.holds_tied_plain_at .later [] [.wider] true (true, "a4aa8dbe2b39297162f8659cf262c6a6cdbf24b1026e524610af3795ffd7dbff") false
    row_holds (fun _ h => by cases h) (by kernel_rfl) (fun _ h => by cases h) lawS0693CNext_row_tie rfl ⟨rfl, rfl⟩ (by kernel_rfl) rfl
    (fun f fn hf hfn => by
      obtain rfl : f = 4 := Option.some.inj ((show Ybad.prog.funcNamed Rows.lawS0693CNextRow.func = some 4 by kernel_rfl).symm.trans hf) |>.symm
      obtain rfl : fn = Ybad.f4 := (Option.some.inj (Ybad.func4.symm.trans hfn)).symm
      exact ⟨by kernel_rfl, fun j t ht => by
        rw [Ybad.params4] at ht
        have hm : t ∈ [22] := by simpa using Array.mem_of_getElem? ht
        have hall : ([22].all fun u => !Ybad.prog.wantsStandIn u) = true := by kernel_rfl
        exact (show Ybad.prog.wantsStandIn t = false by simpa using List.all_eq_true.1 hall t hm)⟩)
    (by kernel_rfl)
end Go.Proofs.YbulknieDoor.next
namespace Go.Proofs.YbulknieDoor
/-- THE STATEMENT. -/
theorem lawS0693CNext_card : Rows.LawS0693CNextCardSaid := next.card_holds
end Go.Proofs.YbulknieDoor
