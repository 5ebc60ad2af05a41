/-
  FnDurationText: the text of every duration but the least one is that of the reference. Conditions: the library's variables that the row lists read as the program's text lays them.
  (The frame is after the kit's worked proof over the toy 'mapy' and the toy of a law over a table.)
-/
import Derived.Test.YtcggmabpbbieaaaDoorDurLaw
import Derived.Test.YtcggmabpbbieaaaDoorCards
import Derived.Test.YtcggmabpbbieaaaDoorTie
import Derived.WalkKit
import Derived.ProofKit
import Derived.OpenShut
import Derived.LaidMore
import Derived.LaidSub
import Derived.MakeChecks
import Derived.Stop.Joined
import Derived.Lib.LaidTab
import Derived.Deep.DeepHandedRow
namespace Go.Proofs.YtcggmabpbbieaaaDoor.fnDurationText
open Go.ChangeShapes Go.WideShapes Go.ChangeAt Go.RowKit
theorem own : ownKnob Tryd.prog.godebug = none := by kernel_rfl
theorem tPow : (Tryd.prog.globals[2]?).map (·.type) = some 70 := by kernel_rfl
theorem cells70 : Tryd.prog.cellsOf 70 = 20 := by kernel_rfl
theorem cells22 : Tryd.prog.cellsOf 22 = 1 := by kernel_rfl
theorem tab_of {W : World} (h : laidMetH Tryd.prog Rows.fnDurationTextRow.laid W) : Tab W := by
  have h1 := laidMetH.filter (fun x => x.1 == "internal/strconv.uint64pow10") h
  rw [MakeChecks.laidMetH_plain _ _ _ (by kernel_rfl)] at h1
  exact Lib.tabIs_of_head (rest := []) gPow tPow Tryd.underlying70 Tryd.underlying22 cells22 cells70 h1
theorem door_met (os : Os) (args : Array Value) : laidMetH Tryd.prog Rows.fnDurationTextRow.laid ((World.doorLaid Tryd.prog 3000 os).forCall (fun _ _ => 0) ⟨#[], args, []⟩).memory :=
  laidMetH_of_parts3 (fuel := 8) (laidMet_of_run' 8 (by kernel_rfl) (by kernel_rfl)) (by kernel_rfl) (by kernel_rfl)
set_option maxRecDepth 100000 in
theorem lifted (os : Os) (started : os.Started) (H : Type) (enc : TypeId × Value → H) :
    ReturnsInHanded {} Tryd.checked os 5 .any (fun w args => (Rows.fnDurationTextSpec.pre enc Tryd.prog Tryd.f5 [] false w args ∧ laidMetH Tryd.prog Rows.fnDurationTextRow.laid w) ∧ sizedMet enc Tryd.prog Tryd.f5 (OpenSpec.ofChange Rows.fnDurationTextSpec) false w args)
      (Rows.fnDurationTextSpec.post enc Tryd.prog Tryd.f5 false true false false) := by
  refine returnsInHanded_of_change_and (C := Tryd.checked) (X := fun w _ => laidMetH Tryd.prog Rows.fnDurationTextRow.laid w) (fun _ _ _ hh h => h.of_heap hh) own started (by kernel_rfl) Tryd.func5
    (ChangeSpec.witness_shaped (enc := enc) (C := Tryd.checked) (os := os) (X := fun w _ => laidMetH Tryd.prog Rows.fnDurationTextRow.laid w) false (World.doorLaid Tryd.prog 3000 os) #[.int .i64 0] 8 rfl (World.shaped_of_RefB (by kernel_rfl) (by kernel_rfl)) (by kernel_rfl) (by kernel_rfl) (by kernel_rfl) (door_met os _)) ?_
  intro W base args ds gs before hval0 hW _ _ hL _
  have hval : ∀ (j : Nat) t v, Tryd.f5.params[j]? = some t → args[j]? = some v → Value.okWide Tryd.prog W .any base t v := hval0
  have hW' := hW
  obtain ⟨p, q, hA0, hV, rfl, hfz, hnd⟩ := hW
  have hA : DataW.TrodAll enc Tryd.prog W 0 (fun _ => true) true Tryd.f5.params.toList args.toList ds p := hA0
  rw [Tryd.params5] at hA hval
  obtain ⟨v0, vs0, d0, ds0, p0, q0, hargs, rfl, rfl, h0, r0⟩ := trodAll_cons hA
  obtain ⟨rfl, rfl, rfl⟩ := trodAll_nil r0
  obtain rfl : args = #[v0] := by cases args; simp_all
  obtain ⟨rfl, rfl⟩ := trodVars_none hV
  obtain ⟨a0, rfl, rfl, rfl, w0⟩ := open_int Tryd.underlying3 (hval 0 3 v0 rfl rfl) h0
  clear hA0 hval0
  simp only [List.append_nil] at hW'
  refine (lawDur a0 (bounds_i64 w0).1 (bounds_i64 w0).2 W (tab_of hL)).mono fun e W' ⟨he, hg⟩ => ?_
  subst he
  exact ⟨_, rfl, _, _, _, [], [], [], hW', (trodAll_cons_mk (shut_bool Tryd.underlying4 _) trodAll_mk0), (trodAll_cons_mk (shut_int Tryd.underlying3 w0) trodAll_mk0), rfl, hg.frame _, fun h => by cases h⟩
theorem said : Rows.FnDurationTextSaid :=
  OpenClaim.holds_of_wide 5 Tryd.f5 rfl rfl rfl rfl rfl rfl rfl ⟨rfl, rfl, rfl, rfl, rfl⟩ rfl rfl rfl rfl rfl (by kernel_rfl) Tryd.func5 (by kernel_rfl)
    (of_decide_eq_true (by kernel_rfl)) (by unfold Func.isWrapper; first | (rw [if_pos (by decide +kernel)]; kernel_rfl) | (rw [if_neg (by decide +kernel)]; exact ⟨rfl, rfl⟩))
    (fun os started H enc _ => lifted os started H enc)
theorem plain (f : FuncId) (fn : Func) (hf : Tryd.pinned.checked.prog.funcNamed "pub-claviger/laws.FnDurationText" = some f) (hfn : Tryd.pinned.checked.prog.funcs[f]? = some fn) :
    false = Tryd.pinned.checked.prog.looks [] ∧ ∀ (j : Nat) t, fn.params[j]? = some t → Tryd.pinned.checked.prog.wantsStandIn t = false := by
  obtain rfl : f = 5 := Option.some.inj ((show Tryd.prog.funcNamed "pub-claviger/laws.FnDurationText" = some 5 by kernel_rfl).symm.trans hf) |>.symm
  obtain rfl : fn = Tryd.f5 := (Option.some.inj (Tryd.func5.symm.trans hfn)).symm
  refine ⟨by kernel_rfl, fun j t ht => ?_⟩
  rw [Tryd.params5] at ht
  obtain rfl : t = 3 := by simpa using Array.mem_of_getElem? ht
  exact (show Tryd.prog.wantsStandIn 3 = false by kernel_rfl)
/-- ████ THE CARD ████ -/
theorem proved : Rows.FnDurationTextCardSaid :=
  Claim7.holds_tied_plain_at .later [] _ _ _ _ said (fun _ h => by cases h) (by kernel_rfl) (fun _ h => by cases h) fnDurationText_row_tie rfl ⟨rfl, rfl⟩ (by kernel_rfl) rfl plain (by kernel_rfl)
#print axioms proved
end Go.Proofs.YtcggmabpbbieaaaDoor.fnDurationText
