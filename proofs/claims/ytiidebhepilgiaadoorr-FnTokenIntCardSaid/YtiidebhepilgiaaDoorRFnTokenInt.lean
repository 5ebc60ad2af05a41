/-
  FnTokenInt: digits (of any number, with leading zeros) are one token. Conditions: io.EOF, bytes.ErrTooLarge and the library's two tables of UTF-8 read as the program's text lays them.
  (The frame is after the kit's worked proof over the toy 'mapy' and the toy of a law over a table.)
-/
import Derived.Test.YtiidebhepilgiaaDoorRTokLaw
import Derived.PinnedBridge
import Derived.Test.YtiidebhepilgiaaDoorRCards
import Derived.Test.YtiidebhepilgiaaDoorRTie
import Derived.WalkKit
import Derived.ProofKit
import Derived.OpenShut
import Derived.LaidMore
import Derived.Stop.LaidErr
import Derived.LaidSub
import Derived.MakeChecks
import Derived.Lay
import Derived.Stop.Joined
import Derived.Lib.LaidTab
import Derived.Deep.DeepHandedRow
namespace Go.Proofs.YtiidebhepilgiaaDoorR.fnTokenInt
open Go.ChangeShapes Go.WideShapes Go.ChangeAt Go.RowKit
theorem own : ownKnob Tryd.prog.godebug = none := by kernel_rfl
theorem gErr : Tryd.prog.globalNamed "io.EOF" = some 2 := by kernel_rfl
theorem tErr : (Tryd.prog.globals[2]?).map (·.type) = some 36 := by kernel_rfl
theorem gTab : Tryd.prog.globalNamed "unicode/utf8.first" = some 0 := by kernel_rfl
theorem tTab : (Tryd.prog.globals[0]?).map (·.type) = some 90 := by kernel_rfl
theorem star : "*" ++ "errors.errorString" = "*errors.errorString" := by decide
theorem nameErr (u : TypeId) (h : Tryd.prog.typeName? 3 u = some "*errors.errorString") : u = 65 :=
  typeName_ptr_named (nm := "errors.errorString") (by rw [star]; kernel_rfl) (by kernel_rfl) (by decide) u (by rw [star]; exact h)
theorem cell_lt {W : World} {p : Addr} {v : Value} (h : W.cell? p = some v) : p.block < W.heap.size := by
  apply Classical.byContradiction
  intro hn
  rw [World.cell?, Array.getElem?_eq_none (by omega)] at h
  cases h
theorem one_of {W : World} {l : List (String × DataW Unit)} (h : laidMetH Tryd.prog l W) (name : String) (x : String × DataW Unit) (hf : (l.filter fun y => y.1 == name) = [x]) (hp : ([x].all fun x => x.2.handleName?.isNone) = true) : laidMet Tryd.prog [x] W := by
  have := laidMetH.filter (fun y => y.1 == name) h
  rwa [hf, MakeChecks.laidMetH_plain _ _ _ hp] at this
theorem err_of {W : World} (h : laidMetH Tryd.prog Rows.fnTokenIntRow.laid W) : ∃ a, W.cell? ⟨2, 0, none⟩ = some (.iface 65 (.pointer (some a))) := by
  have h' := one_of h "io.EOF" ("io.EOF", Rows.laid_io_EOF) (by kernel_rfl) (by kernel_rfl)
  obtain ⟨a, s, hv, _⟩ := laid_sentinel (r := []) h' gErr tErr Tryd.underlying36 nameErr Tryd.underlying65 Tryd.underlying67 rfl rfl Tryd.underlying9 (by kernel_rfl) (by kernel_rfl)
  refine ⟨a, ?_⟩
  have := World.var?_cell gErr hv 0
  simpa using this
theorem tab_of {W : World} (h : laidMetH Tryd.prog Rows.fnTokenIntRow.laid W) (x : Nat) (h0 : 48 ≤ x) (h1 : x ≤ 57) : W.cell? ⟨0, x, none⟩ = some (.int .u8 240) := by
  have h' := one_of h "unicode/utf8.first" ("unicode/utf8.first", Go.Pinned.utf8First) (by kernel_rfl) (by kernel_rfl)
  rw [Pinned.utf8First_eq] at h'
  have t := Lib.tabIs_of_head gTab tTab Tryd.underlying90 Tryd.underlying5 (by kernel_rfl) (by kernel_rfl) h'
  have c := t.cell gTab x (by have : Lib.firstTab.length = 256 := by kernel_rfl
                              omega)
  rw [c]
  have hv : ∀ j : _root_.Fin 10, Lib.firstTab.getD (48 + j.val) 0 = 240 := by decide +kernel
  have := hv ⟨x - 48, by omega⟩
  rw [show 48 + (x - 48) = x by omega] at this
  rw [this]
theorem door_met (os : Os) (args : Array Value) : laidMetH Tryd.prog Rows.fnTokenIntRow.laid ((World.laidAll Tryd.prog os Rows.fnTokenIntRow.laid).forCall (fun _ _ => 0) ⟨#[], args, []⟩).memory := by
  rw [MakeChecks.laidMetH_plain _ _ _ (by kernel_rfl)]
  exact laidMet_laidAll _ (by kernel_rfl) (by kernel_rfl)
set_option maxRecDepth 100000 in
theorem lifted (os : Os) (started : os.Started) (H : Type) (enc : TypeId × Value → H) :
    ReturnsInHanded {} Tryd.checked os 4 .any (fun w args => (Rows.fnTokenIntSpec.pre enc Tryd.prog Tryd.f4 [] false w args ∧ laidMetH Tryd.prog Rows.fnTokenIntRow.laid w) ∧ sizedMet enc Tryd.prog Tryd.f4 (OpenSpec.ofChange Rows.fnTokenIntSpec) false w args)
      (Rows.fnTokenIntSpec.post enc Tryd.prog Tryd.f4 false true false false) := by
  refine returnsInHanded_of_change_and (C := Tryd.checked) (X := fun w _ => laidMetH Tryd.prog Rows.fnTokenIntRow.laid w) (fun _ _ _ hh h => h.of_heap hh) own started (by kernel_rfl) Tryd.func4
    (ChangeSpec.witness_shaped (enc := enc) (C := Tryd.checked) (os := os) (X := fun w _ => laidMetH Tryd.prog Rows.fnTokenIntRow.laid w) false (World.laidAll Tryd.prog os Rows.fnTokenIntRow.laid) #[.int .u64 0, .int .u8 0] 8 rfl (World.shaped_of_ZipB (by kernel_rfl) (by kernel_rfl)) (by kernel_rfl) (by kernel_rfl) (by kernel_rfl) (door_met os _)) ?_
  intro W base args ds gs before hval0 hW _ _ hL _
  have hval : ∀ (j : Nat) t v, Tryd.f4.params[j]? = some t → args[j]? = some v → Value.okWide Tryd.prog W .any base t v := hval0
  have hW' := hW
  obtain ⟨p, q, hA0, hV, rfl, hfz, hnd⟩ := hW
  have hA : DataW.TrodAll enc Tryd.prog W 0 (fun _ => true) true Tryd.f4.params.toList args.toList ds p := hA0
  rw [Tryd.params4] at hA hval
  obtain ⟨v0, vs0, d0, ds0, p0, q0, hargs, rfl, rfl, h0, r0⟩ := trodAll_cons hA
  obtain ⟨v1, vs1, d1, ds1, p1, q1, rfl, rfl, rfl, h1, r1⟩ := trodAll_cons r0
  obtain ⟨rfl, rfl, rfl⟩ := trodAll_nil r1
  obtain rfl : args = #[v0, v1] := by cases args; simp_all
  obtain ⟨rfl, rfl⟩ := trodVars_none hV
  obtain ⟨a0, rfl, rfl, rfl, w0⟩ := open_int Tryd.underlying27 (hval 0 27 v0 rfl rfl) h0
  obtain ⟨a1, rfl, rfl, rfl, w1⟩ := open_int Tryd.underlying5 (hval 1 5 v1 rfl rfl) h1
  clear hA0 hval0
  simp only [List.append_nil] at hW'
  obtain ⟨ea, hE⟩ := err_of hL
  have b0 := bounds_u64 w0
  have b1 := bounds_u8 w1
  obtain ⟨n0, hn0⟩ : ∃ n : Nat, a0 = n := ⟨a0.toNat, by omega⟩
  obtain ⟨n1, hn1⟩ : ∃ n : Nat, a1 = n := ⟨a1.toNat, by omega⟩
  subst hn0 hn1
  refine (lawTok n0 n1 ea W (by omega) (by omega) (cell_lt hE) (tab_of hL) hE).mono fun e W' ⟨he, hg⟩ => ?_
  subst he
  exact ⟨_, rfl, _, _, _, [], [], [], hW', (trodAll_cons_mk (shut_bool Tryd.underlying4 _) trodAll_mk0), (trodAll_cons_mk (shut_int Tryd.underlying27 w0) (trodAll_cons_mk (shut_int Tryd.underlying5 w1) trodAll_mk0)), rfl, hg.frame _, fun h => by cases h⟩
theorem said : Rows.FnTokenIntSaid :=
  OpenClaim.holds_of_wide 4 Tryd.f4 rfl rfl rfl rfl rfl rfl rfl ⟨rfl, rfl, rfl, rfl, rfl⟩ rfl rfl rfl rfl rfl (by kernel_rfl) Tryd.func4 (by kernel_rfl)
    (of_decide_eq_true (by kernel_rfl)) (by unfold Func.isWrapper; first | (rw [if_pos (by decide +kernel)]; kernel_rfl) | (rw [if_neg (by decide +kernel)]; exact ⟨rfl, rfl⟩))
    (fun os started H enc _ => lifted os started H enc)
theorem plain (f : FuncId) (fn : Func) (hf : Tryd.pinned.checked.prog.funcNamed "pub-claviger/laws.FnTokenInt" = some f) (hfn : Tryd.pinned.checked.prog.funcs[f]? = some fn) :
    true = Tryd.pinned.checked.prog.looks [] ∧ ∀ (j : Nat) t, fn.params[j]? = some t → Tryd.pinned.checked.prog.wantsStandIn t = false := by
  obtain rfl : f = 4 := Option.some.inj ((show Tryd.prog.funcNamed "pub-claviger/laws.FnTokenInt" = some 4 by kernel_rfl).symm.trans hf) |>.symm
  obtain rfl : fn = Tryd.f4 := (Option.some.inj (Tryd.func4.symm.trans hfn)).symm
  refine ⟨by kernel_rfl, fun j t ht => ?_⟩
  rw [Tryd.params4] at ht
  have hm := Array.mem_of_getElem? ht
  have ho : t = 27 ∨ t = 5 := by simpa using hm
  rcases ho with rfl | rfl
  · exact (show Tryd.prog.wantsStandIn 27 = false by kernel_rfl)
  · exact (show Tryd.prog.wantsStandIn 5 = false by kernel_rfl)
/-- ████ THE CARD ████ -/
theorem proved : Rows.FnTokenIntCardSaid :=
  Claim7.holds_tied_plain_at .later [] _ _ _ _ said (fun _ h => by cases h) (by kernel_rfl) (fun _ h => by cases h) fnTokenInt_row_tie rfl ⟨rfl, rfl⟩ (by kernel_rfl) rfl plain (by kernel_rfl)
#print axioms proved
end Go.Proofs.YtiidebhepilgiaaDoorR.fnTokenInt
