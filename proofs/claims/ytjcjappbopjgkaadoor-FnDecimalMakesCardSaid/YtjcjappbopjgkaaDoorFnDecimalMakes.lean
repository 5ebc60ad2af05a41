/-
  FnDecimalMakes: NewDecimal of i and an exponent from -4 to 14 is i times ten to the power of the exponent, where i with so many zeros fits into 64 bits; it is ok just if that is a decimal. Conditions: the package's own error and the library's three tables of powers of ten read as the program's text lays them.
  (The frame is after the kit's worked proof over the toy 'mapy' and the toy of a law over a table.)
-/
import Derived.Test.YtjcjappbopjgkaaDoorLaw
import Derived.Test.YtjcjappbopjgkaaDoorCards
import Derived.Test.YtjcjappbopjgkaaDoorTie
import Derived.WalkKit
import Derived.ProofKit
import Derived.OpenShut
import Derived.LaidMore
import Derived.Stop.LaidErr
import Derived.LaidSub
import Derived.MakeChecks
import Derived.Stop.Joined
import Derived.Lib.LaidTab
import Derived.Deep.DeepHandedRow
namespace Go.Proofs.YtjcjappbopjgkaaDoor.fnDecimalMakes
open Go.ChangeShapes Go.WideShapes Go.ChangeAt Go.RowKit
theorem own : ownKnob Tryd.prog.godebug = none := by kernel_rfl
theorem gErr : Tryd.prog.globalNamed "pub-claviger/pub/cedargo/inner.ErrDecimal" = some 0 := by kernel_rfl
theorem tErr : (Tryd.prog.globals[0]?).map (·.type) = some 28 := by kernel_rfl
theorem g32 : Tryd.prog.globalNamed "math.pow10postab32" = some 2 := by kernel_rfl
theorem t32 : (Tryd.prog.globals[2]?).map (·.type) = some 36 := by kernel_rfl
theorem gTab : Tryd.prog.globalNamed "math.pow10tab" = some 3 := by kernel_rfl
theorem tTab : (Tryd.prog.globals[3]?).map (·.type) = some 38 := by kernel_rfl
theorem star : "*" ++ "errors.errorString" = "*errors.errorString" := by decide
theorem nameErr (u : TypeId) (h : Tryd.prog.typeName? 3 u = some "*errors.errorString") : u = 42 :=
  typeName_ptr_named (nm := "errors.errorString") (by rw [star]; kernel_rfl) (by kernel_rfl) (by decide) u (by rw [star]; exact h)
theorem trod_float {H : Type} {enc : TypeId × Value → H} {P : Program} {w : World} {base : Nat} {spare : Nat → Bool} {held : Bool} {fuel : Nat} {t : TypeId} {cs : List Value} {x : DataW H × List MemPlace} {k : FloatKind}
    (ht : P.underlying t = some (.float k)) (h : DataW.trod enc P w base spare held fuel t cs = some x) : ∃ n, cs = [.float k n] ∧ x = (.lit (.float k n), []) := by
  cases fuel with
  | zero => simp [DataW.trod] at h
  | succ n =>
    unfold DataW.trod at h
    rw [ht] at h
    split at h <;> simp_all
/-- An array of floats that reads as a list of literals holds these, cell for cell. -/
theorem cells_of_ftab {H : Type} {enc : TypeId × Value → H} {P : Program} {w : World} {base : Nat} {sp : Nat → Bool} {held : Bool} {fuel : Nat} {t e : TypeId} {n : Nat} {k : FloatKind} {cs : List Value} {zs : List Nat} {p : List MemPlace}
    (ht : P.underlying t = some (.array n e)) (he : P.underlying e = some (.float k)) (hce : P.cellsOf e = 1) (hct : P.cellsOf t = n)
    (h : DataW.trod enc P w base sp held fuel t cs = some (.agg (zs.map fun z => .lit (.float k z)), p)) : cs = zs.map fun z => Value.float k z := by
  cases fuel with
  | zero => simp [DataW.trod] at h
  | succ fuel =>
    simp only [DataW.trod, ht, hce, hct, Nat.mul_one] at h
    split at h
    · rename_i hl
      obtain ⟨xs, hm, hx⟩ := Option.map_eq_some_iff.1 h
      have hxs : xs.map (·.1) = zs.map fun z => (DataW.lit (.float k z) : DataW H) := by
        have := congrArg Prod.fst hx
        simpa using this
      have hxl : xs.length = n := by simpa using Lib.mapM_length hm
      have hzl : zs.length = n := by
        have := congrArg List.length hxs
        simp at this
        omega
      apply List.ext_getElem?
      intro i
      by_cases hi : i < n
      · obtain ⟨b, hb, hf⟩ := Lib.mapM_at hm i i (by simp [hi])
        obtain ⟨z, hc, rfl⟩ := trod_float he hf
        have h1 : cs[i]? = some (.float k z) := by
          have := congrArg (·[0]?) hc
          simpa [List.getElem?_take, List.getElem?_drop] using this
        have h2 : (xs.map (·.1))[i]? = some (DataW.lit (.float k z) : DataW H) := by simp [hb]
        rw [hxs] at h2
        simp only [List.getElem?_map, Option.map_eq_some_iff, DataW.lit.injEq, Lit.float.injEq, true_and] at h2
        obtain ⟨z', hz', rfl⟩ := h2
        simp [h1, hz']
      · rw [List.getElem?_eq_none (by omega), List.getElem?_eq_none (by simp; omega)]
    · cases h
/-- A variable that is laid as a list of floats holds them. -/
theorem ftab {P : Program} {W : World} {name : String} {k : FloatKind} {zs : List Nat} {g : Nat} {t e : TypeId} {n : Nat} {d : DataW Unit}
    (hg : P.globalNamed name = some g) (hty : (P.globals[g]?).map (·.type) = some t) (ht : P.underlying t = some (.array n e)) (he : P.underlying e = some (.float k)) (hce : P.cellsOf e = 1) (hct : P.cellsOf t = n)
    (hd0 : d = .agg (zs.map fun z => .lit (.float k z))) (h : laidMet P [(name, d)] W) (i : Nat) (z : Nat) (hz : zs[i]? = some z) : W.cell? ⟨g, i, none⟩ = some (.float k z) := by
  subst hd0
  obtain ⟨ps, ⟨g', t', cs, fuel, p, q, hg', ht', hvar, hd, _, _⟩, _⟩ := h
  obtain rfl := Option.some.inj (hg.symm.trans hg')
  obtain rfl := Option.some.inj (hty.symm.trans ht')
  have := World.var?_cell hg (hvar.trans (congrArg some (congrArg List.toArray (cells_of_ftab ht he hce hct hd)))) i
  rw [this]
  simp [hz]
theorem cell_lt {W : World} {p : Addr} {v : Value} (h : W.cell? p = some v) : p.block < W.heap.size := by
  apply Classical.byContradiction
  intro hn
  rw [World.cell?, Array.getElem?_eq_none (by omega)] at h
  cases h
theorem one_of {W : World} {l : List (String × DataW Unit)} (h : laidMetH Tryd.prog l W) (name : String) (x : String × DataW Unit) (hf : (l.filter fun y => y.1 == name) = [x]) (hp : ([x].all fun x => x.2.handleName?.isNone) = true) : laidMet Tryd.prog [x] W := by
  have := laidMetH.filter (fun y => y.1 == name) h
  rwa [hf, MakeChecks.laidMetH_plain _ _ _ hp] at this
theorem err_of {W : World} (h : laidMetH Tryd.prog Rows.fnDecimalMakesRow.laid W) : ∃ a, W.cell? ⟨0, 0, none⟩ = some (.iface 42 (.pointer (some a))) := by
  have h' := one_of h "pub-claviger/pub/cedargo/inner.ErrDecimal" ("pub-claviger/pub/cedargo/inner.ErrDecimal", Rows.laid_pub_claviger_pub_cedargo_inner_ErrDecimal) (by kernel_rfl) (by kernel_rfl)
  obtain ⟨a, s, hv, _⟩ := laid_sentinel (r := []) h' gErr tErr Tryd.underlying28 nameErr Tryd.underlying42 Tryd.underlying61 rfl rfl Tryd.underlying9 (by kernel_rfl) (by kernel_rfl)
  refine ⟨a, ?_⟩
  have := World.var?_cell gErr hv 0
  simpa using this
theorem tabs_of {W : World} (h : laidMetH Tryd.prog Rows.fnDecimalMakesRow.laid W) : Tabs W := by
  have h1 := one_of h "math.pow10postab32" ("math.pow10postab32", Rows.laid_math_pow10postab32) (by kernel_rfl) (by kernel_rfl)
  have h2 := one_of h "math.pow10tab" ("math.pow10tab", Rows.laid_math_pow10tab) (by kernel_rfl) (by kernel_rfl)
  have c1 := ftab (k := .f64) (zs := [4607182418800017408, 5085611494797045271, 5564284217833028085, 6043257259031049059, 6521906365687930162, 7000496887210966211, 7479368607221621995, 7958223736346011545, 8436737289693151036, 8915514139102383430]) g32 t32 Tryd.underlying36 Tryd.underlying32 (by kernel_rfl) (by kernel_rfl) rfl h1
  have c2 := ftab (k := .f64) (zs := [4607182418800017408, 4621819117588971520, 4636737291354636288, 4652007308841189376, 4666723172467343360, 4681608360884174848, 4696837146684686336, 4711630319722168320, 4726483295884279808, 4741671816366391296, 4756540486875873280, 4771362005757984768, 4786511204640096256, 4801453603149578240, 4816244402031689728, 4831355200913801216, 4846369599423283200, 4861130398305394688, 4876203697187506176, 4891288408196988160, 4906019910204099648, 4921056587992461136, 4936209963552724370, 4950912855330343670, 4965913770331839924, 4981134201117475473, 4995809153217856309, 5010775143622804482, 5026061058026967681, 5040708725286295329, 5055640609639927018, 5070927765361438756]) gTab tTab Tryd.underlying38 Tryd.underlying32 (by kernel_rfl) (by kernel_rfl) rfl h2
  refine ⟨c1 0 _ rfl, fun k hk => ?_, ?_⟩
  · match k, hk with
    | 0, _ => exact c2 0 _ rfl
    | 1, _ => exact c2 1 _ rfl
    | 2, _ => exact c2 2 _ rfl
    | 3, _ => exact c2 3 _ rfl
    | 4, _ => exact c2 4 _ rfl
    | 5, _ => exact c2 5 _ rfl
    | 6, _ => exact c2 6 _ rfl
    | 7, _ => exact c2 7 _ rfl
    | 8, _ => exact c2 8 _ rfl
    | 9, _ => exact c2 9 _ rfl
    | 10, _ => exact c2 10 _ rfl
    | 11, _ => exact c2 11 _ rfl
    | 12, _ => exact c2 12 _ rfl
    | 13, _ => exact c2 13 _ rfl
    | 14, _ => exact c2 14 _ rfl
  · exact cell_lt (c2 0 _ rfl)
theorem door_met (os : Os) (args : Array Value) : laidMetH Tryd.prog Rows.fnDecimalMakesRow.laid ((World.doorLaid Tryd.prog 3000 os).forCall (fun _ _ => 0) ⟨#[], args, []⟩).memory :=
  laidMetH_of_parts3 (fuel := 8) (laidMet_of_run' 8 (by kernel_rfl) (by kernel_rfl)) (by kernel_rfl) (by kernel_rfl)
set_option maxRecDepth 100000 in
theorem lifted (os : Os) (started : os.Started) (H : Type) (enc : TypeId × Value → H) :
    ReturnsInHanded {} Tryd.checked os 3 .any (fun w args => (Rows.fnDecimalMakesSpec.pre enc Tryd.prog Tryd.f3 [] false w args ∧ laidMetH Tryd.prog Rows.fnDecimalMakesRow.laid w) ∧ sizedMet enc Tryd.prog Tryd.f3 (OpenSpec.ofChange Rows.fnDecimalMakesSpec) false w args)
      (Rows.fnDecimalMakesSpec.post enc Tryd.prog Tryd.f3 false true false false) := by
  refine returnsInHanded_of_change_and (C := Tryd.checked) (X := fun w _ => laidMetH Tryd.prog Rows.fnDecimalMakesRow.laid w) (fun _ _ _ hh h => h.of_heap hh) own started (by kernel_rfl) Tryd.func3
    (ChangeSpec.witness_shaped (enc := enc) (C := Tryd.checked) (os := os) (X := fun w _ => laidMetH Tryd.prog Rows.fnDecimalMakesRow.laid w) false (World.doorLaid Tryd.prog 3000 os) #[.int .i64 0, .int .i64 0] 8 rfl (World.shaped_of_RefB (by kernel_rfl) (by kernel_rfl)) (by kernel_rfl) (by kernel_rfl) (by kernel_rfl) (door_met os _)) ?_
  intro W base args ds gs before hval0 hW _ _ hL _
  have hval : ∀ (j : Nat) t v, Tryd.f3.params[j]? = some t → args[j]? = some v → Value.okWide Tryd.prog W .any base t v := hval0
  have hW' := hW
  obtain ⟨p, q, hA0, hV, rfl, hfz, hnd⟩ := hW
  have hA : DataW.TrodAll enc Tryd.prog W 0 (fun _ => true) true Tryd.f3.params.toList args.toList ds p := hA0
  rw [Tryd.params3] at hA hval
  obtain ⟨v0, vs0, d0, ds0, p0, q0, hargs, rfl, rfl, h0, r0⟩ := trodAll_cons hA
  obtain ⟨v1, vs1, d1, ds1, p1, q1, rfl, rfl, rfl, h1, r1⟩ := trodAll_cons r0
  obtain ⟨rfl, rfl, rfl⟩ := trodAll_nil r1
  obtain rfl : args = #[v0, v1] := by cases args; simp_all
  obtain ⟨rfl, rfl⟩ := trodVars_none hV
  obtain ⟨a0, rfl, rfl, rfl, w0⟩ := open_int Tryd.underlying3 (hval 0 3 v0 rfl rfl) h0
  obtain ⟨a1, rfl, rfl, rfl, w1⟩ := open_int Tryd.underlying3 (hval 1 3 v1 rfl rfl) h1
  clear hA0 hval0
  simp only [List.append_nil] at hW'
  obtain ⟨ad, hE⟩ := err_of hL
  have hi : InR a0 := bounds_i64 w0
  refine (law a0 a1 ad W hi (tabs_of hL) hE).mono fun e W' ⟨he, hg⟩ => ?_
  subst he
  exact ⟨_, rfl, _, _, _, [], [], [], hW', (trodAll_cons_mk (shut_bool Tryd.underlying4 _) trodAll_mk0), (trodAll_cons_mk (shut_int Tryd.underlying3 w0) (trodAll_cons_mk (shut_int Tryd.underlying3 w1) trodAll_mk0)), rfl, hg.frame _, fun h => by cases h⟩
theorem said : Rows.FnDecimalMakesSaid :=
  OpenClaim.holds_of_wide 3 Tryd.f3 rfl rfl rfl rfl rfl rfl rfl ⟨rfl, rfl, rfl, rfl, rfl⟩ rfl rfl rfl rfl rfl (by kernel_rfl) Tryd.func3 (by kernel_rfl)
    (of_decide_eq_true (by kernel_rfl)) (by unfold Func.isWrapper; first | (rw [if_pos (by decide +kernel)]; kernel_rfl) | (rw [if_neg (by decide +kernel)]; exact ⟨rfl, rfl⟩))
    (fun os started H enc _ => lifted os started H enc)
theorem plain (f : FuncId) (fn : Func) (hf : Tryd.pinned.checked.prog.funcNamed "pub-claviger/laws.FnDecimalMakes" = some f) (hfn : Tryd.pinned.checked.prog.funcs[f]? = some fn) :
    false = Tryd.pinned.checked.prog.looks [] ∧ ∀ (j : Nat) t, fn.params[j]? = some t → Tryd.pinned.checked.prog.wantsStandIn t = false := by
  obtain rfl : f = 3 := Option.some.inj ((show Tryd.prog.funcNamed "pub-claviger/laws.FnDecimalMakes" = some 3 by kernel_rfl).symm.trans hf) |>.symm
  obtain rfl : fn = Tryd.f3 := (Option.some.inj (Tryd.func3.symm.trans hfn)).symm
  refine ⟨by kernel_rfl, fun j t ht => ?_⟩
  rw [Tryd.params3] at ht
  have hm := Array.mem_of_getElem? ht
  obtain rfl : t = 3 := by simpa using hm
  exact (show Tryd.prog.wantsStandIn 3 = false by kernel_rfl)
/-- ████ THE CARD ████ -/
theorem proved : Rows.FnDecimalMakesCardSaid :=
  Claim7.holds_tied_plain_at .later [] _ _ _ _ said (fun _ h => by cases h) (by kernel_rfl) (fun _ h => by cases h) fnDecimalMakes_row_tie rfl ⟨rfl, rfl⟩ (by kernel_rfl) rfl plain (by kernel_rfl)
#print axioms proved
end Go.Proofs.YtjcjappbopjgkaaDoor.fnDecimalMakes
