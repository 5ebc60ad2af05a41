import Derived.Test.YtjcjappbopjgkaaDoorRows
import Derived.WalkKit
import Derived.ProofKit
import Derived.OpenShut
import Derived.ShutString
import Derived.WalkSpells
import Derived.WalkLawsBesides
import Derived.Below
import Derived.WalkSmall
import Derived.Lib.Hide
import Derived.Deep.LoopGhost
import Derived.Deep.QuietTactic
import Derived.Deep.CutRange
import Derived.Deep.CutBlock
import Derived.Lib.QuietBelow
import Derived.BigQuiet
import Derived.Outline
import Derived.IntWalk
/-
  math.Pow10 at 0 .. 14: the tables' number, and what it is as an int.
-/
namespace Go.Proofs.YtjcjappbopjgkaaDoor
open Go.RowKit Go.Sort
def pBits : Nat → Nat
  | 0 => 4607182418800017408
  | 1 => 4621819117588971520
  | 2 => 4636737291354636288
  | 3 => 4652007308841189376
  | 4 => 4666723172467343360
  | 5 => 4681608360884174848
  | 6 => 4696837146684686336
  | 7 => 4711630319722168320
  | 8 => 4726483295884279808
  | 9 => 4741671816366391296
  | 10 => 4756540486875873280
  | 11 => 4771362005757984768
  | 12 => 4786511204640096256
  | 13 => 4801453603149578240
  | 14 => 4816244402031689728
  | _ => 0
theorem mulOne0 (W : World) : (binOp .mul 32 (.float .f64 4607182418800017408) (.float .f64 4607182418800017408)).run Tryd.prog W = .ok (.float .f64 4607182418800017408) W := by kernel_rfl
theorem toInt0 (W : World) : (convert 32 2 (.float .f64 4607182418800017408)).run Tryd.prog W = .ok (.int .i64 1) W := by kernel_rfl
theorem mulOne1 (W : World) : (binOp .mul 32 (.float .f64 4607182418800017408) (.float .f64 4621819117588971520)).run Tryd.prog W = .ok (.float .f64 4621819117588971520) W := by kernel_rfl
theorem toInt1 (W : World) : (convert 32 2 (.float .f64 4621819117588971520)).run Tryd.prog W = .ok (.int .i64 10) W := by kernel_rfl
theorem mulOne2 (W : World) : (binOp .mul 32 (.float .f64 4607182418800017408) (.float .f64 4636737291354636288)).run Tryd.prog W = .ok (.float .f64 4636737291354636288) W := by kernel_rfl
theorem toInt2 (W : World) : (convert 32 2 (.float .f64 4636737291354636288)).run Tryd.prog W = .ok (.int .i64 100) W := by kernel_rfl
theorem mulOne3 (W : World) : (binOp .mul 32 (.float .f64 4607182418800017408) (.float .f64 4652007308841189376)).run Tryd.prog W = .ok (.float .f64 4652007308841189376) W := by kernel_rfl
theorem toInt3 (W : World) : (convert 32 2 (.float .f64 4652007308841189376)).run Tryd.prog W = .ok (.int .i64 1000) W := by kernel_rfl
theorem mulOne4 (W : World) : (binOp .mul 32 (.float .f64 4607182418800017408) (.float .f64 4666723172467343360)).run Tryd.prog W = .ok (.float .f64 4666723172467343360) W := by kernel_rfl
theorem toInt4 (W : World) : (convert 32 2 (.float .f64 4666723172467343360)).run Tryd.prog W = .ok (.int .i64 10000) W := by kernel_rfl
theorem mulOne5 (W : World) : (binOp .mul 32 (.float .f64 4607182418800017408) (.float .f64 4681608360884174848)).run Tryd.prog W = .ok (.float .f64 4681608360884174848) W := by kernel_rfl
theorem toInt5 (W : World) : (convert 32 2 (.float .f64 4681608360884174848)).run Tryd.prog W = .ok (.int .i64 100000) W := by kernel_rfl
theorem mulOne6 (W : World) : (binOp .mul 32 (.float .f64 4607182418800017408) (.float .f64 4696837146684686336)).run Tryd.prog W = .ok (.float .f64 4696837146684686336) W := by kernel_rfl
theorem toInt6 (W : World) : (convert 32 2 (.float .f64 4696837146684686336)).run Tryd.prog W = .ok (.int .i64 1000000) W := by kernel_rfl
theorem mulOne7 (W : World) : (binOp .mul 32 (.float .f64 4607182418800017408) (.float .f64 4711630319722168320)).run Tryd.prog W = .ok (.float .f64 4711630319722168320) W := by kernel_rfl
theorem toInt7 (W : World) : (convert 32 2 (.float .f64 4711630319722168320)).run Tryd.prog W = .ok (.int .i64 10000000) W := by kernel_rfl
theorem mulOne8 (W : World) : (binOp .mul 32 (.float .f64 4607182418800017408) (.float .f64 4726483295884279808)).run Tryd.prog W = .ok (.float .f64 4726483295884279808) W := by kernel_rfl
theorem toInt8 (W : World) : (convert 32 2 (.float .f64 4726483295884279808)).run Tryd.prog W = .ok (.int .i64 100000000) W := by kernel_rfl
theorem mulOne9 (W : World) : (binOp .mul 32 (.float .f64 4607182418800017408) (.float .f64 4741671816366391296)).run Tryd.prog W = .ok (.float .f64 4741671816366391296) W := by kernel_rfl
theorem toInt9 (W : World) : (convert 32 2 (.float .f64 4741671816366391296)).run Tryd.prog W = .ok (.int .i64 1000000000) W := by kernel_rfl
theorem mulOne10 (W : World) : (binOp .mul 32 (.float .f64 4607182418800017408) (.float .f64 4756540486875873280)).run Tryd.prog W = .ok (.float .f64 4756540486875873280) W := by kernel_rfl
theorem toInt10 (W : World) : (convert 32 2 (.float .f64 4756540486875873280)).run Tryd.prog W = .ok (.int .i64 10000000000) W := by kernel_rfl
theorem mulOne11 (W : World) : (binOp .mul 32 (.float .f64 4607182418800017408) (.float .f64 4771362005757984768)).run Tryd.prog W = .ok (.float .f64 4771362005757984768) W := by kernel_rfl
theorem toInt11 (W : World) : (convert 32 2 (.float .f64 4771362005757984768)).run Tryd.prog W = .ok (.int .i64 100000000000) W := by kernel_rfl
theorem mulOne12 (W : World) : (binOp .mul 32 (.float .f64 4607182418800017408) (.float .f64 4786511204640096256)).run Tryd.prog W = .ok (.float .f64 4786511204640096256) W := by kernel_rfl
theorem toInt12 (W : World) : (convert 32 2 (.float .f64 4786511204640096256)).run Tryd.prog W = .ok (.int .i64 1000000000000) W := by kernel_rfl
theorem mulOne13 (W : World) : (binOp .mul 32 (.float .f64 4607182418800017408) (.float .f64 4801453603149578240)).run Tryd.prog W = .ok (.float .f64 4801453603149578240) W := by kernel_rfl
theorem toInt13 (W : World) : (convert 32 2 (.float .f64 4801453603149578240)).run Tryd.prog W = .ok (.int .i64 10000000000000) W := by kernel_rfl
theorem mulOne14 (W : World) : (binOp .mul 32 (.float .f64 4607182418800017408) (.float .f64 4816244402031689728)).run Tryd.prog W = .ok (.float .f64 4816244402031689728) W := by kernel_rfl
theorem toInt14 (W : World) : (convert 32 2 (.float .f64 4816244402031689728)).run Tryd.prog W = .ok (.int .i64 100000000000000) W := by kernel_rfl
theorem mulOne (k : Nat) (h : k ≤ 14) (W : World) : (binOp .mul 32 (.float .f64 4607182418800017408) (.float .f64 (pBits k))).run Tryd.prog W = .ok (.float .f64 (pBits k)) W := by
  match k, h with
  | 0, _ => exact mulOne0 W
  | 1, _ => exact mulOne1 W
  | 2, _ => exact mulOne2 W
  | 3, _ => exact mulOne3 W
  | 4, _ => exact mulOne4 W
  | 5, _ => exact mulOne5 W
  | 6, _ => exact mulOne6 W
  | 7, _ => exact mulOne7 W
  | 8, _ => exact mulOne8 W
  | 9, _ => exact mulOne9 W
  | 10, _ => exact mulOne10 W
  | 11, _ => exact mulOne11 W
  | 12, _ => exact mulOne12 W
  | 13, _ => exact mulOne13 W
  | 14, _ => exact mulOne14 W
theorem toInt (k : Nat) (h : k ≤ 14) (W : World) : (convert 32 2 (.float .f64 (pBits k))).run Tryd.prog W = .ok (.int .i64 (10 ^ k : Nat)) W := by
  match k, h with
  | 0, _ => exact toInt0 W
  | 1, _ => exact toInt1 W
  | 2, _ => exact toInt2 W
  | 3, _ => exact toInt3 W
  | 4, _ => exact toInt4 W
  | 5, _ => exact toInt5 W
  | 6, _ => exact toInt6 W
  | 7, _ => exact toInt7 W
  | 8, _ => exact toInt8 W
  | 9, _ => exact toInt9 W
  | 10, _ => exact toInt10 W
  | 11, _ => exact toInt11 W
  | 12, _ => exact toInt12 W
  | 13, _ => exact toInt13 W
  | 14, _ => exact toInt14 W
theorem pow10 (k : Nat) (hk : k ≤ 14) (w : World) (h0 : w.cell? ⟨2, 0, none⟩ = some (.float .f64 4607182418800017408)) (h3 : w.cell? ⟨3, k, none⟩ = some (.float .f64 (pBits k))) : Calls Tryd.prog 8 #[.int .i64 k] w fun e w' => e = .returned (.float .f64 (pBits k)) ∧ ∃ q, w' = w.drewN q := by
  have hm := mulOne k hk
  generalize pBits k = b at *
  have k0 : (0 : Int) ≤ k := by omega
  have k1 : (k : Int) ≤ 308 := by omega
  have e1 : IntKind.u64.wrap (k : Int) = k := by simp [IntKind.wrap, IntKind.bits, IntKind.signed]; omega
  have e2 : Int.tdiv (k : Int) 32 = 0 := by rw [Int.tdiv_eq_ediv_of_nonneg k0]; omega
  have e3 : IntKind.u64.wrap 0 = 0 := by decide
  have e4 : Int.tmod (k : Int) 32 = k := by rw [Int.tmod_eq_emod_of_nonneg k0]; omega
  have k2 : (k : Int) < 32 := by omega
  have k3 : k < 32 := by omega
  go_enter Tryd.func8, Tryd.ntmps8
  go_wp2_with fail
  go_quiet (fail)
  go_wp2
  go_ret
  exact ⟨rfl, _, rfl⟩
end Go.Proofs.YtjcjappbopjgkaaDoor
