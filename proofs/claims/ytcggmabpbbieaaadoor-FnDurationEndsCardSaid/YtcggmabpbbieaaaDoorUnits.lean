import Derived.Test.YtcggmabpbbieaaaDoorDurLaw
import Derived.Test.YtcggmabpbbieaaaDoorDigits
import Derived.Maps.Own
import Derived.Maps.OwnOps
/-
  units, unitOrder, unitToMillis (a map of five), ZZMillis: contracts.
-/
namespace Go.Proofs.YtcggmabpbbieaaaDoor
open Go.RowKit Go.Sort Go.Maps Go.WideMaps
theorem law9 : Keyed Tryd.prog 9 := string_keyed Tryd.underlying9
theorem zero2 (w : World) : (zeroValue 2).run Tryd.prog w = .ok (.int .i64 0) w := by kernel_rfl
theorem unitOrder (w : World) : Calls Tryd.prog 22 #[] w fun e w' => e = .returned (.slice (some ⟨w.heap.size, 0, none⟩) 5 5) ∧ (∀ j, j < 5 → w'.cell? ⟨w.heap.size, j, none⟩ = some (.string ⟨(uName j).toArray⟩)) ∧ Below w.heap.size w w' := by
  go_enter Tryd.func22, Tryd.ntmps22
  go_wp2
  go_ret
  refine ⟨rfl, ?_, (Below.refl _ _).alloc (Nat.le_refl _) _⟩
  intro j hj
  rw [alloc_cell]
  match j, hj with
  | 0, _ => rfl
  | 1, _ => rfl
  | 2, _ => rfl
  | 3, _ => rfl
  | 4, _ => rfl
def put5 {H : Type} : DataW H := ((((DataW.map [] : DataW H).put (.string [100]) (.lit (.int .i64 86400000))).put (.string [104]) (.lit (.int .i64 3600000))).put (.string [109]) (.lit (.int .i64 60000))).put (.string [115]) (.lit (.int .i64 1000)) |>.put (.string [109, 115]) (.lit (.int .i64 1))
theorem unitMap (w : World) : Calls Tryd.prog 23 #[] w fun e w' => e = .returned (.map (some w.heap.size)) ∧ w'.ownsMap Tryd.prog 9 (plainElem (H := Unit) Tryd.prog 2) w.heap.size 5 put5 ∧ Below w.heap.size w w' := by
  have hmm := @run_makeMap Tryd.prog
  have m0 := World.ownsMap_made w Tryd.prog 9 (plainElem (H := Unit) Tryd.prog 2)
  obtain ⟨w1, u1, m1, g1⟩ := m0.update (key := .string ⟨#[100]⟩) (val := .int .i64 86400000) law9 Tryd.underlying49 (by decide) (keyOf_string_mk Tryd.underlying9 (by decide)) (plainElem_int Tryd.underlying2 (by decide))
  obtain ⟨w2, u2, m2, g2⟩ := m1.update (key := .string ⟨#[104]⟩) (val := .int .i64 3600000) law9 Tryd.underlying49 (by decide) (keyOf_string_mk Tryd.underlying9 (by decide)) (plainElem_int Tryd.underlying2 (by decide))
  obtain ⟨w3, u3, m3, g3⟩ := m2.update (key := .string ⟨#[109]⟩) (val := .int .i64 60000) law9 Tryd.underlying49 (by decide) (keyOf_string_mk Tryd.underlying9 (by decide)) (plainElem_int Tryd.underlying2 (by decide))
  obtain ⟨w4, u4, m4, g4⟩ := m3.update (key := .string ⟨#[115]⟩) (val := .int .i64 1000) law9 Tryd.underlying49 (by decide) (keyOf_string_mk Tryd.underlying9 (by decide)) (plainElem_int Tryd.underlying2 (by decide))
  obtain ⟨w5, u5, m5, g5⟩ := m4.update (key := .string ⟨#[109, 115]⟩) (val := .int .i64 1) law9 Tryd.underlying49 (by decide) (keyOf_string_mk Tryd.underlying9 (by decide)) (plainElem_int Tryd.underlying2 (by decide))
  have hb : Below w.heap.size w w5 := (((((Below.refl _ w).alloc (Nat.le_refl _) (.map #[] 0)).grown g1 (by simp) (fun j hj => by cases hj; exact Nat.le_refl _)).grown g2 (by have := g1.size; simp at this; omega) (fun j hj => by cases hj; exact Nat.le_refl _)).grown g3 (by have := g1.size; have := g2.size; simp at *; omega) (fun j hj => by cases hj; exact Nat.le_refl _)).grown g4 (by have := g1.size; have := g2.size; have := g3.size; simp at *; omega) (fun j hj => by cases hj; exact Nat.le_refl _) |>.grown g5 (by have := g1.size; have := g2.size; have := g3.size; have := g4.size; simp at *; omega) (fun j hj => by cases hj; exact Nat.le_refl _)
  have HB := Lib.hid hb
  have M5 := Lib.hid m5
  clear hb m0 m1 m2 m3 m4 m5 g1 g2 g3 g4 g5
  go_enter Tryd.func23, Tryd.ntmps23
  go_wp2
  go_ret
  exact ⟨rfl, M5.out, HB.out⟩
theorem at5 (k : Nat) (h : k < 5) : (put5 : DataW Unit).atKey (.string (uName k)) (.lit (.int .i64 0)) = .lit (.int .i64 (uSize k)) := by
  match k, h with
  | 0, _ => rfl
  | 1, _ => rfl
  | 2, _ => rfl
  | 3, _ => rfl
  | 4, _ => rfl
/-- The look-up of a unit in the map. -/
theorem unitLook {w : World} {b : Nat} (h : w.ownsMap Tryd.prog 9 (plainElem (H := Unit) Tryd.prog 2) b 5 put5) (k : Nat) (hk : k < 5) : (Instr.lookup 49 (.map (some b)) (.string ⟨(uName k).toArray⟩) false).run Tryd.prog w = .ok (.int .i64 (uSize k)) w := by
  have hs : (⟨(uName k).toArray⟩ : ByteArray).size ≤ maxLen := by
    show (uName k).length ≤ _
    have := uName_le k
    unfold maxLen; omega
  obtain ⟨c, hrun, hat, _⟩ := h.lookup_int law9 Tryd.underlying49 Tryd.underlying2 (zero2 w) (keyOf_string_mk Tryd.underlying9 hs)
  have hl : (⟨(uName k).toArray⟩ : ByteArray).data.toList = uName k := by simp
  rw [hl, at5 k hk] at hat
  cases hat
  exact hrun
theorem zzMs (n : Int) (w : World) : Calls Tryd.prog 14 #[.agg #[.int .i64 n]] w fun e w' => e = .returned (.int .i64 n) ∧ Below w.heap.size w w' := by
  go_enter Tryd.func14, Tryd.ntmps14
  go_wp2
  go_ret
  exact ⟨rfl, (Below.refl _ _).alloc (Nat.le_refl _) _⟩
theorem units (w : World) : Calls Tryd.prog 6 #[] w fun e w' => e = .returned (.tuple #[.agg #[.string ⟨#[100]⟩, .string ⟨#[104]⟩, .string ⟨#[109]⟩, .string ⟨#[115]⟩, .string ⟨#[109, 115]⟩], .agg #[.int .i64 86400000, .int .i64 3600000, .int .i64 60000, .int .i64 1000, .int .i64 1]]) ∧ Below w.heap.size w w' := by
  have hb : Below w.heap.size w ((w.alloc (Obj.cells #[.string ⟨#[100]⟩, .string ⟨#[104]⟩, .string ⟨#[109]⟩, .string ⟨#[115]⟩, .string ⟨#[109, 115]⟩] 23)).alloc (Obj.cells #[.int .i64 86400000, .int .i64 3600000, .int .i64 60000, .int .i64 1000, .int .i64 1] 24)) := ((Below.refl _ _).alloc (Nat.le_refl _) _).alloc (by show _ ≤ (w.heap.push _).size; rw [Array.size_push]; omega) _
  go_enter Tryd.func6, Tryd.ntmps6
  go_wp2
  refine bodyPost_ret (v := .tuple #[.agg #[.string ⟨#[100]⟩, .string ⟨#[104]⟩, .string ⟨#[109]⟩, .string ⟨#[115]⟩, .string ⟨#[109, 115]⟩], .agg #[.int .i64 86400000, .int .i64 3600000, .int .i64 60000, .int .i64 1000, .int .i64 1]]) ?_ rfl ⟨rfl, hb⟩
  simp [results, Tryd.results6, go_sem]
end Go.Proofs.YtcggmabpbbieaaaDoor
