import Derived.Test.YtcggmabpbbieaaaDoorRows
import Derived.Test.YtcggmabpbbieaaaDoorShelf
import Derived.WalkKit
import Derived.ProofKit
import Derived.OpenShut
import Derived.ShutString
import Derived.WalkSpells
import Derived.WalkLawsBesides
import Derived.Below
import Derived.Lib.Hide
import Derived.Lib.IndexBytes
import Derived.Deep.LoopGhost
import Derived.Deep.QuietTactic
import Derived.BigQuiet
import Derived.Outline
import Derived.IntWalk
namespace Go.Proofs.YtcggmabpbbieaaaDoor
open Go.RowKit
/-
  spec.magnitude: the digits of a number without its sign.
-/
theorem enc10 (d : Nat) (h : d < 10) : Utf8.encode (48 + (d : Int)) = ⟨#[UInt8.ofNat (48 + d)]⟩ :=
  (by decide +kernel : ∀ d : Fin 10, Utf8.encode (48 + (d.val : Int)) = ⟨#[UInt8.ofNat (48 + d.val)]⟩) ⟨d, h⟩
theorem nDigits_le : ∀ (k u : Nat), u < 10 ^ (k + 1) → Lib.nDigits u ≤ k + 1
  | 0, u, h => by rw [Lib.nDigits_small (by simpa using h)]; omega
  | k + 1, u, h => by
    by_cases h10 : u < 10
    · rw [Lib.nDigits_small h10]; omega
    · rw [Lib.nDigits_big h10]
      rw [Nat.pow_succ] at h
      have := nDigits_le k (u / 10) (by omega)
      omega
theorem dig20 (u : Nat) (h : u < 18446744073709551616) : (Lib.decDigits u).length ≤ 20 := by
  rw [Lib.decDigits_length]; exact nDigits_le 19 u (by omega)
def dd (u : Nat) : List UInt8 := if u = 0 then [] else Lib.decDigits u
theorem dd_round (u : Nat) (h : u ≠ 0) : dd u = dd (u / 10) ++ [UInt8.ofNat (48 + u % 10)] := by
  unfold dd
  rw [if_neg h]
  by_cases h10 : u < 10
  · rw [if_pos (by omega), Lib.decDigits_one h10, Nat.mod_eq_of_lt h10]; rfl
  · rw [if_neg (by omega), Lib.decDigits, dif_neg h10]
theorem ba_app (a b : List UInt8) : Value.string (({ data := a.toArray } : ByteArray) ++ { data := b.toArray }) = Value.string { data := (a ++ b).toArray } := by
  congr 1
theorem mag (n : Int) (h0 : -9223372036854775808 ≤ n) (h1 : n ≤ 9223372036854775807) (w : World) :
    Calls Tryd.prog 17 #[.int .i64 n] w fun e w' => e = .returned (.string ⟨(Lib.decDigits n.natAbs).toArray⟩) ∧ w = w' := by
  go_enter Tryd.func17, Tryd.ntmps17
  go_wp2
  · rename n < 0 => hneg
    have HG := Lib.hid hneg
    clear hneg
    go_loopg [3, 4] (n.natAbs + 1) (fun gk s3 s4 wr => ∃ (u : Nat) (l : List UInt8), s3 = .int .u64 u ∧ s4 = .string ⟨l.toArray⟩ ∧ u < 18446744073709551616 ∧ l.length ≤ 20 ∧ wr = w ∧ Aside ((l = [] → u = n.natAbs ∧ u < gk) ∧ (l ≠ [] → u ≤ gk ∧ dd u ++ l = Lib.decDigits n.natAbs)))
    case atStart => exact ⟨n.natAbs, [], by have := HG.out; congr 1; simp [IntKind.wrap, IntKind.bits, IntKind.signed]; omega, rfl, by omega, by simp, rfl, ⟨fun _ => ⟨rfl, by omega⟩, fun h => absurd rfl h⟩⟩
    case round =>
      obtain ⟨u, l, rfl, rfl, hu, hl, rfl, HA⟩ := hrel
      have hE : Utf8.encode (48 + (u : Int) % 10) = ⟨#[UInt8.ofNat (48 + u % 10)]⟩ := enc10 (u % 10) (by omega)
      have hu0 : (0 : Int) ≤ u := by omega
      have hu1 : (u : Int) ≤ 18446744073709551615 := by omega
      have hl2 : ¬ ((9223372036854775807 : Int) < 1 + l.length) := by omega
      have hl3 : ¬ ((9223372036854775807 : Nat) < 1 + l.length) := by omega
      rcases Nat.eq_zero_or_pos u with rfl | hp
      · cases l with
        | nil =>
          have H0 := Lib.hid (HA.out.1 rfl)
          have hE0 : Utf8.encode 48 = ⟨#[48]⟩ := by decide +kernel
          go_wp2
          go_roundg (gk - 1)
          case measure => have := H0.out; omega
          case rel => exact ⟨0, [48], rfl, ba_app _ _, by omega, by simp, rfl, ⟨fun h => (by cases h), fun _ => ⟨by omega, by rw [← H0.out.1, Lib.decDigits_one (by decide)]; rfl⟩⟩⟩
        | cons c l =>
          have H0 : Hid (Lib.decDigits n.natAbs = c :: l) := Lib.hid (by simpa [dd] using (HA.out.2 (by simp)).2.symm)
          go_wp2
          go_ret
          exact ⟨by rw [H0.out]; rfl, rfl⟩
      · have hp2 : ¬ (u = 0) := by omega
        go_wp2
        go_roundg (gk - 1)
        case measure => have h1 := HA.out.1; have h2 := HA.out.2; cases l <;> simp_all <;> omega
        case rel =>
          have hD : dd (u / 10) ++ UInt8.ofNat (48 + u % 10) :: l = Lib.decDigits n.natAbs := by
            have e : dd u ++ l = Lib.decDigits n.natAbs := by
              cases l with
              | nil => rw [← (HA.out.1 rfl).1, List.append_nil]; unfold dd; rw [if_neg hp2]
              | cons c l => exact (HA.out.2 (by simp)).2
            rw [← e, dd_round u hp2, List.append_assoc]; rfl
          have hL : (dd (u / 10) ++ UInt8.ofNat (48 + u % 10) :: l).length ≤ 20 := by rw [hD]; exact dig20 _ (by omega)
          refine ⟨u / 10, UInt8.ofNat (48 + u % 10) :: l, by congr 1, ?_, by omega, by rw [List.length_append] at hL; omega, rfl, ⟨fun h => (by cases h), fun _ => ⟨?_, hD⟩⟩⟩
          · rw [ba_app]; simp [UInt8.ofNat_add]
          · have h1 := HA.out.1
            have h2 := HA.out.2
            cases l with
            | nil => have := (h1 rfl).2; omega
            | cons c l => have := (h2 (by simp)).1; omega
  · rename 0 ≤ n => hneg
    have HG := Lib.hid hneg
    clear hneg
    go_loopg [3, 4] (n.natAbs + 1) (fun gk s3 s4 wr => ∃ (u : Nat) (l : List UInt8), s3 = .int .u64 u ∧ s4 = .string ⟨l.toArray⟩ ∧ u < 18446744073709551616 ∧ l.length ≤ 20 ∧ wr = w ∧ Aside ((l = [] → u = n.natAbs ∧ u < gk) ∧ (l ≠ [] → u ≤ gk ∧ dd u ++ l = Lib.decDigits n.natAbs)))
    case atStart => exact ⟨n.natAbs, [], by have := HG.out; congr 1; simp [IntKind.wrap, IntKind.bits, IntKind.signed]; omega, rfl, by omega, by simp, rfl, ⟨fun _ => ⟨rfl, by omega⟩, fun h => absurd rfl h⟩⟩
    case round =>
      obtain ⟨u, l, rfl, rfl, hu, hl, rfl, HA⟩ := hrel
      have hE : Utf8.encode (48 + (u : Int) % 10) = ⟨#[UInt8.ofNat (48 + u % 10)]⟩ := enc10 (u % 10) (by omega)
      have hu0 : (0 : Int) ≤ u := by omega
      have hu1 : (u : Int) ≤ 18446744073709551615 := by omega
      have hl2 : ¬ ((9223372036854775807 : Int) < 1 + l.length) := by omega
      have hl3 : ¬ ((9223372036854775807 : Nat) < 1 + l.length) := by omega
      rcases Nat.eq_zero_or_pos u with rfl | hp
      · cases l with
        | nil =>
          have H0 := Lib.hid (HA.out.1 rfl)
          have hE0 : Utf8.encode 48 = ⟨#[48]⟩ := by decide +kernel
          go_wp2
          go_roundg (gk - 1)
          case measure => have := H0.out; omega
          case rel => exact ⟨0, [48], rfl, ba_app _ _, by omega, by simp, rfl, ⟨fun h => (by cases h), fun _ => ⟨by omega, by rw [← H0.out.1, Lib.decDigits_one (by decide)]; rfl⟩⟩⟩
        | cons c l =>
          have H0 : Hid (Lib.decDigits n.natAbs = c :: l) := Lib.hid (by simpa [dd] using (HA.out.2 (by simp)).2.symm)
          go_wp2
          go_ret
          exact ⟨by rw [H0.out]; rfl, rfl⟩
      · have hp2 : ¬ (u = 0) := by omega
        go_wp2
        go_roundg (gk - 1)
        case measure => have h1 := HA.out.1; have h2 := HA.out.2; cases l <;> simp_all <;> omega
        case rel =>
          have hD : dd (u / 10) ++ UInt8.ofNat (48 + u % 10) :: l = Lib.decDigits n.natAbs := by
            have e : dd u ++ l = Lib.decDigits n.natAbs := by
              cases l with
              | nil => rw [← (HA.out.1 rfl).1, List.append_nil]; unfold dd; rw [if_neg hp2]
              | cons c l => exact (HA.out.2 (by simp)).2
            rw [← e, dd_round u hp2, List.append_assoc]; rfl
          have hL : (dd (u / 10) ++ UInt8.ofNat (48 + u % 10) :: l).length ≤ 20 := by rw [hD]; exact dig20 _ (by omega)
          refine ⟨u / 10, UInt8.ofNat (48 + u % 10) :: l, by congr 1, ?_, by omega, by rw [List.length_append] at hL; omega, rfl, ⟨fun h => (by cases h), fun _ => ⟨?_, hD⟩⟩⟩
          · rw [ba_app]; simp [UInt8.ofNat_add]
          · have h1 := HA.out.1
            have h2 := HA.out.2
            cases l with
            | nil => have := (h1 rfl).2; omega
            | cons c l => have := (h2 (by simp)).1; omega

end Go.Proofs.YtcggmabpbbieaaaDoor
