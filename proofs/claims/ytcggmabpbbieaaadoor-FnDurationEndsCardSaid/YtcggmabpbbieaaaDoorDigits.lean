import Derived.Test.YtcggmabpbbieaaaDoorDec
import Derived.Deep.CutRange
import Derived.Laws.IdiomStrings
/-
  laws.digits: a number with at least so many digits.
-/
namespace Go.Proofs.YtcggmabpbbieaaaDoor
open Go.RowKit Go.Sort
theorem conv1 (wr : World) (z : Int) (d : UInt8) (hz : z = d.toNat) :
    (convert 33 9 (.slice (some ⟨wr.heap.size, 0, none⟩) 1 1)).run Tryd.prog (wr.alloc (Obj.cells #[.int .u8 z] 5)) = .ok (.string ⟨#[d]⟩) (wr.alloc (Obj.cells #[.int .u8 z] 5)) := by
  refine run_convert_bytes_back (P := Tryd.prog) (wr.alloc (Obj.cells #[.int .u8 z] 5)) 33 9 5 ⟨wr.heap.size, 0, none⟩ 1 [d] Tryd.underlying33 Tryd.underlying5 Tryd.underlying9 ?_
  intro j hj
  obtain rfl : j = 0 := by simpa using hj
  subst hz
  exact alloc_cell wr _ 5 0
theorem d8_toNat {x : Nat} (h : x < 10) : (d8 x).toNat = 48 + x := by
  unfold d8
  simp; omega
theorem dd20 (n : Nat) (h : n < 18446744073709551616) : (dd n).length ≤ 20 := by
  unfold dd
  split
  · simp
  · exact dig20 n h
theorem digits (n W : Nat) (hn : n < 18446744073709551616) (hW : W ≤ 1000) (w : World) :
    Calls Tryd.prog 7 #[.int .u64 n, .int .i64 W] w fun e w' => e = .returned (.string ⟨(padTo W (dd n)).toArray⟩) ∧ Below w.heap.size w w' := by
  go_enter Tryd.func7, Tryd.ntmps7
  go_wp2
  go_loopg [0, 5] (n + W) (fun gk s0 s5 wr => ∃ (u : Nat) (l : List UInt8), s0 = .int .u64 u ∧ s5 = .string ⟨l.toArray⟩ ∧ u < 18446744073709551616 ∧ l.length ≤ 2000 ∧ Below w.heap.size w wr ∧ Aside (padTo W (dd u ++ l) = padTo W (dd n) ∧ u + (W - l.length) ≤ gk ∧ (0 < u → dd u ++ l = dd n)))
  case atStart => exact ⟨n, [], rfl, rfl, hn, by simp, Below.refl _ _, by rw [List.append_nil], by simp, fun _ => List.append_nil _⟩
  case round =>
    obtain ⟨u, l, rfl, rfl, hu, hl, hb, HA⟩ := hrel
    have HB := Lib.hid hb
    clear hb
    have hu0 : (0 : Int) ≤ u := by omega
    have hu1 : (u : Int) ≤ 18446744073709551615 := by omega
    have hl3 : ¬ ((9223372036854775807 : Nat) < 1 + l.length) := by omega
    rcases Nat.eq_zero_or_pos u with hz | hz
    · subst hz
      have hcv := conv1 wr 48 48 rfl
      rcases Nat.lt_or_ge l.length W with hlw | hlw
      · have h1 : (l.length : Int) < W := by omega
        go_wp2
        go_roundg (gk - 1)
        case measure => have := HA.out.2.1; omega
        case rel => exact ⟨0, 48 :: l, rfl, ba_app [48] l, by omega, by simp only [List.length_cons]; omega, HB.out.alloc HB.out.size _, by rw [← HA.out.1]; exact pad_one hlw, by have := HA.out.2.1; simp only [List.length_cons]; omega, fun h => absurd h (by decide)⟩
      · have h1 : ¬ ((l.length : Int) < W) := by omega
        have h2 : ¬ (l.length < W) := by omega
        clear hcv
        go_wp2
        go_ret
        exact ⟨by have e := HA.out.1; rw [pad_end (l := dd 0 ++ l) hlw] at e; rw [← e]; rfl, HB.out⟩
    · have hz2 : ¬ (u = 0) := by omega
      have hcv := conv1 wr (48 + (u : Int) % 10) (d8 (u % 10)) (by rw [d8_toNat (by omega)]; omega)
      have hD : dd u ++ l = dd (u / 10) ++ d8 (u % 10) :: l := by rw [dd_round u hz2, List.append_assoc]; rfl
      have HD := Lib.hid hD
      clear hD
      have HZ := Lib.hid hz
      go_wp2
      go_roundg (gk - 1)
      case measure => have := HA.out.2.1; have := HZ.out; omega
      case rel => exact ⟨u / 10, d8 (u % 10) :: l, by congr 1, ba_app [_] l, by omega, by have e := HA.out.2.2 HZ.out; rw [HD.out] at e; have e2 := congrArg List.length e; rw [List.length_append] at e2; have := dd20 n hn; omega, HB.out.alloc HB.out.size _, by rw [← HD.out]; exact HA.out.1, by have := HA.out.2.1; have := HZ.out; simp only [List.length_cons]; omega, fun _ => by rw [← HD.out]; exact HA.out.2.2 HZ.out⟩
theorem dec_len1 (n : Nat) : padTo 1 (dd n) = Lib.decDigits n := by
  unfold dd
  by_cases h : n = 0
  · subst h; rw [if_pos rfl, dec_one (by decide)]; rfl
  · rw [if_neg h]
    apply pad_end
    rw [Lib.decDigits_length]; exact Lib.nDigits_pos n
end Go.Proofs.YtcggmabpbbieaaaDoor
