/-
  Products of longs: what checkedMulI64 gives (its walk), and that products are associative. Condition: both operands are ints of 64 bits.
-/
import Derived.Test.YtjcjappbopjgkaaRows
import Derived.WalkKit
import Derived.ProofKit
import Derived.OpenShut
import Derived.Below
import Derived.Calls
import Derived.WalkSpells
import Derived.WalkLawsBesides
import Derived.Lib.Hide
namespace Go.Proofs.Ytjcjappbopjgkaa
open Go.RowKit
/-- The integers of 64 bits. -/
def InR (n : Int) : Prop := -9223372036854775808 ≤ n ∧ n ≤ 9223372036854775807
theorem inR_of_wf {n : Int} (h : (Lit.int .i64 n).wf = true) : InR n := by
  exact bounds_i64 h
theorem mul_sign_in (a b : Int) (h0 : ¬ a = 0) (h1 : ¬ b = 0) : (!(decide (a * b < 0) == !(decide (a < 0) == decide (b < 0)))) = false := by
  rcases Int.lt_or_gt_of_ne h0 with ha | ha <;> rcases Int.lt_or_gt_of_ne h1 with hb | hb
  · have := Int.mul_pos_of_neg_of_neg ha hb
    simp [ha, hb]; omega
  · have := Int.mul_neg_of_neg_of_pos ha hb
    have hb' : ¬ b < 0 := by omega
    simp [ha, hb', this]
  · have := Int.mul_neg_of_pos_of_neg ha hb
    have ha' : ¬ a < 0 := by omega
    simp [ha', hb, this]
  · have := Int.mul_pos ha hb
    have hb' : ¬ b < 0 := by omega
    have ha' : ¬ a < 0 := by omega
    simp [ha', hb']; omega
set_option maxHeartbeats 400000 in
theorem mul_in (a b : Int) (ha : InR a) (hb : InR b) (hab : InR (a * b)) (w : World) :
    Calls Try.prog 22 #[.int .i64 a, .int .i64 b] w fun e w' => e = .returned (.tuple #[.int .i64 (a * b), .bool true]) ∧ w = w' := by
  obtain ⟨ha1, ha2⟩ := ha
  obtain ⟨hb1, hb2⟩ := hb
  obtain ⟨hab1, hab2⟩ := hab
  by_cases h0 : a = 0
  · subst h0
    go_enter Try.func22, Try.ntmps22
    go_wp2
    go_ret2
    exact ⟨by simp, rfl⟩
  · have e0 : (a == 0) = false := by simpa using h0
    by_cases h1 : b = 0
    · subst h1
      go_enter Try.func22, Try.ntmps22
      go_wp2
      go_ret2
      exact ⟨by simp, rfl⟩
    · have e1 : (b == 0) = false := by simpa using h1
      have es := mul_sign_in a b h0 h1
      go_enter Try.func22, Try.ntmps22
      go_wp2
      go_ret2
      exact ⟨rfl, rfl⟩
theorem mul_out_bad (a b : Int) (ha : InR a) (hb : InR b) (hab : ¬ InR (a * b)) (h0 : ¬ a = 0) (h1 : ¬ b = 0)
    (hs : (!(decide (wrap64 (a * b) < 0) == !(decide (a < 0) == decide (b < 0)))) = false) (hq : (wrap64 ((wrap64 (a * b)).tdiv a) != b) = false) : False := by
  have hq' : wrap64 ((wrap64 (a * b)).tdiv a) = b := by simpa using hq
  have hr : ∃ k : Int, a * b = wrap64 (a * b) + 18446744073709551616 * k := ⟨(a * b + 9223372036854775808) / 18446744073709551616, by unfold wrap64; omega⟩
  have hrr : InR (wrap64 (a * b)) := by unfold wrap64 InR; omega
  unfold InR at *
  generalize hR : wrap64 (a * b) = r at *
  obtain ⟨k, hk⟩ := hr
  have hk0 : k ≠ 0 := by rintro rfl; apply hab; omega
  have hdm := Int.mul_tdiv_add_tmod r a
  have hm1 : (r.tmod a).natAbs < a.natAbs := by rw [Int.natAbs_tmod]; exact Nat.mod_lt _ (by omega)
  have habs : (r.tdiv a).natAbs ≤ r.natAbs := by rw [Int.natAbs_tdiv]; exact Nat.div_le_self _ _
  by_cases hbig : r.tdiv a = 9223372036854775808
  · have : b = -9223372036854775808 := by rw [← hq', hbig]; unfold wrap64; omega
    subst this
    rw [hbig] at hdm
    have hrv : r = -9223372036854775808 := by omega
    subst hrv
    have : a = -1 := by omega
    subst this
    revert hs; decide
  · have hqb : r.tdiv a = b := by
      rw [← hq']; unfold wrap64; omega
    rw [hqb] at hdm
    omega
set_option maxHeartbeats 400000 in
theorem mul_out (a b : Int) (ha : InR a) (hb : InR b) (hab : ¬ InR (a * b)) (w : World) :
    Calls Try.prog 22 #[.int .i64 a, .int .i64 b] w fun e w' => e = .returned (.tuple #[.int .i64 (wrap64 (a * b)), .bool false]) ∧ w = w' := by
  obtain ⟨ha1, ha2⟩ := ha
  obtain ⟨hb1, hb2⟩ := hb
  have h0 : ¬ a = 0 := by rintro rfl; apply hab; simp [InR]
  have h1 : ¬ b = 0 := by rintro rfl; apply hab; simp [InR]
  have e0 : (a == 0) = false := by simpa using h0
  have e1 : (b == 0) = false := by simpa using h1
  have HB := Lib.hid (mul_out_bad a b ⟨ha1, ha2⟩ ⟨hb1, hb2⟩ hab h0 h1)
  clear hab
  go_enter Try.func22, Try.ntmps22
  go_wp2
  · go_ret2
    exact ⟨rfl, rfl⟩
  · go_ret2
    exact ⟨rfl, rfl⟩
  · exact (HB.out (by assumption) (by assumption)).elim
theorem zzmul_in (a b : Int) (ha : InR a) (hb : InR b) (hab : InR (a * b)) (w : World) :
    Calls Try.prog 16 #[.int .i64 a, .int .i64 b] w fun e w' => e = .returned (.tuple #[.int .i64 (a * b), .bool true]) ∧ w = w' := by
  go_enter Try.func16, Try.ntmps16
  go_wp2_with (go_at_call 22; refine (mul_in a b ha hb hab _).mono ?_; rintro e w' ⟨rfl, rfl⟩)
  go_ret2
  exact ⟨rfl, rfl⟩
theorem zzmul_out (a b : Int) (ha : InR a) (hb : InR b) (hab : ¬ InR (a * b)) (w : World) :
    Calls Try.prog 16 #[.int .i64 a, .int .i64 b] w fun e w' => e = .returned (.tuple #[.int .i64 (wrap64 (a * b)), .bool false]) ∧ w = w' := by
  go_enter Try.func16, Try.ntmps16
  go_wp2_with (go_at_call 22; refine (mul_out a b ha hb hab _).mono ?_; rintro e w' ⟨rfl, rfl⟩)
  go_ret2
  exact ⟨rfl, rfl⟩
theorem mulLongs_in (a b : Int) (ha : InR a) (hb : InR b) (hab : InR (a * b)) (w : World) :
    Calls Try.prog 6 #[.int .i64 a, .int .i64 b] w fun e w' => e = .returned (.tuple #[.int .i64 (a * b), .bool true]) ∧ w = w' := by
  go_enter Try.func6, Try.ntmps6
  go_wp2_with (go_at_call 16; refine (zzmul_in a b ha hb hab _).mono ?_; rintro e w' ⟨rfl, rfl⟩)
  go_ret2
  exact ⟨rfl, rfl⟩
theorem mulLongs_out (a b : Int) (ha : InR a) (hb : InR b) (hab : ¬ InR (a * b)) (w : World) :
    Calls Try.prog 6 #[.int .i64 a, .int .i64 b] w fun e w' => e = .returned (.tuple #[.int .i64 (wrap64 (a * b)), .bool false]) ∧ w = w' := by
  go_enter Try.func6, Try.ntmps6
  go_wp2_with (go_at_call 16; refine (zzmul_out a b ha hb hab _).mono ?_; rintro e w' ⟨rfl, rfl⟩)
  go_ret2
  exact ⟨rfl, rfl⟩
end Go.Proofs.Ytjcjappbopjgkaa
