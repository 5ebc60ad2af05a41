/-
  Sums, differences, products and negatives of longs: what checkedAddI64, checkedSubI64, checkedMulI64, checkedNegI64 and the reference's Add, Sub, Mul, NegLong give. Condition: the operands are ints of 64 bits.
-/
import Derived.Test.YtjcjappbopjgkaaLongs
namespace Go.Proofs.Ytjcjappbopjgkaa
open Go.RowKit
theorem mul_quot_bad (a b : Int) (ha : InR a) (hb : InR b) (hab : ¬ InR (a * b)) (h1 : ¬ b = 0) (h4 : ¬ b = -1)
    (hq : (wrap64 ((wrap64 (a * b)).tdiv b) != a) = false) : False := by
  have hq' : wrap64 ((wrap64 (a * b)).tdiv b) = a := by simpa using hq
  have hr : ∃ k : Int, a * b = wrap64 (a * b) + 18446744073709551616 * k := ⟨(a * b + 9223372036854775808) / 18446744073709551616, by unfold wrap64; omega⟩
  have hrr : InR (wrap64 (a * b)) := by unfold wrap64 InR; omega
  unfold InR at *
  generalize hR : wrap64 (a * b) = r at *
  obtain ⟨k, hk⟩ := hr
  have hk0 : k ≠ 0 := by rintro rfl; apply hab; omega
  have hdm := Int.mul_tdiv_add_tmod r b
  have hm1 : (r.tmod b).natAbs < b.natAbs := by rw [Int.natAbs_tmod]; exact Nat.mod_lt _ (by omega)
  have habs : (r.tdiv b).natAbs ≤ r.natAbs := by rw [Int.natAbs_tdiv]; exact Nat.div_le_self _ _
  by_cases hbig : r.tdiv b = 9223372036854775808
  · rw [hbig] at hdm
    omega
  · have hqb : r.tdiv b = a := by
      rw [← hq']; unfold wrap64; omega
    rw [hqb, Int.mul_comm] at hdm
    omega
set_option maxHeartbeats 400000 in
theorem add_in (a b : Int) (ha : InR a) (hb : InR b) (hab : InR (a + b)) (w : World) :
    Calls Try.prog 25 #[.int .i64 a, .int .i64 b] w fun e w' => e = .returned (.tuple #[.int .i64 (a + b), .bool true]) ∧ w = w' := by
  obtain ⟨ha1, ha2⟩ := ha
  obtain ⟨hb1, hb2⟩ := hb
  obtain ⟨hab1, hab2⟩ := hab
  have ht : (!(decide (a < a + b) == decide (0 < b))) = false := by
    have : (a < a + b) ↔ (0 < b) := by omega
    simp [this]
  go_enter Try.func25, Try.ntmps25
  go_wp2
  go_ret2
  exact ⟨rfl, rfl⟩
set_option maxHeartbeats 400000 in
theorem add_out (a b : Int) (ha : InR a) (hb : InR b) (hab : ¬ InR (a + b)) (w : World) :
    Calls Try.prog 25 #[.int .i64 a, .int .i64 b] w fun e w' => e = .returned (.tuple #[.int .i64 (wrap64 (a + b)), .bool false]) ∧ w = w' := by
  obtain ⟨ha1, ha2⟩ := ha
  obtain ⟨hb1, hb2⟩ := hb
  have ht : (!(decide (a < wrap64 (a + b)) == decide (0 < b))) = true := by
    have h1 : (a < wrap64 (a + b)) ↔ ¬ (0 < b) := by unfold wrap64 InR at *; omega
    have h2 : decide (a < wrap64 (a + b)) = !decide (0 < b) := by rw [← decide_not]; exact decide_eq_decide.2 h1
    rw [h2]; cases decide (0 < b) <;> rfl
  clear hab
  go_enter Try.func25, Try.ntmps25
  go_wp2
  go_ret2
  exact ⟨rfl, rfl⟩
theorem zzadd_in (a b : Int) (ha : InR a) (hb : InR b) (hab : InR (a + b)) (w : World) :
    Calls Try.prog 18 #[.int .i64 a, .int .i64 b] w fun e w' => e = .returned (.tuple #[.int .i64 (a + b), .bool true]) ∧ w = w' := by
  go_enter Try.func18, Try.ntmps18
  go_wp2_with (go_at_call 25; refine (add_in a b ha hb hab _).mono ?_; rintro e w' ⟨rfl, rfl⟩)
  go_ret2
  exact ⟨rfl, rfl⟩
theorem imadd_in (a b : Int) (ha : InR a) (hb : InR b) (hab : InR (a + b)) (w : World) :
    Calls Try.prog 9 #[.int .i64 a, .int .i64 b] w fun e w' => e = .returned (.tuple #[.int .i64 (a + b), .bool true]) ∧ w = w' := by
  go_enter Try.func9, Try.ntmps9
  go_wp2_with (go_at_call 18; refine (zzadd_in a b ha hb hab _).mono ?_; rintro e w' ⟨rfl, rfl⟩)
  go_ret2
  exact ⟨rfl, rfl⟩
theorem zzadd_out (a b : Int) (ha : InR a) (hb : InR b) (hab : ¬ InR (a + b)) (w : World) :
    Calls Try.prog 18 #[.int .i64 a, .int .i64 b] w fun e w' => e = .returned (.tuple #[.int .i64 (wrap64 (a + b)), .bool false]) ∧ w = w' := by
  go_enter Try.func18, Try.ntmps18
  go_wp2_with (go_at_call 25; refine (add_out a b ha hb hab _).mono ?_; rintro e w' ⟨rfl, rfl⟩)
  go_ret2
  exact ⟨rfl, rfl⟩
theorem imadd_out (a b : Int) (ha : InR a) (hb : InR b) (hab : ¬ InR (a + b)) (w : World) :
    Calls Try.prog 9 #[.int .i64 a, .int .i64 b] w fun e w' => e = .returned (.tuple #[.int .i64 (wrap64 (a + b)), .bool false]) ∧ w = w' := by
  go_enter Try.func9, Try.ntmps9
  go_wp2_with (go_at_call 18; refine (zzadd_out a b ha hb hab _).mono ?_; rintro e w' ⟨rfl, rfl⟩)
  go_ret2
  exact ⟨rfl, rfl⟩
set_option maxHeartbeats 400000 in
theorem spadd_in (a b : Int) (ha : InR a) (hb : InR b) (hab : InR (a + b)) (w : World) :
    Calls Try.prog 10 #[.int .i64 a, .int .i64 b] w fun e w' => e = .returned (.tuple #[.int .i64 (a + b), .bool true]) ∧ w = w' := by
  obtain ⟨ha1, ha2⟩ := ha
  obtain ⟨hb1, hb2⟩ := hb
  obtain ⟨hab1, hab2⟩ := hab
  rcases Int.lt_trichotomy b 0 with h | h | h
  · go_enter Try.func10, Try.ntmps10
    go_wp2
    go_ret2
    exact ⟨rfl, rfl⟩
  · subst h
    go_enter Try.func10, Try.ntmps10
    go_wp2
    go_ret2
    exact ⟨by simp, rfl⟩
  · go_enter Try.func10, Try.ntmps10
    go_wp2
    go_ret2
    exact ⟨rfl, rfl⟩
set_option maxHeartbeats 400000 in
theorem spadd_out (a b : Int) (ha : InR a) (hb : InR b) (hab : ¬ InR (a + b)) (w : World) :
    Calls Try.prog 10 #[.int .i64 a, .int .i64 b] w fun e w' => e = .returned (.tuple #[.int .i64 0, .bool false]) ∧ w = w' := by
  obtain ⟨ha1, ha2⟩ := ha
  obtain ⟨hb1, hb2⟩ := hb
  have hd : a + b < -9223372036854775808 ∨ 9223372036854775807 < a + b := by unfold InR at hab; omega
  clear hab
  rcases Int.lt_trichotomy b 0 with h | h | h
  · rcases hd with hd | hd <;> first | omega | (
      go_enter Try.func10, Try.ntmps10
      go_wp2
      go_ret2
      exact ⟨rfl, rfl⟩)
  · omega
  · rcases hd with hd | hd <;> first | omega | (
      go_enter Try.func10, Try.ntmps10
      go_wp2
      go_ret2
      exact ⟨rfl, rfl⟩)
set_option maxHeartbeats 400000 in
theorem sub_in (a b : Int) (ha : InR a) (hb : InR b) (hab : InR (a - b)) (w : World) :
    Calls Try.prog 26 #[.int .i64 a, .int .i64 b] w fun e w' => e = .returned (.tuple #[.int .i64 (a - b), .bool true]) ∧ w = w' := by
  obtain ⟨ha1, ha2⟩ := ha
  obtain ⟨hb1, hb2⟩ := hb
  obtain ⟨hab1, hab2⟩ := hab
  have ht : (!(decide (a < a - b) == decide (b < 0))) = false := by
    have : (a < a - b) ↔ (b < 0) := by omega
    simp [this]
  go_enter Try.func26, Try.ntmps26
  go_wp2
  go_ret2
  exact ⟨rfl, rfl⟩
set_option maxHeartbeats 400000 in
theorem sub_out (a b : Int) (ha : InR a) (hb : InR b) (hab : ¬ InR (a - b)) (w : World) :
    Calls Try.prog 26 #[.int .i64 a, .int .i64 b] w fun e w' => e = .returned (.tuple #[.int .i64 (wrap64 (a - b)), .bool false]) ∧ w = w' := by
  obtain ⟨ha1, ha2⟩ := ha
  obtain ⟨hb1, hb2⟩ := hb
  have ht : (!(decide (a < wrap64 (a - b)) == decide (b < 0))) = true := by
    have h1 : (a < wrap64 (a - b)) ↔ ¬ (b < 0) := by unfold wrap64 InR at *; omega
    have h2 : decide (a < wrap64 (a - b)) = !decide (b < 0) := by rw [← decide_not]; exact decide_eq_decide.2 h1
    rw [h2]; cases decide (b < 0) <;> rfl
  clear hab
  go_enter Try.func26, Try.ntmps26
  go_wp2
  go_ret2
  exact ⟨rfl, rfl⟩
theorem zzsub_in (a b : Int) (ha : InR a) (hb : InR b) (hab : InR (a - b)) (w : World) :
    Calls Try.prog 19 #[.int .i64 a, .int .i64 b] w fun e w' => e = .returned (.tuple #[.int .i64 (a - b), .bool true]) ∧ w = w' := by
  go_enter Try.func19, Try.ntmps19
  go_wp2_with (go_at_call 26; refine (sub_in a b ha hb hab _).mono ?_; rintro e w' ⟨rfl, rfl⟩)
  go_ret2
  exact ⟨rfl, rfl⟩
theorem imsub_in (a b : Int) (ha : InR a) (hb : InR b) (hab : InR (a - b)) (w : World) :
    Calls Try.prog 11 #[.int .i64 a, .int .i64 b] w fun e w' => e = .returned (.tuple #[.int .i64 (a - b), .bool true]) ∧ w = w' := by
  go_enter Try.func11, Try.ntmps11
  go_wp2_with (go_at_call 19; refine (zzsub_in a b ha hb hab _).mono ?_; rintro e w' ⟨rfl, rfl⟩)
  go_ret2
  exact ⟨rfl, rfl⟩
theorem zzsub_out (a b : Int) (ha : InR a) (hb : InR b) (hab : ¬ InR (a - b)) (w : World) :
    Calls Try.prog 19 #[.int .i64 a, .int .i64 b] w fun e w' => e = .returned (.tuple #[.int .i64 (wrap64 (a - b)), .bool false]) ∧ w = w' := by
  go_enter Try.func19, Try.ntmps19
  go_wp2_with (go_at_call 26; refine (sub_out a b ha hb hab _).mono ?_; rintro e w' ⟨rfl, rfl⟩)
  go_ret2
  exact ⟨rfl, rfl⟩
theorem imsub_out (a b : Int) (ha : InR a) (hb : InR b) (hab : ¬ InR (a - b)) (w : World) :
    Calls Try.prog 11 #[.int .i64 a, .int .i64 b] w fun e w' => e = .returned (.tuple #[.int .i64 (wrap64 (a - b)), .bool false]) ∧ w = w' := by
  go_enter Try.func11, Try.ntmps11
  go_wp2_with (go_at_call 19; refine (zzsub_out a b ha hb hab _).mono ?_; rintro e w' ⟨rfl, rfl⟩)
  go_ret2
  exact ⟨rfl, rfl⟩
set_option maxHeartbeats 400000 in
theorem spsub_in (a b : Int) (ha : InR a) (hb : InR b) (hab : InR (a - b)) (w : World) :
    Calls Try.prog 12 #[.int .i64 a, .int .i64 b] w fun e w' => e = .returned (.tuple #[.int .i64 (a - b), .bool true]) ∧ w = w' := by
  obtain ⟨ha1, ha2⟩ := ha
  obtain ⟨hb1, hb2⟩ := hb
  obtain ⟨hab1, hab2⟩ := hab
  rcases Int.lt_trichotomy b 0 with h | h | h
  · go_enter Try.func12, Try.ntmps12
    go_wp2
    go_ret2
    exact ⟨rfl, rfl⟩
  · subst h
    go_enter Try.func12, Try.ntmps12
    go_wp2
    go_ret2
    exact ⟨by simp, rfl⟩
  · go_enter Try.func12, Try.ntmps12
    go_wp2
    go_ret2
    exact ⟨rfl, rfl⟩
set_option maxHeartbeats 400000 in
theorem spsub_out (a b : Int) (ha : InR a) (hb : InR b) (hab : ¬ InR (a - b)) (w : World) :
    Calls Try.prog 12 #[.int .i64 a, .int .i64 b] w fun e w' => e = .returned (.tuple #[.int .i64 0, .bool false]) ∧ w = w' := by
  obtain ⟨ha1, ha2⟩ := ha
  obtain ⟨hb1, hb2⟩ := hb
  have hd : a - b < -9223372036854775808 ∨ 9223372036854775807 < a - b := by unfold InR at hab; omega
  clear hab
  rcases Int.lt_trichotomy b 0 with h | h | h
  · rcases hd with hd | hd <;> first | omega | (
      go_enter Try.func12, Try.ntmps12
      go_wp2
      go_ret2
      exact ⟨rfl, rfl⟩)
  · omega
  · rcases hd with hd | hd <;> first | omega | (
      go_enter Try.func12, Try.ntmps12
      go_wp2
      go_ret2
      exact ⟨rfl, rfl⟩)
set_option maxHeartbeats 400000 in
theorem spmul_in (a b : Int) (ha : InR a) (hb : InR b) (hab : InR (a * b)) (w : World) :
    Calls Try.prog 13 #[.int .i64 a, .int .i64 b] w fun e w' => e = .returned (.tuple #[.int .i64 (a * b), .bool true]) ∧ w = w' := by
  obtain ⟨ha1, ha2⟩ := ha
  obtain ⟨hb1, hb2⟩ := hb
  obtain ⟨hab1, hab2⟩ := hab
  by_cases h0 : a = 0
  · subst h0
    go_enter Try.func13, Try.ntmps13
    go_wp2
    go_ret2
    exact ⟨by simp, rfl⟩
  have e0 : (a == 0) = false := by simpa using h0
  by_cases h1 : b = 0
  · subst h1
    go_enter Try.func13, Try.ntmps13
    go_wp2
    go_ret2
    exact ⟨by simp, rfl⟩
  have e1 : (b == 0) = false := by simpa using h1
  have hq : (a * b).tdiv b = a := Int.mul_tdiv_cancel _ h1
  by_cases h2 : a = -1
  · subst h2
    have e3 : (b == -9223372036854775808) = false := by simp; omega
    by_cases h4 : b = -1
    · subst h4
      go_enter Try.func13, Try.ntmps13
      go_wp2
      go_ret2
      exact ⟨by simp, rfl⟩
    have e4 : (b == -1) = false := by simpa using h4
    go_enter Try.func13, Try.ntmps13
    go_wp2
    go_ret2
    exact ⟨by simp, rfl⟩
  have e2 : (a == -1) = false := by simpa using h2
  by_cases h4 : b = -1
  · subst h4
    have e3 : (a == -9223372036854775808) = false := by simp; omega
    go_enter Try.func13, Try.ntmps13
    go_wp2
    go_ret2
    exact ⟨by simp, rfl⟩
  have e4 : (b == -1) = false := by simpa using h4
  go_enter Try.func13, Try.ntmps13
  go_wp2
  go_ret2
  exact ⟨rfl, rfl⟩
set_option maxHeartbeats 400000 in
theorem spmul_out (a b : Int) (ha : InR a) (hb : InR b) (hab : ¬ InR (a * b)) (w : World) :
    Calls Try.prog 13 #[.int .i64 a, .int .i64 b] w fun e w' => e = .returned (.tuple #[.int .i64 0, .bool false]) ∧ w = w' := by
  have h0 : ¬ a = 0 := by rintro rfl; apply hab; simp [InR]
  have h1 : ¬ b = 0 := by rintro rfl; apply hab; simp [InR]
  have e0 : (a == 0) = false := by simpa using h0
  have e1 : (b == 0) = false := by simpa using h1
  by_cases h2 : a = -1
  · subst h2
    have hb4 : b = -9223372036854775808 := by unfold InR at *; omega
    subst hb4
    go_enter Try.func13, Try.ntmps13
    go_wp2
    go_ret2
    exact ⟨rfl, rfl⟩
  by_cases h4 : b = -1
  · subst h4
    have hb4 : a = -9223372036854775808 := by unfold InR at *; omega
    subst hb4
    go_enter Try.func13, Try.ntmps13
    go_wp2
    go_ret2
    exact ⟨rfl, rfl⟩
  have e2 : (a == -1) = false := by simpa using h2
  have e4 : (b == -1) = false := by simpa using h4
  have hs : (wrap64 ((wrap64 (a * b)).tdiv b) != a) = true := by
    cases hc : (wrap64 ((wrap64 (a * b)).tdiv b) != a) with
    | true => rfl
    | false => exact (mul_quot_bad a b ha hb hab h1 h4 hc).elim
  obtain ⟨ha1, ha2⟩ := ha
  obtain ⟨hb1, hb2⟩ := hb
  clear hab
  go_enter Try.func13, Try.ntmps13
  go_wp2
  go_ret2
  exact ⟨rfl, rfl⟩
set_option maxHeartbeats 400000 in
theorem neg_in (a : Int) (ha : InR a) (hab : ¬ a = -9223372036854775808) (w : World) :
    Calls Try.prog 27 #[.int .i64 a] w fun e w' => e = .returned (.tuple #[.int .i64 (-a), .bool true]) ∧ w = w' := by
  obtain ⟨ha1, ha2⟩ := ha
  have e0 : (a == -9223372036854775808) = false := by simpa using hab
  go_enter Try.func27, Try.ntmps27
  go_wp2
  go_ret2
  exact ⟨rfl, rfl⟩
theorem neg_out (w : World) :
    Calls Try.prog 27 #[.int .i64 (-9223372036854775808)] w fun e w' => e = .returned (.tuple #[.int .i64 0, .bool false]) ∧ w = w' := by
  go_enter Try.func27, Try.ntmps27
  go_wp2
  go_ret2
  exact ⟨rfl, rfl⟩
theorem zzneg_in (a : Int) (ha : InR a) (hab : ¬ a = -9223372036854775808) (w : World) :
    Calls Try.prog 20 #[.int .i64 a] w fun e w' => e = .returned (.tuple #[.int .i64 (-a), .bool true]) ∧ w = w' := by
  go_enter Try.func20, Try.ntmps20
  go_wp2_with (go_at_call 27; refine (neg_in a ha hab _).mono ?_; rintro e w' ⟨rfl, rfl⟩)
  go_ret2
  exact ⟨rfl, rfl⟩
theorem zzneg_out (w : World) :
    Calls Try.prog 20 #[.int .i64 (-9223372036854775808)] w fun e w' => e = .returned (.tuple #[.int .i64 0, .bool false]) ∧ w = w' := by
  go_enter Try.func20, Try.ntmps20
  go_wp2_with (go_at_call 27; refine (neg_out _).mono ?_; rintro e w' ⟨rfl, rfl⟩)
  go_ret2
  exact ⟨rfl, rfl⟩
theorem imneg_in (a : Int) (ha : InR a) (hab : ¬ a = -9223372036854775808) (w : World) :
    Calls Try.prog 14 #[.int .i64 a] w fun e w' => e = .returned (.tuple #[.int .i64 (-a), .bool true]) ∧ w = w' := by
  go_enter Try.func14, Try.ntmps14
  go_wp2_with (go_at_call 20; refine (zzneg_in a ha hab _).mono ?_; rintro e w' ⟨rfl, rfl⟩)
  go_ret2
  exact ⟨rfl, rfl⟩
theorem imneg_out (w : World) :
    Calls Try.prog 14 #[.int .i64 (-9223372036854775808)] w fun e w' => e = .returned (.tuple #[.int .i64 0, .bool false]) ∧ w = w' := by
  go_enter Try.func14, Try.ntmps14
  go_wp2_with (go_at_call 20; refine (zzneg_out _).mono ?_; rintro e w' ⟨rfl, rfl⟩)
  go_ret2
  exact ⟨rfl, rfl⟩
theorem told_any (a : Int) (b : Bool) (w : World) :
    Calls Try.prog 21 #[.int .i64 a, .bool b] w fun e w' => e = .returned (.tuple #[.int .i64 a, .bool b]) ∧ w = w' := by
  go_enter Try.func21, Try.ntmps21
  go_wp2_with fail
  go_ret2
  exact ⟨rfl, rfl⟩
theorem spneg_in (a : Int) (ha : InR a) (hab : ¬ a = -9223372036854775808) (w : World) :
    Calls Try.prog 15 #[.int .i64 a] w fun e w' => e = .returned (.tuple #[.int .i64 (-a), .bool true]) ∧ w = w' := by
  have h2 : InR (0 - a) := by unfold InR at *; omega
  go_enter Try.func15, Try.ntmps15
  go_wp2_with fail
  refine (spsub_in 0 a (by unfold InR; omega) ha h2 _).mono ?_
  rintro e w' ⟨rfl, rfl⟩
  go_wp2_with fail
  refine (told_any (-a) _ _).mono ?_
  rintro e w' ⟨rfl, rfl⟩
  go_wp2_with fail
  go_ret2
  exact ⟨rfl, rfl⟩
theorem spneg_out (w : World) :
    Calls Try.prog 15 #[.int .i64 (-9223372036854775808)] w fun e w' => e = .returned (.tuple #[.int .i64 0, .bool false]) ∧ w = w' := by
  go_enter Try.func15, Try.ntmps15
  go_wp2_with fail
  refine (spsub_out 0 _ (by unfold InR; omega) (by unfold InR; omega) (by unfold InR; omega) _).mono ?_
  rintro e w' ⟨rfl, rfl⟩
  go_wp2_with fail
  refine (told_any _ _ _).mono ?_
  rintro e w' ⟨rfl, rfl⟩
  go_wp2_with fail
  go_ret2
  exact ⟨rfl, rfl⟩
end Go.Proofs.Ytjcjappbopjgkaa
