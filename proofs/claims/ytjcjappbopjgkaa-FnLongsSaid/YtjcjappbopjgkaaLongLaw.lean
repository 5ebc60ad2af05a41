/-
  FnLongs, way by way: each sum, difference and product within 64 bits or beyond, the first operand the least int or another one.
-/
import Derived.Test.YtjcjappbopjgkaaSums
namespace Go.Proofs.Ytjcjappbopjgkaa
open Go.RowKit
theorem imneg_least (a : Int) (h : a = -9223372036854775808) (w : World) :
    Calls Try.prog 14 #[.int .i64 a] w fun e w' => e = .returned (.tuple #[.int .i64 0, .bool false]) ∧ w = w' := by rw [h]; exact imneg_out w
theorem spneg_least (a : Int) (h : a = -9223372036854775808) (w : World) :
    Calls Try.prog 15 #[.int .i64 a] w fun e w' => e = .returned (.tuple #[.int .i64 0, .bool false]) ∧ w = w' := by rw [h]; exact spneg_out w

set_option maxHeartbeats 400000 in
theorem law_iiin (a b : Int) (h0 : InR a) (h1 : InR b) (hadd : InR (a + b)) (hsub : InR (a - b)) (hmul : InR (a * b)) (hneg : ¬ a = -9223372036854775808) (w : World) :
    Calls Try.prog 5 #[.int .i64 a, .int .i64 b] w fun e w' => e = .returned (.bool true) ∧ Grown w w' := by
  have hn1 : (a != -9223372036854775808) = true := by simpa using hneg
  have hb1 : -9223372036854775807 ≤ a := by unfold InR at h0; omega
  have hb2 : a ≤ 9223372036854775807 := by unfold InR at h0; omega
  have HN := Lib.hid hneg
  clear hneg
  go_enter Try.func5, Try.ntmps5
  go_wp2_with fail
  refine (imadd_in a b h0 h1 hadd _).mono ?_; rintro e w' ⟨rfl, rfl⟩
  go_wp2_with fail
  refine (spadd_in a b h0 h1 hadd _).mono ?_; rintro e w' ⟨rfl, rfl⟩
  go_wp2_with fail
  refine (imsub_in a b h0 h1 hsub _).mono ?_; rintro e w' ⟨rfl, rfl⟩
  go_wp2_with fail
  refine (spsub_in a b h0 h1 hsub _).mono ?_; rintro e w' ⟨rfl, rfl⟩
  go_wp2_with fail
  refine (mulLongs_in a b h0 h1 hmul _).mono ?_; rintro e w' ⟨rfl, rfl⟩
  go_wp2_with fail
  refine (spmul_in a b h0 h1 hmul _).mono ?_; rintro e w' ⟨rfl, rfl⟩
  go_wp2_with fail
  refine (imneg_in a h0 HN.out _).mono ?_; rintro e w' ⟨rfl, rfl⟩
  go_wp2_with fail
  refine (spneg_in a h0 HN.out _).mono ?_; rintro e w' ⟨rfl, rfl⟩
  go_wp2_with fail
  go_ret
  exact ⟨by simp, Grown.refl _⟩
set_option maxHeartbeats 400000 in
theorem law_iiil (a b : Int) (h0 : InR a) (h1 : InR b) (hadd : InR (a + b)) (hsub : InR (a - b)) (hmul : InR (a * b)) (hneg : a = -9223372036854775808) (w : World) :
    Calls Try.prog 5 #[.int .i64 a, .int .i64 b] w fun e w' => e = .returned (.bool true) ∧ Grown w w' := by
  have hn1 : (a != -9223372036854775808) = false := by simpa using hneg
  have HN := Lib.hid hneg
  clear hneg
  go_enter Try.func5, Try.ntmps5
  go_wp2_with fail
  refine (imadd_in a b h0 h1 hadd _).mono ?_; rintro e w' ⟨rfl, rfl⟩
  go_wp2_with fail
  refine (spadd_in a b h0 h1 hadd _).mono ?_; rintro e w' ⟨rfl, rfl⟩
  go_wp2_with fail
  refine (imsub_in a b h0 h1 hsub _).mono ?_; rintro e w' ⟨rfl, rfl⟩
  go_wp2_with fail
  refine (spsub_in a b h0 h1 hsub _).mono ?_; rintro e w' ⟨rfl, rfl⟩
  go_wp2_with fail
  refine (mulLongs_in a b h0 h1 hmul _).mono ?_; rintro e w' ⟨rfl, rfl⟩
  go_wp2_with fail
  refine (spmul_in a b h0 h1 hmul _).mono ?_; rintro e w' ⟨rfl, rfl⟩
  go_wp2_with fail
  refine (imneg_least a HN.out _).mono ?_; rintro e w' ⟨rfl, rfl⟩
  go_wp2_with fail
  refine (spneg_least a HN.out _).mono ?_; rintro e w' ⟨rfl, rfl⟩
  go_wp2_with fail
  go_ret
  exact ⟨by simp, Grown.refl _⟩
set_option maxHeartbeats 400000 in
theorem law_iion (a b : Int) (h0 : InR a) (h1 : InR b) (hadd : InR (a + b)) (hsub : InR (a - b)) (hmul : ¬ InR (a * b)) (hneg : ¬ a = -9223372036854775808) (w : World) :
    Calls Try.prog 5 #[.int .i64 a, .int .i64 b] w fun e w' => e = .returned (.bool true) ∧ Grown w w' := by
  have hn1 : (a != -9223372036854775808) = true := by simpa using hneg
  have hb1 : -9223372036854775807 ≤ a := by unfold InR at h0; omega
  have hb2 : a ≤ 9223372036854775807 := by unfold InR at h0; omega
  have HN := Lib.hid hneg
  clear hneg
  go_enter Try.func5, Try.ntmps5
  go_wp2_with fail
  refine (imadd_in a b h0 h1 hadd _).mono ?_; rintro e w' ⟨rfl, rfl⟩
  go_wp2_with fail
  refine (spadd_in a b h0 h1 hadd _).mono ?_; rintro e w' ⟨rfl, rfl⟩
  go_wp2_with fail
  refine (imsub_in a b h0 h1 hsub _).mono ?_; rintro e w' ⟨rfl, rfl⟩
  go_wp2_with fail
  refine (spsub_in a b h0 h1 hsub _).mono ?_; rintro e w' ⟨rfl, rfl⟩
  go_wp2_with fail
  refine (mulLongs_out a b h0 h1 hmul _).mono ?_; rintro e w' ⟨rfl, rfl⟩
  go_wp2_with fail
  refine (spmul_out a b h0 h1 hmul _).mono ?_; rintro e w' ⟨rfl, rfl⟩
  go_wp2_with fail
  refine (imneg_in a h0 HN.out _).mono ?_; rintro e w' ⟨rfl, rfl⟩
  go_wp2_with fail
  refine (spneg_in a h0 HN.out _).mono ?_; rintro e w' ⟨rfl, rfl⟩
  go_wp2_with fail
  go_ret
  exact ⟨by simp, Grown.refl _⟩
set_option maxHeartbeats 400000 in
theorem law_iiol (a b : Int) (h0 : InR a) (h1 : InR b) (hadd : InR (a + b)) (hsub : InR (a - b)) (hmul : ¬ InR (a * b)) (hneg : a = -9223372036854775808) (w : World) :
    Calls Try.prog 5 #[.int .i64 a, .int .i64 b] w fun e w' => e = .returned (.bool true) ∧ Grown w w' := by
  have hn1 : (a != -9223372036854775808) = false := by simpa using hneg
  have HN := Lib.hid hneg
  clear hneg
  go_enter Try.func5, Try.ntmps5
  go_wp2_with fail
  refine (imadd_in a b h0 h1 hadd _).mono ?_; rintro e w' ⟨rfl, rfl⟩
  go_wp2_with fail
  refine (spadd_in a b h0 h1 hadd _).mono ?_; rintro e w' ⟨rfl, rfl⟩
  go_wp2_with fail
  refine (imsub_in a b h0 h1 hsub _).mono ?_; rintro e w' ⟨rfl, rfl⟩
  go_wp2_with fail
  refine (spsub_in a b h0 h1 hsub _).mono ?_; rintro e w' ⟨rfl, rfl⟩
  go_wp2_with fail
  refine (mulLongs_out a b h0 h1 hmul _).mono ?_; rintro e w' ⟨rfl, rfl⟩
  go_wp2_with fail
  refine (spmul_out a b h0 h1 hmul _).mono ?_; rintro e w' ⟨rfl, rfl⟩
  go_wp2_with fail
  refine (imneg_least a HN.out _).mono ?_; rintro e w' ⟨rfl, rfl⟩
  go_wp2_with fail
  refine (spneg_least a HN.out _).mono ?_; rintro e w' ⟨rfl, rfl⟩
  go_wp2_with fail
  go_ret
  exact ⟨by simp, Grown.refl _⟩
set_option maxHeartbeats 400000 in
theorem law_ioin (a b : Int) (h0 : InR a) (h1 : InR b) (hadd : InR (a + b)) (hsub : ¬ InR (a - b)) (hmul : InR (a * b)) (hneg : ¬ a = -9223372036854775808) (w : World) :
    Calls Try.prog 5 #[.int .i64 a, .int .i64 b] w fun e w' => e = .returned (.bool true) ∧ Grown w w' := by
  have hn1 : (a != -9223372036854775808) = true := by simpa using hneg
  have hb1 : -9223372036854775807 ≤ a := by unfold InR at h0; omega
  have hb2 : a ≤ 9223372036854775807 := by unfold InR at h0; omega
  have HN := Lib.hid hneg
  clear hneg
  go_enter Try.func5, Try.ntmps5
  go_wp2_with fail
  refine (imadd_in a b h0 h1 hadd _).mono ?_; rintro e w' ⟨rfl, rfl⟩
  go_wp2_with fail
  refine (spadd_in a b h0 h1 hadd _).mono ?_; rintro e w' ⟨rfl, rfl⟩
  go_wp2_with fail
  refine (imsub_out a b h0 h1 hsub _).mono ?_; rintro e w' ⟨rfl, rfl⟩
  go_wp2_with fail
  refine (spsub_out a b h0 h1 hsub _).mono ?_; rintro e w' ⟨rfl, rfl⟩
  go_wp2_with fail
  refine (mulLongs_in a b h0 h1 hmul _).mono ?_; rintro e w' ⟨rfl, rfl⟩
  go_wp2_with fail
  refine (spmul_in a b h0 h1 hmul _).mono ?_; rintro e w' ⟨rfl, rfl⟩
  go_wp2_with fail
  refine (imneg_in a h0 HN.out _).mono ?_; rintro e w' ⟨rfl, rfl⟩
  go_wp2_with fail
  refine (spneg_in a h0 HN.out _).mono ?_; rintro e w' ⟨rfl, rfl⟩
  go_wp2_with fail
  go_ret
  exact ⟨by simp, Grown.refl _⟩
set_option maxHeartbeats 400000 in
theorem law_ioil (a b : Int) (h0 : InR a) (h1 : InR b) (hadd : InR (a + b)) (hsub : ¬ InR (a - b)) (hmul : InR (a * b)) (hneg : a = -9223372036854775808) (w : World) :
    Calls Try.prog 5 #[.int .i64 a, .int .i64 b] w fun e w' => e = .returned (.bool true) ∧ Grown w w' := by
  have hn1 : (a != -9223372036854775808) = false := by simpa using hneg
  have HN := Lib.hid hneg
  clear hneg
  go_enter Try.func5, Try.ntmps5
  go_wp2_with fail
  refine (imadd_in a b h0 h1 hadd _).mono ?_; rintro e w' ⟨rfl, rfl⟩
  go_wp2_with fail
  refine (spadd_in a b h0 h1 hadd _).mono ?_; rintro e w' ⟨rfl, rfl⟩
  go_wp2_with fail
  refine (imsub_out a b h0 h1 hsub _).mono ?_; rintro e w' ⟨rfl, rfl⟩
  go_wp2_with fail
  refine (spsub_out a b h0 h1 hsub _).mono ?_; rintro e w' ⟨rfl, rfl⟩
  go_wp2_with fail
  refine (mulLongs_in a b h0 h1 hmul _).mono ?_; rintro e w' ⟨rfl, rfl⟩
  go_wp2_with fail
  refine (spmul_in a b h0 h1 hmul _).mono ?_; rintro e w' ⟨rfl, rfl⟩
  go_wp2_with fail
  refine (imneg_least a HN.out _).mono ?_; rintro e w' ⟨rfl, rfl⟩
  go_wp2_with fail
  refine (spneg_least a HN.out _).mono ?_; rintro e w' ⟨rfl, rfl⟩
  go_wp2_with fail
  go_ret
  exact ⟨by simp, Grown.refl _⟩
set_option maxHeartbeats 400000 in
theorem law_ioon (a b : Int) (h0 : InR a) (h1 : InR b) (hadd : InR (a + b)) (hsub : ¬ InR (a - b)) (hmul : ¬ InR (a * b)) (hneg : ¬ a = -9223372036854775808) (w : World) :
    Calls Try.prog 5 #[.int .i64 a, .int .i64 b] w fun e w' => e = .returned (.bool true) ∧ Grown w w' := by
  have hn1 : (a != -9223372036854775808) = true := by simpa using hneg
  have hb1 : -9223372036854775807 ≤ a := by unfold InR at h0; omega
  have hb2 : a ≤ 9223372036854775807 := by unfold InR at h0; omega
  have HN := Lib.hid hneg
  clear hneg
  go_enter Try.func5, Try.ntmps5
  go_wp2_with fail
  refine (imadd_in a b h0 h1 hadd _).mono ?_; rintro e w' ⟨rfl, rfl⟩
  go_wp2_with fail
  refine (spadd_in a b h0 h1 hadd _).mono ?_; rintro e w' ⟨rfl, rfl⟩
  go_wp2_with fail
  refine (imsub_out a b h0 h1 hsub _).mono ?_; rintro e w' ⟨rfl, rfl⟩
  go_wp2_with fail
  refine (spsub_out a b h0 h1 hsub _).mono ?_; rintro e w' ⟨rfl, rfl⟩
  go_wp2_with fail
  refine (mulLongs_out a b h0 h1 hmul _).mono ?_; rintro e w' ⟨rfl, rfl⟩
  go_wp2_with fail
  refine (spmul_out a b h0 h1 hmul _).mono ?_; rintro e w' ⟨rfl, rfl⟩
  go_wp2_with fail
  refine (imneg_in a h0 HN.out _).mono ?_; rintro e w' ⟨rfl, rfl⟩
  go_wp2_with fail
  refine (spneg_in a h0 HN.out _).mono ?_; rintro e w' ⟨rfl, rfl⟩
  go_wp2_with fail
  go_ret
  exact ⟨by simp, Grown.refl _⟩
set_option maxHeartbeats 400000 in
theorem law_iool (a b : Int) (h0 : InR a) (h1 : InR b) (hadd : InR (a + b)) (hsub : ¬ InR (a - b)) (hmul : ¬ InR (a * b)) (hneg : a = -9223372036854775808) (w : World) :
    Calls Try.prog 5 #[.int .i64 a, .int .i64 b] w fun e w' => e = .returned (.bool true) ∧ Grown w w' := by
  have hn1 : (a != -9223372036854775808) = false := by simpa using hneg
  have HN := Lib.hid hneg
  clear hneg
  go_enter Try.func5, Try.ntmps5
  go_wp2_with fail
  refine (imadd_in a b h0 h1 hadd _).mono ?_; rintro e w' ⟨rfl, rfl⟩
  go_wp2_with fail
  refine (spadd_in a b h0 h1 hadd _).mono ?_; rintro e w' ⟨rfl, rfl⟩
  go_wp2_with fail
  refine (imsub_out a b h0 h1 hsub _).mono ?_; rintro e w' ⟨rfl, rfl⟩
  go_wp2_with fail
  refine (spsub_out a b h0 h1 hsub _).mono ?_; rintro e w' ⟨rfl, rfl⟩
  go_wp2_with fail
  refine (mulLongs_out a b h0 h1 hmul _).mono ?_; rintro e w' ⟨rfl, rfl⟩
  go_wp2_with fail
  refine (spmul_out a b h0 h1 hmul _).mono ?_; rintro e w' ⟨rfl, rfl⟩
  go_wp2_with fail
  refine (imneg_least a HN.out _).mono ?_; rintro e w' ⟨rfl, rfl⟩
  go_wp2_with fail
  refine (spneg_least a HN.out _).mono ?_; rintro e w' ⟨rfl, rfl⟩
  go_wp2_with fail
  go_ret
  exact ⟨by simp, Grown.refl _⟩
set_option maxHeartbeats 400000 in
theorem law_oiin (a b : Int) (h0 : InR a) (h1 : InR b) (hadd : ¬ InR (a + b)) (hsub : InR (a - b)) (hmul : InR (a * b)) (hneg : ¬ a = -9223372036854775808) (w : World) :
    Calls Try.prog 5 #[.int .i64 a, .int .i64 b] w fun e w' => e = .returned (.bool true) ∧ Grown w w' := by
  have hn1 : (a != -9223372036854775808) = true := by simpa using hneg
  have hb1 : -9223372036854775807 ≤ a := by unfold InR at h0; omega
  have hb2 : a ≤ 9223372036854775807 := by unfold InR at h0; omega
  have HN := Lib.hid hneg
  clear hneg
  go_enter Try.func5, Try.ntmps5
  go_wp2_with fail
  refine (imadd_out a b h0 h1 hadd _).mono ?_; rintro e w' ⟨rfl, rfl⟩
  go_wp2_with fail
  refine (spadd_out a b h0 h1 hadd _).mono ?_; rintro e w' ⟨rfl, rfl⟩
  go_wp2_with fail
  refine (imsub_in a b h0 h1 hsub _).mono ?_; rintro e w' ⟨rfl, rfl⟩
  go_wp2_with fail
  refine (spsub_in a b h0 h1 hsub _).mono ?_; rintro e w' ⟨rfl, rfl⟩
  go_wp2_with fail
  refine (mulLongs_in a b h0 h1 hmul _).mono ?_; rintro e w' ⟨rfl, rfl⟩
  go_wp2_with fail
  refine (spmul_in a b h0 h1 hmul _).mono ?_; rintro e w' ⟨rfl, rfl⟩
  go_wp2_with fail
  refine (imneg_in a h0 HN.out _).mono ?_; rintro e w' ⟨rfl, rfl⟩
  go_wp2_with fail
  refine (spneg_in a h0 HN.out _).mono ?_; rintro e w' ⟨rfl, rfl⟩
  go_wp2_with fail
  go_ret
  exact ⟨by simp, Grown.refl _⟩
set_option maxHeartbeats 400000 in
theorem law_oiil (a b : Int) (h0 : InR a) (h1 : InR b) (hadd : ¬ InR (a + b)) (hsub : InR (a - b)) (hmul : InR (a * b)) (hneg : a = -9223372036854775808) (w : World) :
    Calls Try.prog 5 #[.int .i64 a, .int .i64 b] w fun e w' => e = .returned (.bool true) ∧ Grown w w' := by
  have hn1 : (a != -9223372036854775808) = false := by simpa using hneg
  have HN := Lib.hid hneg
  clear hneg
  go_enter Try.func5, Try.ntmps5
  go_wp2_with fail
  refine (imadd_out a b h0 h1 hadd _).mono ?_; rintro e w' ⟨rfl, rfl⟩
  go_wp2_with fail
  refine (spadd_out a b h0 h1 hadd _).mono ?_; rintro e w' ⟨rfl, rfl⟩
  go_wp2_with fail
  refine (imsub_in a b h0 h1 hsub _).mono ?_; rintro e w' ⟨rfl, rfl⟩
  go_wp2_with fail
  refine (spsub_in a b h0 h1 hsub _).mono ?_; rintro e w' ⟨rfl, rfl⟩
  go_wp2_with fail
  refine (mulLongs_in a b h0 h1 hmul _).mono ?_; rintro e w' ⟨rfl, rfl⟩
  go_wp2_with fail
  refine (spmul_in a b h0 h1 hmul _).mono ?_; rintro e w' ⟨rfl, rfl⟩
  go_wp2_with fail
  refine (imneg_least a HN.out _).mono ?_; rintro e w' ⟨rfl, rfl⟩
  go_wp2_with fail
  refine (spneg_least a HN.out _).mono ?_; rintro e w' ⟨rfl, rfl⟩
  go_wp2_with fail
  go_ret
  exact ⟨by simp, Grown.refl _⟩
set_option maxHeartbeats 400000 in
theorem law_oion (a b : Int) (h0 : InR a) (h1 : InR b) (hadd : ¬ InR (a + b)) (hsub : InR (a - b)) (hmul : ¬ InR (a * b)) (hneg : ¬ a = -9223372036854775808) (w : World) :
    Calls Try.prog 5 #[.int .i64 a, .int .i64 b] w fun e w' => e = .returned (.bool true) ∧ Grown w w' := by
  have hn1 : (a != -9223372036854775808) = true := by simpa using hneg
  have hb1 : -9223372036854775807 ≤ a := by unfold InR at h0; omega
  have hb2 : a ≤ 9223372036854775807 := by unfold InR at h0; omega
  have HN := Lib.hid hneg
  clear hneg
  go_enter Try.func5, Try.ntmps5
  go_wp2_with fail
  refine (imadd_out a b h0 h1 hadd _).mono ?_; rintro e w' ⟨rfl, rfl⟩
  go_wp2_with fail
  refine (spadd_out a b h0 h1 hadd _).mono ?_; rintro e w' ⟨rfl, rfl⟩
  go_wp2_with fail
  refine (imsub_in a b h0 h1 hsub _).mono ?_; rintro e w' ⟨rfl, rfl⟩
  go_wp2_with fail
  refine (spsub_in a b h0 h1 hsub _).mono ?_; rintro e w' ⟨rfl, rfl⟩
  go_wp2_with fail
  refine (mulLongs_out a b h0 h1 hmul _).mono ?_; rintro e w' ⟨rfl, rfl⟩
  go_wp2_with fail
  refine (spmul_out a b h0 h1 hmul _).mono ?_; rintro e w' ⟨rfl, rfl⟩
  go_wp2_with fail
  refine (imneg_in a h0 HN.out _).mono ?_; rintro e w' ⟨rfl, rfl⟩
  go_wp2_with fail
  refine (spneg_in a h0 HN.out _).mono ?_; rintro e w' ⟨rfl, rfl⟩
  go_wp2_with fail
  go_ret
  exact ⟨by simp, Grown.refl _⟩
set_option maxHeartbeats 400000 in
theorem law_oiol (a b : Int) (h0 : InR a) (h1 : InR b) (hadd : ¬ InR (a + b)) (hsub : InR (a - b)) (hmul : ¬ InR (a * b)) (hneg : a = -9223372036854775808) (w : World) :
    Calls Try.prog 5 #[.int .i64 a, .int .i64 b] w fun e w' => e = .returned (.bool true) ∧ Grown w w' := by
  have hn1 : (a != -9223372036854775808) = false := by simpa using hneg
  have HN := Lib.hid hneg
  clear hneg
  go_enter Try.func5, Try.ntmps5
  go_wp2_with fail
  refine (imadd_out a b h0 h1 hadd _).mono ?_; rintro e w' ⟨rfl, rfl⟩
  go_wp2_with fail
  refine (spadd_out a b h0 h1 hadd _).mono ?_; rintro e w' ⟨rfl, rfl⟩
  go_wp2_with fail
  refine (imsub_in a b h0 h1 hsub _).mono ?_; rintro e w' ⟨rfl, rfl⟩
  go_wp2_with fail
  refine (spsub_in a b h0 h1 hsub _).mono ?_; rintro e w' ⟨rfl, rfl⟩
  go_wp2_with fail
  refine (mulLongs_out a b h0 h1 hmul _).mono ?_; rintro e w' ⟨rfl, rfl⟩
  go_wp2_with fail
  refine (spmul_out a b h0 h1 hmul _).mono ?_; rintro e w' ⟨rfl, rfl⟩
  go_wp2_with fail
  refine (imneg_least a HN.out _).mono ?_; rintro e w' ⟨rfl, rfl⟩
  go_wp2_with fail
  refine (spneg_least a HN.out _).mono ?_; rintro e w' ⟨rfl, rfl⟩
  go_wp2_with fail
  go_ret
  exact ⟨by simp, Grown.refl _⟩
set_option maxHeartbeats 400000 in
theorem law_ooin (a b : Int) (h0 : InR a) (h1 : InR b) (hadd : ¬ InR (a + b)) (hsub : ¬ InR (a - b)) (hmul : InR (a * b)) (hneg : ¬ a = -9223372036854775808) (w : World) :
    Calls Try.prog 5 #[.int .i64 a, .int .i64 b] w fun e w' => e = .returned (.bool true) ∧ Grown w w' := by
  have hn1 : (a != -9223372036854775808) = true := by simpa using hneg
  have hb1 : -9223372036854775807 ≤ a := by unfold InR at h0; omega
  have hb2 : a ≤ 9223372036854775807 := by unfold InR at h0; omega
  have HN := Lib.hid hneg
  clear hneg
  go_enter Try.func5, Try.ntmps5
  go_wp2_with fail
  refine (imadd_out a b h0 h1 hadd _).mono ?_; rintro e w' ⟨rfl, rfl⟩
  go_wp2_with fail
  refine (spadd_out a b h0 h1 hadd _).mono ?_; rintro e w' ⟨rfl, rfl⟩
  go_wp2_with fail
  refine (imsub_out a b h0 h1 hsub _).mono ?_; rintro e w' ⟨rfl, rfl⟩
  go_wp2_with fail
  refine (spsub_out a b h0 h1 hsub _).mono ?_; rintro e w' ⟨rfl, rfl⟩
  go_wp2_with fail
  refine (mulLongs_in a b h0 h1 hmul _).mono ?_; rintro e w' ⟨rfl, rfl⟩
  go_wp2_with fail
  refine (spmul_in a b h0 h1 hmul _).mono ?_; rintro e w' ⟨rfl, rfl⟩
  go_wp2_with fail
  refine (imneg_in a h0 HN.out _).mono ?_; rintro e w' ⟨rfl, rfl⟩
  go_wp2_with fail
  refine (spneg_in a h0 HN.out _).mono ?_; rintro e w' ⟨rfl, rfl⟩
  go_wp2_with fail
  go_ret
  exact ⟨by simp, Grown.refl _⟩
set_option maxHeartbeats 400000 in
theorem law_ooil (a b : Int) (h0 : InR a) (h1 : InR b) (hadd : ¬ InR (a + b)) (hsub : ¬ InR (a - b)) (hmul : InR (a * b)) (hneg : a = -9223372036854775808) (w : World) :
    Calls Try.prog 5 #[.int .i64 a, .int .i64 b] w fun e w' => e = .returned (.bool true) ∧ Grown w w' := by
  have hn1 : (a != -9223372036854775808) = false := by simpa using hneg
  have HN := Lib.hid hneg
  clear hneg
  go_enter Try.func5, Try.ntmps5
  go_wp2_with fail
  refine (imadd_out a b h0 h1 hadd _).mono ?_; rintro e w' ⟨rfl, rfl⟩
  go_wp2_with fail
  refine (spadd_out a b h0 h1 hadd _).mono ?_; rintro e w' ⟨rfl, rfl⟩
  go_wp2_with fail
  refine (imsub_out a b h0 h1 hsub _).mono ?_; rintro e w' ⟨rfl, rfl⟩
  go_wp2_with fail
  refine (spsub_out a b h0 h1 hsub _).mono ?_; rintro e w' ⟨rfl, rfl⟩
  go_wp2_with fail
  refine (mulLongs_in a b h0 h1 hmul _).mono ?_; rintro e w' ⟨rfl, rfl⟩
  go_wp2_with fail
  refine (spmul_in a b h0 h1 hmul _).mono ?_; rintro e w' ⟨rfl, rfl⟩
  go_wp2_with fail
  refine (imneg_least a HN.out _).mono ?_; rintro e w' ⟨rfl, rfl⟩
  go_wp2_with fail
  refine (spneg_least a HN.out _).mono ?_; rintro e w' ⟨rfl, rfl⟩
  go_wp2_with fail
  go_ret
  exact ⟨by simp, Grown.refl _⟩
set_option maxHeartbeats 400000 in
theorem law_ooon (a b : Int) (h0 : InR a) (h1 : InR b) (hadd : ¬ InR (a + b)) (hsub : ¬ InR (a - b)) (hmul : ¬ InR (a * b)) (hneg : ¬ a = -9223372036854775808) (w : World) :
    Calls Try.prog 5 #[.int .i64 a, .int .i64 b] w fun e w' => e = .returned (.bool true) ∧ Grown w w' := by
  have hn1 : (a != -9223372036854775808) = true := by simpa using hneg
  have hb1 : -9223372036854775807 ≤ a := by unfold InR at h0; omega
  have hb2 : a ≤ 9223372036854775807 := by unfold InR at h0; omega
  have HN := Lib.hid hneg
  clear hneg
  go_enter Try.func5, Try.ntmps5
  go_wp2_with fail
  refine (imadd_out a b h0 h1 hadd _).mono ?_; rintro e w' ⟨rfl, rfl⟩
  go_wp2_with fail
  refine (spadd_out a b h0 h1 hadd _).mono ?_; rintro e w' ⟨rfl, rfl⟩
  go_wp2_with fail
  refine (imsub_out a b h0 h1 hsub _).mono ?_; rintro e w' ⟨rfl, rfl⟩
  go_wp2_with fail
  refine (spsub_out a b h0 h1 hsub _).mono ?_; rintro e w' ⟨rfl, rfl⟩
  go_wp2_with fail
  refine (mulLongs_out a b h0 h1 hmul _).mono ?_; rintro e w' ⟨rfl, rfl⟩
  go_wp2_with fail
  refine (spmul_out a b h0 h1 hmul _).mono ?_; rintro e w' ⟨rfl, rfl⟩
  go_wp2_with fail
  refine (imneg_in a h0 HN.out _).mono ?_; rintro e w' ⟨rfl, rfl⟩
  go_wp2_with fail
  refine (spneg_in a h0 HN.out _).mono ?_; rintro e w' ⟨rfl, rfl⟩
  go_wp2_with fail
  go_ret
  exact ⟨by simp, Grown.refl _⟩
set_option maxHeartbeats 400000 in
theorem law_oool (a b : Int) (h0 : InR a) (h1 : InR b) (hadd : ¬ InR (a + b)) (hsub : ¬ InR (a - b)) (hmul : ¬ InR (a * b)) (hneg : a = -9223372036854775808) (w : World) :
    Calls Try.prog 5 #[.int .i64 a, .int .i64 b] w fun e w' => e = .returned (.bool true) ∧ Grown w w' := by
  have hn1 : (a != -9223372036854775808) = false := by simpa using hneg
  have HN := Lib.hid hneg
  clear hneg
  go_enter Try.func5, Try.ntmps5
  go_wp2_with fail
  refine (imadd_out a b h0 h1 hadd _).mono ?_; rintro e w' ⟨rfl, rfl⟩
  go_wp2_with fail
  refine (spadd_out a b h0 h1 hadd _).mono ?_; rintro e w' ⟨rfl, rfl⟩
  go_wp2_with fail
  refine (imsub_out a b h0 h1 hsub _).mono ?_; rintro e w' ⟨rfl, rfl⟩
  go_wp2_with fail
  refine (spsub_out a b h0 h1 hsub _).mono ?_; rintro e w' ⟨rfl, rfl⟩
  go_wp2_with fail
  refine (mulLongs_out a b h0 h1 hmul _).mono ?_; rintro e w' ⟨rfl, rfl⟩
  go_wp2_with fail
  refine (spmul_out a b h0 h1 hmul _).mono ?_; rintro e w' ⟨rfl, rfl⟩
  go_wp2_with fail
  refine (imneg_least a HN.out _).mono ?_; rintro e w' ⟨rfl, rfl⟩
  go_wp2_with fail
  refine (spneg_least a HN.out _).mono ?_; rintro e w' ⟨rfl, rfl⟩
  go_wp2_with fail
  go_ret
  exact ⟨by simp, Grown.refl _⟩
theorem law_longs (a b : Int) (h0 : InR a) (h1 : InR b) (w : World) :
    Calls Try.prog 5 #[.int .i64 a, .int .i64 b] w fun e w' => e = .returned (.bool true) ∧ Grown w w' := by
  by_cases hneg : a = -9223372036854775808
  · skip
    by_cases hadd : InR (a + b)
    · by_cases hsub : InR (a - b)
      · by_cases hmul : InR (a * b)
        · exact law_iiil a b h0 h1 hadd hsub hmul hneg w
        · exact law_iiol a b h0 h1 hadd hsub hmul hneg w
      · by_cases hmul : InR (a * b)
        · exact law_ioil a b h0 h1 hadd hsub hmul hneg w
        · exact law_iool a b h0 h1 hadd hsub hmul hneg w
    · by_cases hsub : InR (a - b)
      · by_cases hmul : InR (a * b)
        · exact law_oiil a b h0 h1 hadd hsub hmul hneg w
        · exact law_oiol a b h0 h1 hadd hsub hmul hneg w
      · by_cases hmul : InR (a * b)
        · exact law_ooil a b h0 h1 hadd hsub hmul hneg w
        · exact law_oool a b h0 h1 hadd hsub hmul hneg w
  · skip
    by_cases hadd : InR (a + b)
    · by_cases hsub : InR (a - b)
      · by_cases hmul : InR (a * b)
        · exact law_iiin a b h0 h1 hadd hsub hmul hneg w
        · exact law_iion a b h0 h1 hadd hsub hmul hneg w
      · by_cases hmul : InR (a * b)
        · exact law_ioin a b h0 h1 hadd hsub hmul hneg w
        · exact law_ioon a b h0 h1 hadd hsub hmul hneg w
    · by_cases hsub : InR (a - b)
      · by_cases hmul : InR (a * b)
        · exact law_oiin a b h0 h1 hadd hsub hmul hneg w
        · exact law_oion a b h0 h1 hadd hsub hmul hneg w
      · by_cases hmul : InR (a * b)
        · exact law_ooin a b h0 h1 hadd hsub hmul hneg w
        · exact law_ooon a b h0 h1 hadd hsub hmul hneg w
end Go.Proofs.Ytjcjappbopjgkaa
