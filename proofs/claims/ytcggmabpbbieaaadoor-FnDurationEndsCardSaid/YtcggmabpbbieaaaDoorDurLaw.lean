import Derived.Test.YtcggmabpbbieaaaDoorDur
/-
  spec.DurationText and FnDurationText: the text of a duration.
-/
namespace Go.Proofs.YtcggmabpbbieaaaDoor
open Go.RowKit Go.Sort
def uSize (k : Nat) : Nat := match k with | 0 => 86400000 | 1 => 3600000 | 2 => 60000 | 3 => 1000 | _ => 1
def uName (k : Nat) : List UInt8 := match k with | 0 => [100] | 1 => [104] | 2 => [109] | 3 => [115] | _ => [109, 115]
def rem (N : Nat) : Nat → Nat
  | 0 => N
  | k + 1 => rem N k % uSize k
def txt (N : Nat) : Nat → List UInt8
  | 0 => []
  | k + 1 => txt N k ++ dp (rem N k / uSize k) (uName k)
theorem txt_five (N : Nat) : txt N 5 = durBody N := by
  simp [txt, rem, uSize, uName, durBody]
theorem unitSize (k : Nat) (h : k < 5) (w : World) : Calls Tryd.prog 20 #[.int .i64 k] w fun e w' => e = .returned (.int .i64 (uSize k)) ∧ w = w' := by
  match k, h with
  | 0, _ => go_enter Tryd.func20, Tryd.ntmps20; go_wp2; go_ret; exact ⟨rfl, rfl⟩
  | 1, _ => go_enter Tryd.func20, Tryd.ntmps20; go_wp2; go_ret; exact ⟨rfl, rfl⟩
  | 2, _ => go_enter Tryd.func20, Tryd.ntmps20; go_wp2; go_ret; exact ⟨rfl, rfl⟩
  | 3, _ => go_enter Tryd.func20, Tryd.ntmps20; go_wp2; go_ret; exact ⟨rfl, rfl⟩
  | 4, _ => go_enter Tryd.func20, Tryd.ntmps20; go_wp2; go_ret; exact ⟨rfl, rfl⟩
theorem unitName (k : Nat) (h : k < 5) (w : World) : Calls Tryd.prog 21 #[.int .i64 k] w fun e w' => e = .returned (.string ⟨(uName k).toArray⟩) ∧ w = w' := by
  match k, h with
  | 0, _ => go_enter Tryd.func21, Tryd.ntmps21; go_wp2; go_ret; exact ⟨rfl, rfl⟩
  | 1, _ => go_enter Tryd.func21, Tryd.ntmps21; go_wp2; go_ret; exact ⟨rfl, rfl⟩
  | 2, _ => go_enter Tryd.func21, Tryd.ntmps21; go_wp2; go_ret; exact ⟨rfl, rfl⟩
  | 3, _ => go_enter Tryd.func21, Tryd.ntmps21; go_wp2; go_ret; exact ⟨rfl, rfl⟩
  | 4, _ => go_enter Tryd.func21, Tryd.ntmps21; go_wp2; go_ret; exact ⟨rfl, rfl⟩
theorem uSize_ge (k : Nat) : 1 ≤ uSize k ∧ uSize k ≤ 86400000 := by
  unfold uSize; split <;> decide
theorem uName_le (k : Nat) : (uName k).length ≤ 2 := by
  unfold uName; split <;> decide
theorem specDur (n : Int) (h0 : -9223372036854775808 < n) (h1 : n ≤ 9223372036854775807) (w : World) :
    Calls Tryd.prog 12 #[.int .i64 n] w fun e w' => e = .returned (.string ⟨(durText n).toArray⟩) ∧ w = w' := by
  have cS : ∀ k : Nat, k < 5 → ∀ w, _ := fun k h w => unitSize k h w
  have cN : ∀ k : Nat, k < 5 → ∀ w, _ := fun k h w => unitName k h w
  have cM : ∀ q : Int, _ → _ → ∀ w, _ := fun q h0 h1 w => mag q h0 h1 w
  have CS := Lib.hid cS
  have CN := Lib.hid cN
  have CM := Lib.hid cM
  clear cS cN cM
  cases hz : (n == 0) with
  | true =>
    have hn : n = 0 := by simpa using hz
    have HN := Lib.hid hn
    clear hn
    go_enter Tryd.func12, Tryd.ntmps12
    go_wp2
    go_ret
    exact ⟨by rw [HN.out]; rfl, rfl⟩
  | false =>
    have hn : n ≠ 0 := by simpa using hz
    have HD : Hid (durText n = sgn n ++ txt n.natAbs 5) := Lib.hid (by rw [txt_five]; exact if_neg hn)
    clear hn
    have hN1 : n.natAbs ≤ 9223372036854775807 := by omega
    go_enter Tryd.func12, Tryd.ntmps12
    go_wp2
    go_loopg [3, 4, 5, 6] 5 (fun gk s3 s4 s5 s6 wr => ∃ (k : Nat) (l : List UInt8) (L : Int), s3 = .string ⟨l.toArray⟩ ∧ s4 = .int .i64 L ∧ s5 = .int .i64 k ∧ k + gk = 5 ∧ l.length ≤ 22 * k ∧ -9223372036854775808 < L ∧ L ≤ 9223372036854775807 ∧ wr = w ∧ Aside (l = txt n.natAbs k ∧ L.natAbs = rem n.natAbs k))
    case atStart => exact ⟨0, [], n, rfl, rfl, rfl, rfl, by simp, h0, h1, rfl, rfl, rfl⟩
    case round =>
      obtain ⟨k, l, L, rfl, rfl, rfl, hkg, hl, hL0, hL1, rfl, HA⟩ := hrel
      cases gk with
      | zero =>
        have hk : ¬ (k ≤ 4) := by omega
        have hk' : ¬ ((k : Int) ≤ 4) := by omega
        have HK := Lib.hid hkg
        have hk5 : k ≤ 5 := by omega
        clear hkg
        have l1 : ¬ (9223372036854775807 < 1 + l.length) := by omega
        rcases Int.lt_or_le n 0 with hs | hs
        · have HS := Lib.hid hs
          go_wp2
          go_ret
          refine ⟨?_, rfl⟩
          have hk5 : k = 5 := by have := HK.out; omega
          rw [HD.out, sgn, if_pos HS.out, ← hk5, ← HA.out.1]; rfl
        · have HS := Lib.hid hs
          go_wp2
          go_ret
          refine ⟨?_, rfl⟩
          have hk5 : k = 5 := by have := HK.out; omega
          have hng : ¬ (n < 0) := by have := HS.out; omega
          rw [HD.out, sgn, if_neg hng, ← hk5, ← HA.out.1]; rfl
      | succ gk =>
        have hk : k ≤ 4 := by omega
        have hk' : (k : Int) ≤ 4 := by omega
        have HK := Lib.hid hkg
        clear hkg
        obtain ⟨M, hM⟩ : ∃ M : Nat, uSize k = M := ⟨_, rfl⟩
        have hM1 := (uSize_ge k).1
        have hM2 := (uSize_ge k).2
        have cS1 := CS.out k (by omega) wr
        have cN1 := CN.out k (by omega) wr
        rw [hM] at hM1 hM2 cS1
        obtain ⟨U, hU⟩ : ∃ U : List UInt8, uName k = U := ⟨_, rfl⟩
        have hU2 := uName_le k
        rw [hU] at hU2 cN1
        have HM := Lib.hid hM
        have HU := Lib.hid hU
        have CS1 := Lib.hid cS1
        have CN1 := Lib.hid cN1
        clear hM hU cS1 cN1
        obtain ⟨Q, hQ⟩ : ∃ Q : Int, Int.tdiv L M = Q := ⟨_, rfl⟩
        obtain ⟨R, hR⟩ : ∃ R : Int, Int.tmod L M = R := ⟨_, rfl⟩
        have hQn : Q.natAbs = L.natAbs / M := by rw [← hQ, Int.natAbs_tdiv]; rfl
        have hRn : R.natAbs = L.natAbs % M := by rw [← hR, Int.natAbs_tmod]; rfl
        have hQle : L.natAbs / M ≤ L.natAbs := Nat.div_le_self _ _
        have hRle : L.natAbs % M < M := Nat.mod_lt _ (by omega)
        have hQ0 : -9223372036854775808 < Q := by omega
        have hQ1 : Q ≤ 9223372036854775807 := by omega
        have hR0 : -9223372036854775808 < R := by omega
        have hR1 : R ≤ 9223372036854775807 := by omega
        have CM1 := Lib.hid (CM.out Q (by omega) hQ1 wr)
        have w1 : IntKind.i64.wrap Q = Q := wrap_id (by omega) (by omega)
        have w2 : IntKind.i64.wrap R = R := wrap_id (by omega) (by omega)
        have HQn := Lib.hid hQn
        have HRn := Lib.hid hRn
        have hD := dig20 Q.natAbs (by omega)
        clear hQn hRn hQle hRle
        have hM0 : ¬ ((M : Int) = 0) := by omega
        have hM0' : ((M : Int) == 0) = false := beq_eq_false_iff_ne.2 hM0
        rcases Classical.em (Q = 0) with hq | hq
        · have hq2 : (Q == 0) = true := by simp [hq]
          have HQ0 := Lib.hid hq
          clear hq
          go_wp2_with (first | (refine CS1.out.mono ?_; rintro e w' ⟨rfl, rfl⟩) | (refine CN1.out.mono ?_; rintro e w' ⟨rfl, rfl⟩) | (refine CM1.out.mono ?_; rintro e w' ⟨rfl, rfl⟩))
          go_roundg gk
          case measure => omega
          case rel =>
            refine ⟨k + 1, l, R, rfl, rfl, by congr 1, by have := HK.out; omega, by omega, hR0, hR1, rfl, ?_, ?_⟩
            · have e0 : rem n.natAbs k / uSize k = 0 := by rw [HM.out, ← HA.out.2, ← HQn.out, HQ0.out]; rfl
              rw [txt, dp_zero e0]; exact HA.out.1
            · rw [rem, HM.out, ← HA.out.2]; exact HRn.out
        · have hq2 : (Q == 0) = false := by simp [hq]
          have HQ0 := Lib.hid hq
          clear hq
          generalize hDD : Lib.decDigits Q.natAbs = D at *
          have HDD := Lib.hid hDD
          clear hDD
          have n1 : ¬ (9223372036854775807 < D.length + U.length) := by omega
          have n2 : ¬ (9223372036854775807 < l.length + (D.length + U.length)) := by omega
          go_wp2_with (first | (refine CS1.out.mono ?_; rintro e w' ⟨rfl, rfl⟩) | (refine CN1.out.mono ?_; rintro e w' ⟨rfl, rfl⟩) | (refine CM1.out.mono ?_; rintro e w' ⟨rfl, rfl⟩))
          go_roundg gk
          case measure => omega
          case rel =>
            refine ⟨k + 1, l ++ (D ++ U), R, rfl, rfl, by congr 1, by have := HK.out; omega, by simp; omega, hR0, hR1, rfl, ?_, ?_⟩
            · have e0 : 0 < rem n.natAbs k / uSize k := by rw [HM.out, ← HA.out.2, ← HQn.out]; have := HQ0.out; omega
              rw [txt, dp_pos e0, HU.out, HM.out, ← HA.out.2, ← HQn.out, HDD.out, List.append_assoc, ← HA.out.1]
            · rw [rem, HM.out, ← HA.out.2]; exact HRn.out
theorem durString (n : Int) (hz : (n == 0) = true) (w : World) : Calls Tryd.prog 19 #[.agg #[.int .i64 n]] w fun e w' => e = .returned (.string ⟨(durText n).toArray⟩) ∧ Below w.heap.size w w' := by
  have hn : n = 0 := by simpa using hz
  have HN := Lib.hid hn
  clear hn
  go_enter Tryd.func19, Tryd.ntmps19
  go_wp2
  go_ret
  exact ⟨by rw [HN.out]; rfl, ((Below.refl _ _).alloc (Nat.le_refl _) _).alloc (by show _ ≤ (w.heap.push _).size; rw [Array.size_push]; omega) _⟩
theorem durStr (n : Int) (h0 : -9223372036854775808 < n) (h1 : n ≤ 9223372036854775807) (w : World) (ht : Tab w) : Calls Tryd.prog 19 #[.agg #[.int .i64 n]] w fun e w' => e = .returned (.string ⟨(durText n).toArray⟩) ∧ Below w.heap.size w w' := by
  cases hz : (n == 0) with
  | true => exact durString n hz w
  | false =>
    have hn : n ≠ 0 := by simpa using hz
    refine (durWalk n.natAbs _ _ _ _ _ _ _ _ n hz h0 h1 rfl rfl rfl rfl rfl rfl rfl rfl rfl w ht).mono ?_
    rintro e w' ⟨rfl, hb⟩
    refine ⟨?_, hb⟩
    rw [durText, if_neg hn, durBody]
    simp only [List.append_assoc]
theorem newDur (n : Int) (w : World) : Calls Tryd.prog 18 #[.int .i64 n] w fun e w' => e = .returned (.agg #[.int .i64 n]) ∧ Below w.heap.size w w' := by
  have hc : (w.alloc (Obj.cells #[Value.int IntKind.i64 n] 35)).cell? ⟨w.heap.size, 0, none⟩ = some (.int .i64 n) := alloc_cell w _ 35 0
  go_enter Tryd.func18, Tryd.ntmps18
  go_wp2
  exact bodyPost_ret (v := .agg #[.int .i64 n]) (by simp [results, Tryd.results18, go_sem, hc]) rfl ⟨rfl, (Below.refl _ _).alloc (Nat.le_refl _) _⟩
theorem implDur (n : Int) (h0 : -9223372036854775808 < n) (h1 : n ≤ 9223372036854775807) (w : World) (ht : Tab w) :
    Calls Tryd.prog 11 #[.int .i64 n] w fun e w' => e = .returned (.string ⟨(durText n).toArray⟩) ∧ Below w.heap.size w w' := by
  have cZ := Lib.hid (newDur n)
  have cS := Lib.hid (durStr n h0 h1)
  have HT := Lib.hid ht
  clear ht
  go_enter Tryd.func11, Tryd.ntmps11
  go_wp2_with fail
  refine (cZ.out _).mono ?_
  rintro e w1 ⟨rfl, hb1⟩
  have HB1 := Lib.hid hb1
  clear hb1
  go_wp2_with fail
  refine (cS.out _ (tab_below HT.out HB1.out)).mono ?_
  rintro e w2 ⟨rfl, hb2⟩
  have HB2 := Lib.hid (HB1.out.trans (hb2.mono HB1.out.size))
  clear hb2
  go_wp2
  go_ret
  exact ⟨rfl, HB2.out⟩
theorem lawDur (n : Int) (h0 : -9223372036854775808 ≤ n) (h1 : n ≤ 9223372036854775807) (w : World) (ht : Tab w) :
    Calls Tryd.prog 5 #[.int .i64 n] w fun e w' => e = .returned (.bool true) ∧ Below w.heap.size w w' := by
  cases hl : (n == -9223372036854775808) with
  | true =>
    go_enter Tryd.func5, Tryd.ntmps5
    go_wp2
    go_ret
    exact ⟨rfl, Below.refl _ _⟩
  | false =>
    have hlt : -9223372036854775808 < n := by have : n ≠ -9223372036854775808 := by simpa using hl
                                              omega
    have cI := Lib.hid (implDur n hlt h1)
    have cS := Lib.hid (specDur n hlt h1)
    have HT := Lib.hid ht
    clear ht hlt
    go_enter Tryd.func5, Tryd.ntmps5
    go_wp2_with fail
    refine (cI.out _ HT.out).mono ?_
    rintro e w1 ⟨rfl, hb1⟩
    have HB1 := Lib.hid hb1
    clear hb1
    go_wp2_with fail
    refine (cS.out _).mono ?_
    rintro e w2 ⟨rfl, rfl⟩
    go_wp2
    all_goals go_ret
    exact ⟨rfl, HB1.out⟩
end Go.Proofs.YtcggmabpbbieaaaDoor
