import Derived.Test.YtjcjappbopjgkaaDoorNew
/-
  laws.scaled, impl.NewDecimal, FnDecimalMakes: the walks.
-/
namespace Go.Proofs.YtjcjappbopjgkaaDoor
open Go.RowKit Go.Sort
def Res2 (Y v : Int) (b : Bool) : Prop := (InR Y ∧ v = Y ∧ b = true) ∨ (¬ InR Y ∧ v = 0 ∧ b = false)
def ScEnd (Y : Int) (e : Ending) : Prop := ∃ v b, e = .returned (.tuple #[.int .i64 v, .bool b]) ∧ Res2 Y v b
theorem grow_out {N : Int} (h : 922337203685477580 < N ∨ N < -922337203685477580) (j : Nat) : ¬ InR (N * (10 ^ (j + 1) : Nat)) := by
  have hp : (10 : Int) ≤ (10 ^ (j + 1) : Nat) := by
    have : 10 ^ 1 ≤ 10 ^ (j + 1) := Nat.pow_le_pow_right (by decide) (by omega)
    omega
  unfold InR
  rcases h with h | h
  · have h1 : N * 10 ≤ N * (10 ^ (j + 1) : Nat) := Int.mul_le_mul_of_nonneg_left hp (by omega)
    omega
  · have h1 : (-N) * 10 ≤ (-N) * (10 ^ (j + 1) : Nat) := Int.mul_le_mul_of_nonneg_left hp (by omega)
    rw [Int.neg_mul, Int.neg_mul] at h1
    omega
theorem scaled (n : Int) (times : Nat) (w : World) (hn : InR n) (ht : times ≤ 100) :
    Calls Tryd.prog 4 #[.int .i64 n, .int .i64 times] w fun e w' => ScEnd (n * (10 ^ times : Nat)) e ∧ w' = w := by
  have HN := Lib.hid hn
  clear hn
  go_enter Tryd.func4, Tryd.ntmps4
  go_wp2
  go_loopg [0, 6] times (fun gk s0 s6 wr => ∃ (k : Nat) (N : Int), s0 = .int .i64 N ∧ s6 = .int .i64 k ∧ k + gk = times ∧ wr = w ∧ Aside (N = n * (10 ^ k : Nat) ∧ InR N))
  case atStart => exact ⟨0, n, rfl, rfl, by omega, rfl, by simp, HN.out⟩
  case round =>
    obtain ⟨k, N, rfl, rfl, hkg, rfl, HA⟩ := hrel
    have hN0 := HA.out.2.1
    have hN1 := HA.out.2.2
    cases gk with
    | zero =>
      have hk : ¬ ((k : Int) < times) := by omega
      have HK := Lib.hid hkg
      clear hkg
      go_wp2
      refine bodyPost_ret (v := .tuple #[.int .i64 N, .bool true]) (by simp [results, Tryd.results4, go_sem]) rfl ?_
      have e : k = times := by have := HK.out; omega
      have e2 : Res2 (n * (10 ^ times : Nat)) N true := by
        rw [← e, ← HA.out.1]
        exact .inl ⟨HA.out.2, rfl, rfl⟩
      exact ⟨⟨N, true, rfl, by first | exact e2 | simpa using e2⟩, rfl⟩
    | succ gk =>
      have hk : (k : Int) < times := by omega
      have HK := Lib.hid hkg
      clear hkg
      have bad : (922337203685477580 < N ∨ N < -922337203685477580) → ¬ InR (n * (10 ^ times : Nat)) := by
        intro h
        have e : times = k + (gk + 1) := HK.out.symm
        have e2 := grow_out h gk
        rw [HA.out.1] at e2
        rw [e, Nat.pow_add, Int.natCast_mul, ← Int.mul_assoc]
        exact e2
      rcases Classical.em (922337203685477580 < N) with h1 | h1
      · have BAD := Lib.hid (bad (.inl h1))
        clear bad
        go_wp2
        refine bodyPost_ret (v := .tuple #[.int .i64 0, .bool false]) (by simp [results, Tryd.results4, go_sem]) rfl ?_
        have e2 : Res2 (n * (10 ^ times : Nat)) 0 false := .inr ⟨BAD.out, rfl, rfl⟩
        exact ⟨⟨0, false, rfl, by first | exact e2 | simpa using e2⟩, rfl⟩
      · rcases Classical.em (N < -922337203685477580) with h2 | h2
        · have BAD := Lib.hid (bad (.inr h2))
          clear bad
          go_wp2
          refine bodyPost_ret (v := .tuple #[.int .i64 0, .bool false]) (by simp [results, Tryd.results4, go_sem]) rfl ?_
          have e2 : Res2 (n * (10 ^ times : Nat)) 0 false := .inr ⟨BAD.out, rfl, rfl⟩
          exact ⟨⟨0, false, rfl, by first | exact e2 | simpa using e2⟩, rfl⟩
        · have m1 : IntKind.i64.wrap (N * 10) = N * 10 := wrap_id (by omega) (by omega)
          have hin : InR (N * 10) := by unfold InR; omega
          have HIN := Lib.hid hin
          have ht9 : (times : Int) ≤ 100 := by omega
          clear bad hin
          go_wp2
          go_roundg gk
          case measure => omega
          case rel =>
            refine ⟨k + 1, N * 10, rfl, by congr 1, by have := HK.out; omega, rfl, ?_, HIN.out⟩
            rw [HA.out.1, Nat.pow_succ, Int.natCast_mul, Int.mul_assoc]; rfl
theorem zz10 (n : Int) (w : World) : Calls Tryd.prog 7 #[.agg #[.int .i64 n]] w fun e w' => e = .returned (.int .i64 n) ∧ Below w.heap.size w w' := by
  go_enter Tryd.func7, Tryd.ntmps7
  go_wp2
  go_ret
  exact ⟨rfl, (Below.refl _ _).alloc (Nat.le_refl _) _⟩
/-- What NewDecimal answers, whatever i and the exponent from -4 to 14 (an exponent above 0: where the product fits). -/
def NewIs (i x X : Int) (a : Addr) : Prop := ∀ w, Tabs w → w.cell? ⟨0, 0, none⟩ = some (.iface 42 (.pointer (some a))) →
  Calls Tryd.prog 6 #[.int .i64 i, .int .i64 x] w fun e w' => (∃ v E, e = .returned (.tuple #[.agg #[.int .i64 v], E]) ∧ Res a X v E) ∧ Below w.heap.size w w'
theorem implNew (i x X : Int) (a : Addr) (w : World) (hN : NewIs i x X a) (hT : Tabs w) (hE : w.cell? ⟨0, 0, none⟩ = some (.iface 42 (.pointer (some a)))) :
    Calls Tryd.prog 5 #[.int .i64 i, .int .i64 x] w fun e w' => ScEnd X e ∧ Below w.heap.size w w' := by
  have cP := Lib.hid (hN w hT hE)
  clear hT hE hN
  go_enter Tryd.func5, Tryd.ntmps5
  go_wp2_with fail
  refine cP.out.mono ?_
  rintro e w1 ⟨⟨v, E, rfl, hor⟩, hb⟩
  have HB := Lib.hid hb
  have HOR := Lib.hid hor
  clear hb hor
  rcases HOR.out with ⟨hin, hv, hEE⟩ | ⟨hin, hv, hEE⟩
  · obtain rfl := hEE
    have HIN := Lib.hid hin
    have HV := Lib.hid hv
    clear HOR hin hv
    go_wp2
    refine wp_region_quiet_below (by kernel_rfl) (by kernel_rfl) ?_
    have c0 := alloc_cell w1 #[.int .i64 v] 26 0
    have hB2 : Below w.heap.size w (w1.alloc (Obj.cells #[Value.int IntKind.i64 v] 26)) := HB.out.alloc HB.out.size _
    generalize w1.alloc (Obj.cells #[Value.int IntKind.i64 v] 26) = W1 at *
    have CZ := Lib.hid (fun d os => Calls.regrown_of (zz10 v (grow (redrawn W1 d) os)))
    have k0 := cell_regrown c0
    have HB2 := Lib.hid hB2
    clear hB2 c0
    repeat (quiet_step (exact CZ.out _ _))
    refine wpQuiet_nil ?_
    intro _ hw'
    obtain ⟨⟨dq, osq⟩, hw''⟩ := hw'
    subst hw''
    go_wp2
    refine bodyPost_ret (v := .tuple #[.int .i64 v, .bool true]) (by simp [results, Tryd.results5, go_sem]) rfl ?_
    exact ⟨⟨v, true, rfl, .inl ⟨HIN.out, HV.out, rfl⟩⟩, HB2.out.trans ((below_regrown W1 dq osq).mono HB2.out.size)⟩
  · obtain rfl := hEE
    have HIN := Lib.hid hin
    have HV := Lib.hid hv
    clear HOR hin hv
    go_wp2
    refine wp_region_quiet_below (by kernel_rfl) (by kernel_rfl) ?_
    have c0 := alloc_cell w1 #[.int .i64 v] 26 0
    have hB2 : Below w.heap.size w (w1.alloc (Obj.cells #[Value.int IntKind.i64 v] 26)) := HB.out.alloc HB.out.size _
    generalize w1.alloc (Obj.cells #[Value.int IntKind.i64 v] 26) = W1 at *
    have CZ := Lib.hid (fun d os => Calls.regrown_of (zz10 v (grow (redrawn W1 d) os)))
    have k0 := cell_regrown c0
    have HB2 := Lib.hid hB2
    clear hB2 c0
    repeat (quiet_step (exact CZ.out _ _))
    refine wpQuiet_nil ?_
    intro _ hw'
    obtain ⟨⟨dq, osq⟩, hw''⟩ := hw'
    subst hw''
    go_wp2
    refine bodyPost_ret (v := .tuple #[.int .i64 v, .bool false]) (by simp [results, Tryd.results5, go_sem]) rfl ?_
    exact ⟨⟨v, false, rfl, .inr ⟨HIN.out, HV.out, rfl⟩⟩, HB2.out.trans ((below_regrown W1 dq osq).mono HB2.out.size)⟩
end Go.Proofs.YtjcjappbopjgkaaDoor
