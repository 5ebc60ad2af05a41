import Derived.Test.YtjcjappbopjgkaaDoorScaled
/-
  FnDecimalMakes: the walk.
-/
namespace Go.Proofs.YtjcjappbopjgkaaDoor
open Go.RowKit Go.Sort
theorem same2 {X v u : Int} {b c : Bool} (h : Res2 X v b) (k : Res2 X u c) : (b == c) = true ∧ (v == u) = true := by
  rcases h with ⟨h1, h2, h3⟩ | ⟨h1, h2, h3⟩ <;> rcases k with ⟨k1, k2, k3⟩ | ⟨k1, k2, k3⟩
  · subst h2 h3 k2 k3; simp
  · exact absurd h1 k1
  · exact absurd k1 h1
  · subst h2 h3 k2 k3; simp
theorem law_out (i x : Int) (w : World) (h : x < -4 ∨ 14 < x) : Calls Tryd.prog 3 #[.int .i64 i, .int .i64 x] w fun e w' => e = .returned (.bool true) ∧ Below w.heap.size w w' := by
  rcases h with h | h
  · go_enter Tryd.func3, Tryd.ntmps3
    go_wp2
    go_ret
    exact ⟨rfl, Below.refl _ _⟩
  · have h2 : ¬ (x < -4) := by omega
    go_enter Tryd.func3, Tryd.ntmps3
    go_wp2
    go_ret
    exact ⟨rfl, Below.refl _ _⟩
theorem law_pos (i X : Int) (mx m4 : Nat) (hp : 0 < mx) (a : Addr) (w : World) (hi : InR i) (h1 : (mx : Int) ≤ 14) (hm4 : (mx : Int) + 4 = m4)
    (hX : i * (10 ^ m4 : Nat) = X) (hN : InR (i * (10 ^ mx : Nat)) → NewIs i (mx : Int) X a) (hT : Tabs w) (hE : w.cell? ⟨0, 0, none⟩ = some (.iface 42 (.pointer (some a)))) :
    Calls Tryd.prog 3 #[.int .i64 i, .int .i64 (mx : Int)] w fun e w' => e = .returned (.bool true) ∧ Below w.heap.size w w' := by
  have hp' : ¬ (mx : Int) ≤ 0 := by omega
  have hp2 : ¬ (mx : Int) < 0 := by omega
  have hp3 : (0 : Int) < mx := by omega
  have g1 : ¬ ((mx : Int) < -4) := by omega
  have g2 : ¬ (14 < (mx : Int)) := by omega
  have S1 := Lib.hid (fun w => scaled i mx w hi (by omega))
  have S2 := Lib.hid (fun w => scaled i m4 w hi (by omega))
  rw [hX] at S2
  have HN := Lib.hid hN
  have HT := Lib.hid hT
  have HE := Lib.hid hE
  have w1 : IntKind.i64.wrap (m4 : Int) = m4 := wrap_id (by omega) (by omega)
  clear hN hT hE hX hi
  go_enter Tryd.func3, Tryd.ntmps3
  go_wp2_with fail
  refine (S1.out w).mono ?_
  rintro e w' ⟨⟨v1, b1, rfl, hr1⟩, rfl⟩
  have HR1 := Lib.hid hr1
  clear hr1
  cases b1
  · go_wp2_with fail
    go_ret
    exact ⟨rfl, Below.refl _ _⟩
  have HI : InR (i * (10 ^ mx : Nat)) := by
    rcases HR1.out with ⟨h, _⟩ | ⟨_, _, h⟩
    · exact h
    · cases h
  have HNN := Lib.hid (HN.out HI)
  clear HI
  go_wp2_with fail
  refine (S2.out _).mono ?_
  rintro e w' ⟨⟨v2, b2, rfl, hr2⟩, rfl⟩
  have HR2 := Lib.hid hr2
  clear hr2
  go_wp2_with fail
  refine (implNew i _ X a _ HNN.out HT.out HE.out).mono ?_
  rintro e w' ⟨⟨v3, b3, rfl, hr3⟩, hb⟩
  have HB := Lib.hid hb
  have HS := same2 hr3 HR2.out
  clear hb hr3
  obtain ⟨HS1, HS2⟩ := HS
  have HS3 : b3 = b2 := by simpa using HS1
  have HS4 : v3 = v2 := by simpa using HS2
  subst HS3 HS4
  clear HS1 HS2
  cases b3
  · go_wp2_with fail
    go_ret
    exact ⟨rfl, HB.out⟩
  · go_wp2_with fail
    go_ret
    exact ⟨rfl, HB.out⟩
theorem law_neg (i x X : Int) (m4 : Nat) (hp : x < 0) (a : Addr) (w : World) (hi : InR i) (h0 : -4 ≤ x) (hm4 : x + 4 = m4)
    (hX : i * (10 ^ m4 : Nat) = X) (hN : InR (i * (10 ^ 0 : Nat)) → NewIs i x X a) (hT : Tabs w) (hE : w.cell? ⟨0, 0, none⟩ = some (.iface 42 (.pointer (some a)))) :
    Calls Tryd.prog 3 #[.int .i64 i, .int .i64 x] w fun e w' => e = .returned (.bool true) ∧ Below w.heap.size w w' := by
  have hp' : ¬ 0 < x := by omega
  have hp2 : ¬ 0 ≤ x := by omega
  have hp3 : x ≤ 0 := by omega
  have g1 : ¬ (x < -4) := by omega
  have g2 : ¬ (14 < x) := by omega
  have S1 := Lib.hid (fun w => scaled i 0 w hi (by omega))
  have S2 := Lib.hid (fun w => scaled i m4 w hi (by omega))
  rw [hX] at S2
  have HN := Lib.hid hN
  have HT := Lib.hid hT
  have HE := Lib.hid hE
  have w1 : IntKind.i64.wrap (m4 : Int) = m4 := wrap_id (by omega) (by omega)
  clear hN hT hE hX hi
  go_enter Tryd.func3, Tryd.ntmps3
  go_wp2_with fail
  refine (S1.out w).mono ?_
  rintro e w' ⟨⟨v1, b1, rfl, hr1⟩, rfl⟩
  have HR1 := Lib.hid hr1
  clear hr1
  cases b1
  · go_wp2_with fail
    go_ret
    exact ⟨rfl, Below.refl _ _⟩
  have HI : InR (i * (10 ^ 0 : Nat)) := by
    rcases HR1.out with ⟨h, _⟩ | ⟨_, _, h⟩
    · exact h
    · cases h
  have HNN := Lib.hid (HN.out HI)
  clear HI
  go_wp2_with fail
  refine (S2.out _).mono ?_
  rintro e w' ⟨⟨v2, b2, rfl, hr2⟩, rfl⟩
  have HR2 := Lib.hid hr2
  clear hr2
  go_wp2_with fail
  refine (implNew i _ X a _ HNN.out HT.out HE.out).mono ?_
  rintro e w' ⟨⟨v3, b3, rfl, hr3⟩, hb⟩
  have HB := Lib.hid hb
  have HS := same2 hr3 HR2.out
  clear hb hr3
  obtain ⟨HS1, HS2⟩ := HS
  have HS3 : b3 = b2 := by simpa using HS1
  have HS4 : v3 = v2 := by simpa using HS2
  subst HS3 HS4
  clear HS1 HS2
  cases b3
  · go_wp2_with fail
    go_ret
    exact ⟨rfl, HB.out⟩
  · go_wp2_with fail
    go_ret
    exact ⟨rfl, HB.out⟩
theorem law_zero (i X : Int) (m4 : Nat) (a : Addr) (w : World) (hi : InR i) (hm4 : (0 : Int) + 4 = m4)
    (hX : i * (10 ^ m4 : Nat) = X) (hN : InR (i * (10 ^ 0 : Nat)) → NewIs i (0 : Int) X a) (hT : Tabs w) (hE : w.cell? ⟨0, 0, none⟩ = some (.iface 42 (.pointer (some a)))) :
    Calls Tryd.prog 3 #[.int .i64 i, .int .i64 (0 : Int)] w fun e w' => e = .returned (.bool true) ∧ Below w.heap.size w w' := by
  have g1 : ¬ ((0 : Int) < -4) := by omega
  have g2 : ¬ (14 < (0 : Int)) := by omega
  have S1 := Lib.hid (fun w => scaled i 0 w hi (by omega))
  have S2 := Lib.hid (fun w => scaled i m4 w hi (by omega))
  rw [hX] at S2
  have HN := Lib.hid hN
  have HT := Lib.hid hT
  have HE := Lib.hid hE
  have w1 : IntKind.i64.wrap (m4 : Int) = m4 := wrap_id (by omega) (by omega)
  clear hN hT hE hX hi
  go_enter Tryd.func3, Tryd.ntmps3
  go_wp2_with fail
  refine (S1.out w).mono ?_
  rintro e w' ⟨⟨v1, b1, rfl, hr1⟩, rfl⟩
  have HR1 := Lib.hid hr1
  clear hr1
  cases b1
  · go_wp2_with fail
    go_ret
    exact ⟨rfl, Below.refl _ _⟩
  have HI : InR (i * (10 ^ 0 : Nat)) := by
    rcases HR1.out with ⟨h, _⟩ | ⟨_, _, h⟩
    · exact h
    · cases h
  have HNN := Lib.hid (HN.out HI)
  clear HI
  go_wp2_with fail
  refine (S2.out _).mono ?_
  rintro e w' ⟨⟨v2, b2, rfl, hr2⟩, rfl⟩
  have HR2 := Lib.hid hr2
  clear hr2
  go_wp2_with fail
  refine (implNew i _ X a _ HNN.out HT.out HE.out).mono ?_
  rintro e w' ⟨⟨v3, b3, rfl, hr3⟩, hb⟩
  have HB := Lib.hid hb
  have HS := same2 hr3 HR2.out
  clear hb hr3
  obtain ⟨HS1, HS2⟩ := HS
  have HS3 : b3 = b2 := by simpa using HS1
  have HS4 : v3 = v2 := by simpa using HS2
  subst HS3 HS4
  clear HS1 HS2
  cases b3
  · go_wp2_with fail
    go_ret
    exact ⟨rfl, HB.out⟩
  · go_wp2_with fail
    go_ret
    exact ⟨rfl, HB.out⟩
theorem law (i x : Int) (a : Addr) (w : World) (hi : InR i) (hT : Tabs w) (hE : w.cell? ⟨0, 0, none⟩ = some (.iface 42 (.pointer (some a)))) :
    Calls Tryd.prog 3 #[.int .i64 i, .int .i64 x] w fun e w' => e = .returned (.bool true) ∧ Below w.heap.size w w' := by
  by_cases h : x < -4 ∨ 14 < x
  · exact law_out i x w h
  obtain ⟨m4, h4⟩ : ∃ m : Nat, x + 4 = m := ⟨(x + 4).toNat, by omega⟩
  by_cases hp : 0 < x
  · obtain ⟨mx, rfl⟩ : ∃ m : Nat, x = m := ⟨x.toNat, by omega⟩
    refine law_pos i _ mx m4 (by omega) a w hi (by omega) h4 rfl ?_ hT hE
    intro hin w hT hE
    have h10 : i * (10 ^ mx : Nat) * 10000 = i * (10 ^ m4 : Nat) := by
      obtain rfl : m4 = mx + 4 := by omega
      rw [Nat.pow_add]
      generalize 10 ^ mx = q
      rw [Int.natCast_mul, Int.mul_assoc]
      rfl
    exact decHigh i _ _ _ mx a w hi.1 hi.2 (by omega) (by omega) rfl rfl hin h10 hT hE
  · obtain ⟨m, hm⟩ : ∃ m : Nat, x = -(m : Int) := ⟨(-x).toNat, by omega⟩
    have hN : NewIs i x (i * (10 ^ m4 : Nat)) a := fun w hT hE => decLow i x _ m m4 a w hi.1 hi.2 (by omega) hm rfl hT hE
    by_cases hz : x = 0
    · subst hz
      exact law_zero i _ m4 a w hi h4 rfl (fun _ => hN) hT hE
    · exact law_neg i x _ m4 (by omega) a w hi (by omega) h4 rfl (fun _ => hN) hT hE
end Go.Proofs.YtjcjappbopjgkaaDoor
