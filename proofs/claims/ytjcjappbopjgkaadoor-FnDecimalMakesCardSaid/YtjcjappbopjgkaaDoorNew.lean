import Derived.Test.YtjcjappbopjgkaaDoorPow
/-
  types.NewDecimal: a whole number times a power of ten.
-/
namespace Go.Proofs.YtjcjappbopjgkaaDoor
open Go.RowKit Go.Sort
/-- A function's own empty result block, the program's error where it should lie. -/
def St (w : World) (b0 : Nat) (a : Addr) (wr : World) : Prop :=
  wr.cell? ⟨b0, 0, none⟩ = some (.int .i64 0) ∧ wr.frozen? ⟨b0, 0, none⟩ = false ∧ wr.cell? ⟨0, 0, none⟩ = some (.iface 42 (.pointer (some a))) ∧ b0 < wr.heap.size ∧ Below w.heap.size w wr ∧ w.heap.size ≤ b0 ∧ 0 < w.heap.size
theorem St.on {w wr w' : World} {b0 : Nat} {a : Addr} (h : St w b0 a wr) (hb : Below wr.heap.size wr w') : St w b0 a w' := by
  obtain ⟨h1, h2, h3, h4, h5, h6, h7⟩ := h
  have hs := h5.size
  refine ⟨(hb.cell (p := ⟨b0, 0, none⟩) h4).trans h1, (hb.frozen (p := ⟨b0, 0, none⟩) h4).trans h2, (hb.cell (p := ⟨0, 0, none⟩) (by show 0 < _; omega)).trans h3, Nat.lt_of_lt_of_le h4 hb.size, h5.trans (hb.mono hs), h6, h7⟩
theorem St.err {w wr : World} {b0 : Nat} {a : Addr} (h : St w b0 a wr) (v : Value) : (wr.setCell ⟨b0, 0, none⟩ v).cell? ⟨0, 0, none⟩ = some (.iface 42 (.pointer (some a))) := by
  obtain ⟨h1, h2, h3, h4, h5, h6, h7⟩ := h
  rw [World.cell?_of_block (w := wr) (Below.heap_setCell wr ⟨b0, 0, none⟩ v 0 (by show 0 ≠ b0; omega))]
  exact h3
theorem alloc_cell (w : World) (c : Array Value) (t : TypeId) (i : Nat) : (w.alloc (Obj.cells c t)).cell? ⟨w.heap.size, i, none⟩ = c[i]? := by
  unfold World.cell? World.alloc; simp
theorem st_new {w : World} {a : Addr} {t : TypeId} (h : w.cell? ⟨0, 0, none⟩ = some (.iface 42 (.pointer (some a)))) : St w w.heap.size a (w.alloc (Obj.cells #[Value.int IntKind.i64 0] t)) := by
  refine ⟨alloc_cell w _ t 0, by simp, ?_, by simp, (Below.refl _ _).alloc (Nat.le_refl _) _, Nat.le_refl _, block_lt_of_cell h⟩
  rw [World.cell?_of_block (w := w) (Below.heap_alloc _ _ _ (block_lt_of_cell h))]
  exact h
theorem wrap_id {x : Int} (h0 : -9223372036854775808 ≤ x) (h1 : x ≤ 9223372036854775807) : IntKind.i64.wrap x = x := by
  simp [IntKind.wrap, IntKind.bits, IntKind.signed]; omega
theorem newDec_bad (p t : Int) (a : Addr) (w : World) (h : 922337203685477 < p ∨ (p = 922337203685477 ∧ 5807 < t) ∨ p < -922337203685477 ∨ (p = -922337203685477 ∧ t < -5808)) (hE : w.cell? ⟨0, 0, none⟩ = some (.iface 42 (.pointer (some a)))) :
    Calls Tryd.prog 9 #[.int .i64 p, .int .i16 t] w fun e w' => e = .returned (.tuple #[.agg #[.int .i64 0], .iface 42 (.pointer (some a))]) ∧ Below w.heap.size w w' := by
  have hst := st_new (t := 26) hE
  have HE := Lib.hid hE
  clear hE
  have e2 := hst.err (.int .i64 0)
  obtain ⟨c1, f1, e1, l1, b1, l2, l3⟩ := hst
  have HB := Lib.hid b1
  clear l1 l2 l3 b1
  rcases h with h | h | h | h
  · skip
    go_enter Tryd.func9, Tryd.ntmps9
    go_wp2
    go_region
    go_wp2
    refine bodyPost_ret (v := .tuple #[.agg #[.int .i64 0], .iface 42 (.pointer (some a))]) (by simp [results, Tryd.results9, go_sem, c1]) rfl ?_
    exact ⟨rfl, HB.out.drew⟩
  · obtain ⟨rfl, h2⟩ := h
    go_enter Tryd.func9, Tryd.ntmps9
    go_wp2
    go_region
    go_wp2
    refine bodyPost_ret (v := .tuple #[.agg #[.int .i64 0], .iface 42 (.pointer (some a))]) (by simp [results, Tryd.results9, go_sem, c1]) rfl ?_
    exact ⟨rfl, HB.out.drew⟩
  · have g1 : ¬ (922337203685477 < p) := by omega
    have g2 : (p == 922337203685477) = false := beq_eq_false_iff_ne.2 (by omega)
    go_enter Tryd.func9, Tryd.ntmps9
    go_wp2
    go_region
    go_wp2
    refine bodyPost_ret (v := .tuple #[.agg #[.int .i64 0], .iface 42 (.pointer (some a))]) (by simp [results, Tryd.results9, go_sem, c1]) rfl ?_
    exact ⟨rfl, HB.out.drew⟩
  · obtain ⟨hp, h2⟩ := h
    have g1 : ¬ (922337203685477 < p) := by omega
    have g2 : (p == 922337203685477) = false := beq_eq_false_iff_ne.2 (by omega)
    have g3 : ¬ (p < -922337203685477) := by omega
    have g4 : (p == -922337203685477) = true := beq_iff_eq.2 hp
    have HP := Lib.hid hp
    clear hp
    go_enter Tryd.func9, Tryd.ntmps9
    go_wp2
    go_region
    go_wp2
    refine bodyPost_ret (v := .tuple #[.agg #[.int .i64 0], .iface 42 (.pointer (some a))]) (by simp [results, Tryd.results9, go_sem, c1]) rfl ?_
    exact ⟨rfl, HB.out.drew⟩
theorem newDec_ok (p t : Int) (w : World) (ht0 : -32768 ≤ t) (ht1 : t ≤ 32767) (h : ¬ (922337203685477 < p ∨ (p = 922337203685477 ∧ 5807 < t) ∨ p < -922337203685477 ∨ (p = -922337203685477 ∧ t < -5808)))
    (hx0 : -9223372036854775808 ≤ p * 10000 + t) (hx1 : p * 10000 + t ≤ 9223372036854775807) :
    Calls Tryd.prog 9 #[.int .i64 p, .int .i16 t] w fun e w' => e = .returned (.tuple #[.agg #[.int .i64 (p * 10000 + t)], .nilIface]) ∧ Below w.heap.size w w' := by
  have c1 := alloc_cell w #[.int .i64 0] 26 0
  have hb : Below w.heap.size w (w.alloc (Obj.cells #[Value.int IntKind.i64 0] 26)) := (Below.refl _ _).alloc (Nat.le_refl _) _
  have HB := Lib.hid hb
  have m1 : IntKind.i64.wrap (p * 10000) = p * 10000 := wrap_id (by omega) (by omega)
  have m2 : IntKind.i64.wrap (p * 10000 + t) = p * 10000 + t := wrap_id (by omega) (by omega)
  have m3 : IntKind.i64.wrap t = t := wrap_id (by omega) (by omega)
  have g1 : ¬ (922337203685477 < p) := fun x => h (.inl x)
  have g3 : ¬ (p < -922337203685477) := fun x => h (.inr (.inr (.inl x)))
  have A1 : (p == 922337203685477) = true → ¬ (5807 < t) := fun x y => h (.inr (.inl ⟨by simpa using x, y⟩))
  have A2 : (p == -922337203685477) = true → ¬ (t < -5808) := fun x y => h (.inr (.inr (.inr ⟨by simpa using x, y⟩)))
  clear h hb
  cases q1 : (p == 922337203685477) with
  | true =>
    have g2 := A1 q1
    have e : p = 922337203685477 := by simpa using q1
    have q2 : (p == -922337203685477) = false := beq_eq_false_iff_ne.2 (by omega)
    clear e
    clear A1 A2
    go_enter Tryd.func9, Tryd.ntmps9
    go_wp2
    refine bodyPost_ret (v := .tuple #[.agg #[.int .i64 (p * 10000 + t)], .nilIface]) (by simp [results, Tryd.results9, go_sem]) rfl ?_
    exact ⟨rfl, (Below.refl _ _).alloc (Nat.le_refl _) _⟩
  | false =>
    cases q2 : (p == -922337203685477) with
    | true =>
      have g2 := A2 q2
      clear A1 A2
      go_enter Tryd.func9, Tryd.ntmps9
      go_wp2
      refine bodyPost_ret (v := .tuple #[.agg #[.int .i64 (p * 10000 + t)], .nilIface]) (by simp [results, Tryd.results9, go_sem]) rfl ?_
      exact ⟨rfl, (Below.refl _ _).alloc (Nat.le_refl _) _⟩
    | false =>
      clear A1 A2
      go_enter Tryd.func9, Tryd.ntmps9
      go_wp2
      refine bodyPost_ret (v := .tuple #[.agg #[.int .i64 (p * 10000 + t)], .nilIface]) (by simp [results, Tryd.results9, go_sem]) rfl ?_
      exact ⟨rfl, (Below.refl _ _).alloc (Nat.le_refl _) _⟩
def InR (X : Int) : Prop := -9223372036854775808 ≤ X ∧ X ≤ 9223372036854775807
/-- The number and the error of a decimal of X ten-thousandths. -/
def Res (a : Addr) (X v : Int) (E : Value) : Prop := (InR X ∧ v = X ∧ E = .nilIface) ∨ (¬ InR X ∧ v = 0 ∧ E = .iface 42 (.pointer (some a)))
theorem newDec (p t X : Int) (a : Addr) (w : World) (ht0 : -9999 ≤ t) (ht1 : t ≤ 9999) (hs0 : 0 < p → 0 ≤ t) (hs1 : p < 0 → t ≤ 0) (hX : p * 10000 + t = X) (hE : w.cell? ⟨0, 0, none⟩ = some (.iface 42 (.pointer (some a)))) :
    Calls Tryd.prog 9 #[.int .i64 p, .int .i16 t] w fun e w' => (∃ v E, e = .returned (.tuple #[.agg #[.int .i64 v], E]) ∧ Res a X v E) ∧ Below w.heap.size w w' := by
  by_cases h : 922337203685477 < p ∨ (p = 922337203685477 ∧ 5807 < t) ∨ p < -922337203685477 ∨ (p = -922337203685477 ∧ t < -5808)
  · refine (newDec_bad p t a w h hE).mono ?_
    rintro e w' ⟨rfl, hb⟩
    exact ⟨⟨0, _, rfl, .inr ⟨by unfold InR; omega, rfl, rfl⟩⟩, hb⟩
  · have hin : InR X := by unfold InR; omega
    refine (newDec_ok p t w (by omega) (by omega) h (by rw [hX]; exact hin.1) (by rw [hX]; exact hin.2)).mono ?_
    rintro e w' ⟨rfl, hb⟩
    exact ⟨⟨_, _, rfl, .inl ⟨hin, hX, rfl⟩⟩, hb⟩
/-- The tables of powers of ten lie where they should. -/
def Tabs (w : World) : Prop := w.cell? ⟨2, 0, none⟩ = some (.float .f64 4607182418800017408) ∧ (∀ k, k ≤ 14 → w.cell? ⟨3, k, none⟩ = some (.float .f64 (pBits k))) ∧ 3 < w.heap.size
theorem Tabs.on {w w' : World} (h : Tabs w) (hb : Below w.heap.size w w') : Tabs w' :=
  ⟨(hb.cell (p := ⟨2, 0, none⟩) (by show 2 < _; have := h.2.2; omega)).trans h.1, fun k hk => (hb.cell (p := ⟨3, k, none⟩) (by show 3 < _; exact h.2.2)).trans (h.2.1 k hk), Nat.lt_of_lt_of_le h.2.2 hb.size⟩
theorem pow10t (k : Nat) (hk : k ≤ 14) (w : World) (h : Tabs w) : Calls Tryd.prog 8 #[.int .i64 k] w fun e w' => e = .returned (.float .f64 (pBits k)) ∧ ∃ q, w' = w.drewN q :=
  pow10 k hk w h.1 (h.2.1 k hk)
set_option maxHeartbeats 4000000 in
theorem decLow (i x X : Int) (m m2 : Nat) (a : Addr) (w : World) (hi0 : -9223372036854775808 ≤ i) (hi1 : i ≤ 9223372036854775807) (hm : m + m2 = 4) (hx : x = -(m : Int)) (hX : i * (10 ^ m2 : Nat) = X) (hT : Tabs w) (hE : w.cell? ⟨0, 0, none⟩ = some (.iface 42 (.pointer (some a)))) :
    Calls Tryd.prog 6 #[.int .i64 i, .int .i64 x] w fun e w' => (∃ v E, e = .returned (.tuple #[.agg #[.int .i64 v], E]) ∧ Res a X v E) ∧ Below w.heap.size w w' := by
  have hst := st_new (t := 26) hE
  have HT1 := Lib.hid (hT.on hst.2.2.2.2.1)
  clear hT hE
  have hTT : (10 ^ m : Nat) * (10 ^ m2 : Nat) = 10000 := by rw [← Nat.pow_add, hm]
  have cv1 := toInt m (by omega)
  have cv2 := toInt m2 (by omega)
  have P1 := fun w h => pow10t m (by omega) w h
  have P2 := fun w h => pow10t m2 (by omega) w h
  generalize pBits m = b1 at *
  generalize pBits m2 = b2 at *
  obtain ⟨T1, hT1⟩ : ∃ T : Nat, (10 ^ m : Nat) = T := ⟨_, rfl⟩
  obtain ⟨T2, hT2⟩ : ∃ T : Nat, (10 ^ m2 : Nat) = T := ⟨_, rfl⟩
  rw [hT1] at cv1 hTT
  rw [hT2] at cv2 hTT hX
  clear hT1 hT2
  have hT1p : 1 ≤ T1 := Nat.pos_of_ne_zero (by intro h; rw [h] at hTT; omega)
  have hT2p : 1 ≤ T2 := Nat.pos_of_ne_zero (by intro h; rw [h] at hTT; omega)
  obtain ⟨p, hp⟩ : ∃ p : Int, Int.tdiv i T1 = p := ⟨_, rfl⟩
  obtain ⟨r, hr⟩ : ∃ r : Int, Int.tmod i T1 = r := ⟨_, rfl⟩
  have hpr : p * T1 + r = i := by rw [← hp, ← hr, Int.mul_comm]; exact Int.mul_tdiv_add_tmod i T1
  have hXe : p * 10000 + r * T2 = X := by
    rw [← hX, ← hpr, Int.add_mul, Int.mul_assoc]
    have e : (T1 : Int) * T2 = 10000 := by rw [← Int.natCast_mul, hTT]; rfl
    rw [e]
  have hra : r.natAbs < T1 := by
    rw [← hr, Int.natAbs_tmod]
    exact Nat.mod_lt _ hT1p
  have hta : (r * T2).natAbs ≤ 9999 := by
    rw [Int.natAbs_mul]
    have h1 : r.natAbs * (T2 : Int).natAbs ≤ (T1 - 1) * T2 := Nat.mul_le_mul_right _ (by omega)
    have h2 : (T1 - 1) * T2 = 10000 - T2 := by rw [Nat.sub_mul, hTT, Nat.one_mul]
    omega
  have hs0 : 0 < p → 0 ≤ r * T2 := by
    intro h
    have h1 : (1 : Int) * T1 ≤ p * T1 := Int.mul_le_mul_of_nonneg_right h (by omega)
    have h2 : 0 ≤ r := by rw [← hr]; exact Int.tmod_nonneg _ (by omega)
    exact Int.mul_nonneg h2 (by omega)
  have hs1 : p < 0 → r * T2 ≤ 0 := by
    intro h
    have h1 : p * T1 ≤ (-1) * T1 := Int.mul_le_mul_of_nonneg_right (by omega) (by omega)
    have h2 : 0 ≤ -r := by rw [← hr, ← Int.neg_tmod]; exact Int.tmod_nonneg _ (by omega)
    have h3 := Int.mul_nonneg h2 (show (0 : Int) ≤ T2 by omega)
    rw [Int.neg_mul] at h3
    omega
  obtain ⟨t, ht⟩ : ∃ t, r * (T2 : Int) = t := ⟨_, rfl⟩
  rw [ht] at hXe hta hs0 hs1
  have CN := Lib.hid (fun w h => newDec p t X a w (by omega) (by omega) hs0 hs1 hXe h)
  have v1 : IntKind.i64.wrap p = p := by
    have hpn : p.natAbs = i.natAbs / T1 := by rw [← hp, Int.natAbs_tdiv]; rfl
    have hple : i.natAbs / T1 ≤ i.natAbs := Nat.div_le_self _ _
    have hsg : 0 ≤ i → 0 ≤ p := by intro h; rw [← hp]; exact Int.tdiv_nonneg h (by omega)
    have hsg2 : i < 0 → p ≤ 0 := by
      intro h
      have h2 : 0 ≤ -p := by rw [← hp, ← Int.neg_tdiv]; exact Int.tdiv_nonneg (by omega) (by omega)
      omega
    exact wrap_id (by omega) (by omega)
  have hT1m : T1 ≤ 10000 := by
    have h : T1 * 1 ≤ T1 * T2 := Nat.mul_le_mul_left _ hT2p
    omega
  have v2 : IntKind.i64.wrap r = r := wrap_id (by omega) (by omega)
  have v3 : IntKind.i64.wrap t = t := wrap_id (by omega) (by omega)
  have v4 : IntKind.i16.wrap t = t := by simp [IntKind.wrap, IntKind.bits, IntKind.signed]; omega
  have x1 : IntKind.i64.wrap (-x) = m := by rw [hx, Int.neg_neg]; exact wrap_id (by omega) (by omega)
  have x2 : 4 + x = (m2 : Int) := by omega
  have x6 : IntKind.i64.wrap (m2 : Int) = m2 := wrap_id (by omega) (by omega)
  have x3 : ¬ (x < -4) := by omega
  have x4 : ¬ (14 < x) := by omega
  have x5 : x ≤ 0 := by omega
  have z1 : (0 : Int) < T1 := by omega
  have z2 : ((T1 : Int) == 0) = false := beq_eq_false_iff_ne.2 (by omega)
  have z3 : ¬ (T1 = 0) := by omega
  have HX := Lib.hid hx
  have Q1 := Lib.hid P1
  have Q2 := Lib.hid P2
  have HST := Lib.hid hst
  clear hXe hta hs0 hs1 hpr hra hx P1 P2 hst hX hTT hm
  go_enter Tryd.func6, Tryd.ntmps6
  go_upto_region 6 with fail
  generalize w.alloc (Obj.cells #[Value.int IntKind.i64 0] 26) = W0 at *
  go_wp2_with ((refine (Q1.out _ HT1.out).mono ?_); rintro e w1 ⟨rfl, q, rfl⟩)
  have HT2 : ∀ k, Hid (Tabs ((W0.drewN q).drewN k)) := fun k => Lib.hid (HT1.out.on (below_drewN (below_drewN (Below.refl _ _) q) k))
  have HT2' := Lib.hid HT2
  have HS2 : ∀ k, Hid (St w w.heap.size a ((W0.drewN q).drewN k)) := fun k => Lib.hid (HST.out.on (below_drewN (below_drewN (Below.refl _ _) q) k))
  have HS2' := Lib.hid HS2
  clear HT2 HS2
  generalize W0.drewN q = W1 at *
  have CQ1 : ∀ k, Calls Tryd.prog 8 #[.int .i64 m] (W1.drewN k) fun e w'' => e = .returned (.float .f64 b1) ∧ ∃ j, w'' = W1.drewN j := fun k => Calls.quiet_of (Q1.out _ (HT2'.out k).out)
  have CQ2 : ∀ k, Calls Tryd.prog 8 #[.int .i64 m2] (W1.drewN k) fun e w'' => e = .returned (.float .f64 b2) ∧ ∃ j, w'' = W1.drewN j := fun k => Calls.quiet_of (Q2.out _ (HT2'.out k).out)
  have CQ1' := Lib.hid CQ1
  have CQ2' := Lib.hid CQ2
  clear CQ1 CQ2
  refine wp_region_quiet_lit (by kernel_rfl) (by kernel_rfl) ?_
  quiet_step (fail)
  quiet_step (fail)
  quiet_step (fail)
  quiet_step (exact CQ1'.out _)
  quiet_step (fail)
  quiet_step (fail)
  quiet_step (fail)
  quiet_step (fail)
  quiet_step (exact CQ2'.out _)
  quiet_step (fail)
  quiet_step (fail)
  quiet_step (fail)
  refine wpQuiet_nil ?_
  intro _ hw'
  obtain ⟨nq, hw''⟩ := hw'
  subst hw''
  have hS3 : Hid (St w w.heap.size a (W1.drewN nq)) := HS2'.out nq
  generalize W1.drewN nq = W3 at *
  go_wp2_with ((refine (CN.out _ hS3.out.2.2.1).mono ?_); rintro e w4 ⟨⟨v, E, rfl, hres⟩, hb⟩; have c4 := (hS3.out.on hb).1; have f4 := (hS3.out.on hb).2.1)
  have HR := Lib.hid hres
  have HB := Lib.hid (hS3.out.on hb)
  refine bodyPost_ret (v := .tuple #[.agg #[.int .i64 v], E]) (by simp [results, Tryd.results6, go_sem, c4]) rfl ?_
  exact ⟨⟨v, E, rfl, HR.out⟩, HB.out.2.2.2.2.1.setCell (p := ⟨w.heap.size, 0, none⟩) (Nat.le_refl _) _⟩
set_option maxHeartbeats 2000000 in
theorem decHigh (i x X p : Int) (m : Nat) (a : Addr) (w : World) (hi0 : -9223372036854775808 ≤ i) (hi1 : i ≤ 9223372036854775807) (hm1 : 1 ≤ m) (hm : m ≤ 14) (hx : x = (m : Int)) (hp : i * (10 ^ m : Nat) = p) (hpr : InR p) (hX : p * 10000 = X) (hT : Tabs w) (hE : w.cell? ⟨0, 0, none⟩ = some (.iface 42 (.pointer (some a)))) :
    Calls Tryd.prog 6 #[.int .i64 i, .int .i64 x] w fun e w' => (∃ v E, e = .returned (.tuple #[.agg #[.int .i64 v], E]) ∧ Res a X v E) ∧ Below w.heap.size w w' := by
  have hst := st_new (t := 26) hE
  have HT1 := Lib.hid (hT.on hst.2.2.2.2.1)
  clear hT hE
  have cv1 := toInt m hm
  have P1 := fun w h => pow10t m hm w h
  generalize pBits m = b1 at *
  obtain ⟨T1, hT1⟩ : ∃ T : Nat, (10 ^ m : Nat) = T := ⟨_, rfl⟩
  have hT1p : 1 ≤ T1 := by rw [← hT1]; exact Nat.pos_of_ne_zero (by simp)
  rw [hT1] at cv1 hp
  clear hT1
  have hge : 0 ≤ i → i ≤ p := by
    intro h
    have h1 : i * 1 ≤ i * (T1 : Int) := Int.mul_le_mul_of_nonneg_left (by omega) h
    omega
  have hle : i ≤ 0 → p ≤ i := by
    intro h
    have h1 : (-i) * 1 ≤ (-i) * (T1 : Int) := Int.mul_le_mul_of_nonneg_left (by omega) (by omega)
    rw [Int.neg_mul, Int.neg_mul] at h1
    omega
  have CN := Lib.hid (fun w h => newDec p 0 X a w (by omega) (by omega) (fun _ => by omega) (fun _ => by omega) (by rw [Int.add_zero]; exact hX) h)
  have v1 : IntKind.i64.wrap p = p := wrap_id hpr.1 hpr.2
  have x3 : ¬ (x < -4) := by omega
  have x4 : ¬ (14 < x) := by omega
  have x5 : ¬ (x ≤ 0) := by omega
  have z3 : ¬ (T1 = 0) := by omega
  have Q1 := Lib.hid P1
  have HST := Lib.hid hst
  clear P1 hst hX hpr
  have hQ : ∀ W, Tabs W → Calls Tryd.prog 8 #[.int .i64 x] W fun e w' => e = .returned (.float .f64 b1) ∧ ∃ q, w' = W.drewN q := by intro W h; rw [hx]; exact Q1.out _ h
  have HQ := Lib.hid hQ
  have HX := Lib.hid hx
  clear hQ hx hm hm1 Q1
  rcases (show i < 0 ∨ i = 0 ∨ 0 < i by omega) with hi | hi | hi
  · have g1 : ¬ (0 < i) := by omega
    have g2 : ¬ (i < p) := by have := hle (by omega); omega
    clear hge hle hi0 hi1
    go_enter Tryd.func6, Tryd.ntmps6
    go_upto_region 8 with fail
    generalize w.alloc (Obj.cells #[Value.int IntKind.i64 0] 26) = W0 at *
    have hS2 : ∀ k, St w w.heap.size a (W0.drewN k) := fun k => HST.out.on (below_drewN (Below.refl _ _) k)
    have HS2 := Lib.hid hS2
    clear hS2
    go_wp2_with fail
    refine (HQ.out _ HT1.out).mono ?_
    rintro e w1 ⟨rfl, q, rfl⟩
    go_upto_region 13 with fail
    have hS3 := Lib.hid (HS2.out q)
    generalize W0.drewN q = W3 at *
    go_wp2_with ((refine (CN.out _ hS3.out.2.2.1).mono ?_); rintro e w4 ⟨⟨v, E, rfl, hres⟩, hb⟩; have c4 := (hS3.out.on hb).1; have f4 := (hS3.out.on hb).2.1)
    have HR := Lib.hid hres
    have HB := Lib.hid (hS3.out.on hb)
    refine bodyPost_ret (v := .tuple #[.agg #[.int .i64 v], E]) (by simp [results, Tryd.results6, go_sem, c4]) rfl ?_
    exact ⟨⟨v, E, rfl, HR.out⟩, HB.out.2.2.2.2.1.setCell (p := ⟨w.heap.size, 0, none⟩) (Nat.le_refl _) _⟩
  · have g1 : ¬ (0 < i) := by omega
    have g3 : ¬ (i < 0) := by omega
    clear hge hle hi0 hi1 hi
    go_enter Tryd.func6, Tryd.ntmps6
    go_upto_region 8 with fail
    generalize w.alloc (Obj.cells #[Value.int IntKind.i64 0] 26) = W0 at *
    have hS2 : ∀ k, St w w.heap.size a (W0.drewN k) := fun k => HST.out.on (below_drewN (Below.refl _ _) k)
    have HS2 := Lib.hid hS2
    clear hS2
    go_wp2_with fail
    refine (HQ.out _ HT1.out).mono ?_
    rintro e w1 ⟨rfl, q, rfl⟩
    go_upto_region 13 with fail
    have hS3 := Lib.hid (HS2.out q)
    generalize W0.drewN q = W3 at *
    go_wp2_with ((refine (CN.out _ hS3.out.2.2.1).mono ?_); rintro e w4 ⟨⟨v, E, rfl, hres⟩, hb⟩; have c4 := (hS3.out.on hb).1; have f4 := (hS3.out.on hb).2.1)
    have HR := Lib.hid hres
    have HB := Lib.hid (hS3.out.on hb)
    refine bodyPost_ret (v := .tuple #[.agg #[.int .i64 v], E]) (by simp [results, Tryd.results6, go_sem, c4]) rfl ?_
    exact ⟨⟨v, E, rfl, HR.out⟩, HB.out.2.2.2.2.1.setCell (p := ⟨w.heap.size, 0, none⟩) (Nat.le_refl _) _⟩
  · have g2 : ¬ (p < i) := by have := hge (by omega); omega
    have g3 : ¬ (i < 0) := by omega
    clear hge hle hi0 hi1
    go_enter Tryd.func6, Tryd.ntmps6
    go_upto_region 8 with fail
    generalize w.alloc (Obj.cells #[Value.int IntKind.i64 0] 26) = W0 at *
    have hS2 : ∀ k, St w w.heap.size a (W0.drewN k) := fun k => HST.out.on (below_drewN (Below.refl _ _) k)
    have HS2 := Lib.hid hS2
    clear hS2
    go_wp2_with fail
    refine (HQ.out _ HT1.out).mono ?_
    rintro e w1 ⟨rfl, q, rfl⟩
    go_upto_region 13 with fail
    have hS3 := Lib.hid (HS2.out q)
    generalize W0.drewN q = W3 at *
    go_wp2_with ((refine (CN.out _ hS3.out.2.2.1).mono ?_); rintro e w4 ⟨⟨v, E, rfl, hres⟩, hb⟩; have c4 := (hS3.out.on hb).1; have f4 := (hS3.out.on hb).2.1)
    have HR := Lib.hid hres
    have HB := Lib.hid (hS3.out.on hb)
    refine bodyPost_ret (v := .tuple #[.agg #[.int .i64 v], E]) (by simp [results, Tryd.results6, go_sem, c4]) rfl ?_
    exact ⟨⟨v, E, rfl, HR.out⟩, HB.out.2.2.2.2.1.setCell (p := ⟨w.heap.size, 0, none⟩) (Nat.le_refl _) _⟩
end Go.Proofs.YtjcjappbopjgkaaDoor
