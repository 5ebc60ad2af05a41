import Derived.Test.YtiidebhepilgiaaDoorRTokBuf
/-
  The scanner's steps: at the beginning and at the end of the source.
-/
namespace Go.Proofs.YtiidebhepilgiaaDoorR
open Go.RowKit
set_option maxRecDepth 1000000
theorem quiet_same {P : Program} {f : FuncId} {args : Array Value} {w : World} {n a : Nat} {v : Value}
    (h : Calls P f args (w.drewN (n + a)) fun e w' => e = .returned v ∧ w' = w.drewN (n + a)) : Calls P f args (w.drewN (n + a)) fun e w'' => e = .returned v ∧ ∃ m, w'' = w.drewN (n + m) :=
  h.mono fun _ _ ⟨he, hm⟩ => ⟨he, a, hm⟩
/-- The scanner behind the first step. -/
def firstC (C : Nat → Value) (n : Nat) (l : List UInt8) : Nat → Value :=
  upd (upd (upd (upd (upd (upd (updL (upd C 1028 (.int .i64 0)) 1 (Lib.byteCells l)) 1026 (.int .i64 0)) 1027 (.int .i64 n)) (1 + n) (.int .u8 128)) 1026 (.int .i64 1)) 1032 (.int .i64 1)) 1030 (.int .i64 1)
theorem sl (b lo hi : Nat) (h0 : lo ≤ hi) (h1 : hi ≤ 1025) (h2 : lo < 1025) (W : World) : (Instr.sliceAt 70 (.pointer (some ⟨b, 1, none⟩)) (some (.int .i64 lo)) (some (.int .i64 hi)) none).run Tryd.prog W = .ok (.slice (some ⟨b, 1 + lo, none⟩) (hi - lo) (1025 - lo)) W := by
  have hA : Tryd.prog.arrayLen 70 = 1025 := by kernel_rfl
  have hE : Tryd.prog.elem 70 = 5 := by kernel_rfl
  have hs : (sizeOf 5).run Tryd.prog W = .ok 1 W := Tryd.sizeOf5 W
  rw [run_sliceAt_array_lh W 70 ⟨b, 1, none⟩ (by rw [hA, hE]; exact Tryd.underlying70) .i64 .i64 lo hi (by omega) (by omega) (by rw [hA]; omega), hE, hs, hA]
  have ea : Addr.add ⟨b, 1, none⟩ lo = ⟨b, 1 + lo, none⟩ := by cases lo <;> simp [Addr.add]
  simp only [Result.andThen, slicedAt, Int.toNat_natCast, Nat.mul_one, ea]
  rw [if_neg (by omega)]
theorem sl0 (b hi : Nat) (h1 : hi ≤ 1025) (W : World) : (Instr.sliceAt 70 (.pointer (some ⟨b, 1, none⟩)) (some (.int .i64 0)) (some (.int .i64 hi)) none).run Tryd.prog W = .ok (.slice (some ⟨b, 1, none⟩) hi 1025) W := sl b 0 hi (by omega) h1 (by omega) W
theorem fullNone (ao : Option Addr) (cap : Nat) (w : World) : Calls Tryd.prog 43 #[.slice ao 0 cap] w fun e w' => e = .returned (.bool false) ∧ w' = w := by
  go_enter Tryd.func43, Tryd.ntmps43
  go_wp2
  go_ret
  exact ⟨rfl, rfl⟩
theorem fullAscii (b o n cap x : Nat) (w : World) (c0 : w.cell? ⟨b, o, none⟩ = some (.int .u8 x)) (hx : x < 256) (hT : w.cell? ⟨0, x, none⟩ = some (.int .u8 240)) (hn : 1 ≤ n) (hn1 : n ≤ 100) :
    Calls Tryd.prog 43 #[.slice (some ⟨b, o, none⟩) n cap] w fun e w' => e = .returned (.bool true) ∧ w' = w := by
  have g1 : ¬ (n : Int) = 0 := by omega
  have g2 : (0 : Int) ≤ n := by omega
  have g3 : (0 : Int) < n := by omega
  go_enter Tryd.func43, Tryd.ntmps43
  go_wp2
  go_ret
  exact ⟨rfl, rfl⟩
set_option maxHeartbeats 8000000 in
theorem nextFirst (b sb g n cap : Nat) (C : Nat → Value) (l : List UInt8) (x : Nat) (lr : Int) (w : World) (h : Sc b C w) (hs : Src sb g n cap 0 lr w) (hsb : sb < b) (hg : g < sb) (hl : l.length = n) (hn0 : 1 ≤ n) (hn1 : n ≤ 100) (hnc : n ≤ cap)
    (hd : ∀ j (h : j < l.length), w.cell? ⟨g, j, none⟩ = some (.int .u8 (l[j].toNat : Int))) (hx : l.head?.map UInt8.toNat = some x) (hx0 : 48 ≤ x) (hx1 : x ≤ 57) (hT : w.cell? ⟨0, x, none⟩ = some (.int .u8 240))
    (e0 : C 0 = .iface 57 (.pointer (some ⟨sb, 0, none⟩))) (e1 : C 1 = .int .u8 128) (e2 : C 1026 = .int .i64 0) (e3 : C 1027 = .int .i64 0) (e4 : C 1028 = .int .i64 0) (e5 : C 1030 = .int .i64 0) (e6 : C 1036 = .int .i64 (-1)) :
    Calls Tryd.prog 32 #[.pointer (some ⟨b, 0, none⟩)] w fun e w' => e = .returned (.int .i32 x) ∧ Sc b (firstC C n l) w' ∧ Src sb g n cap n (-1) w' ∧ Fr b sb w w' := by
  have f := h.frozen
  have c0 := h.cell 0 (by decide)
  have c1 := h.cell 1 (by decide)
  have c2 := h.cell 1026 (by decide)
  have c3 := h.cell 1027 (by decide)
  have c4 := h.cell 1028 (by decide)
  have c5 := h.cell 1030 (by decide)
  have c6 := h.cell 1036 (by decide)
  rw [e0] at c0
  rw [e1] at c1
  rw [e2] at c2
  rw [e3] at c3
  rw [e4] at c4
  rw [e5] at c5
  rw [e6] at c6
  have H := Lib.hid h
  have HS := Lib.hid hs
  have HD := Lib.hid hd
  have HT := Lib.hid hT
  clear h hs hd hT
  have w4 : IntKind.i64.wrap 4 = 4 := by decide +kernel
  have F := Lib.hid (fun w => fullNone (some ⟨b, 1, none⟩) 1025 w)
  have hcn : ∀ W, (Builtin.copy_ #[24, 24] 3 #[.slice (some ⟨b, 1, none⟩) 1025 1025, .slice (some ⟨b, 1, none⟩) 0 1025]).run Tryd.prog W = .ok (goInt 0) W := fun W => run_copy_none W 24 24 3 5 (some ⟨b, 1, none⟩) (some ⟨b, 1, none⟩) 1025 1025 0 1025 Tryd.underlying24 (by kernel_rfl) (by simp)
  go_enter Tryd.func32, Tryd.ntmps32
  go_wp2
  go_quiet (fail)
  go_wp2
  refine wp_loop_rounds 2 ?_
  rw [rounds_succ]
  go_wp2
  go_quiet (exact quiet_same (F.out _))
  go_wp2
  go_region
  all_goals (go_wp2_with fail)
  go_region
  all_goals (go_wp2_with fail)
  generalize hq : w.drewN _ = W0
  have h0 : Sc b C W0 := by rw [← hq]; exact H.out
  have s0 : Src sb g n cap 0 lr W0 := by rw [← hq]; exact HS.out
  have d0 : ∀ j (h : j < l.length), W0.cell? ⟨g, j, none⟩ = some (.int .u8 (l[j].toNat : Int)) := by rw [← hq]; exact HD.out
  have t0 : W0.cell? ⟨0, x, none⟩ = some (.int .u8 240) := by rw [← hq]; exact HT.out
  have b0 : Fr b sb w W0 := by rw [← hq]; exact (Fr.refl _ _ _).drewN _
  clear hq c0 c1 c2 c3 c4 c5 c6 f
  have h1 := h0.set 1028 (.int .i64 0)
  have s1 : Src sb g n cap 0 lr (W0.setCell ⟨b, 1028, none⟩ (.int .i64 0)) := s0.of (heap_set_ne _ _ _ _ (by simp; omega))
  have d1 : ∀ j (h : j < l.length), (W0.setCell ⟨b, 1028, none⟩ (.int .i64 0)).cell? ⟨g, j, none⟩ = some (.int .u8 (l[j].toNat : Int)) := fun j hj => (cell_set_ne _ _ _ _ (by simp; omega)).trans (d0 j hj)
  have t1 : (W0.setCell ⟨b, 1028, none⟩ (.int .i64 0)).cell? ⟨0, x, none⟩ = some (.int .u8 240) := (cell_set_ne _ _ _ _ (by simp; omega)).trans t0
  have b1 : Fr b sb w (W0.setCell ⟨b, 1028, none⟩ (.int .i64 0)) := b0.setB hsb 1028 _
  generalize W0.setCell ⟨b, 1028, none⟩ (.int .i64 0) = W1 at *
  have c0 := h1.cell 0 (by decide)
  have c1 := h1.cell 1 (by decide)
  have c2 := h1.cell 1026 (by decide)
  have c3 := h1.cell 1027 (by decide)
  simp only [upd, Nat.reduceEqDiff, if_false, e0, e1, e2, e3] at c0 c1 c2 c3
  have R := Lib.hid (fun q => readAll sb g n cap b _ l lr (W1.drewN q) s1 h1 hsb hl hn0 hn1 hnc d1 hg)
  clear h0 s0 d0 t0 b0
  have B1 := Lib.hid b1
  clear b1
  go_quiet (fail)
  go_upto_region 10 with fail
  go_cut [6, 7] from 107 to 121 (fun s6 s7 wx => s6 = .int .i64 n ∧ s7 = .nilIface ∧ Sc b (updL (upd C 1028 (.int .i64 0)) 1 (Lib.byteCells l)) wx ∧ Src sb g n cap n (-1) wx ∧ Fr b sb w wx)
  case first =>
    go_region_with (refine (R.out _).mono ?_; rintro e W2 ⟨rfl, h2, s2, b2⟩)
    all_goals (go_wp2_with fail)
    all_goals go_meet
    all_goals exact ⟨rfl, rfl, h2, s2, (B1.out.drewN _).trans b2⟩
  obtain ⟨rfl, rfl, h2, s2, b2⟩ := hcut
  clear c0 c1 c2 c3 h1 s1 d1 t1 R
  have hT2 : wc.cell? ⟨0, x, none⟩ = some (.int .u8 240) := (b2.below.cell (p := ⟨0, x, none⟩) (by show 0 < sb; omega)).trans HT.out
  have k1 : wc.cell? ⟨b, 1026, none⟩ = _ := h2.cell 1026 (by decide)
  have k2 := h2.cell 1027 (by decide)
  have k3 := h2.cell (1 + n) (by omega)
  have f := h2.frozen
  go_upto_region 13 with fail
  have h3 := (h2.set 1026 (.int .i64 0)).set 1027 (.int .i64 n)
  have s3 : Src sb g n cap n (-1) ((wc.setCell ⟨b, 1026, none⟩ (.int .i64 0)).setCell ⟨b, 1027, none⟩ (.int .i64 n)) := s2.of ((heap_set_ne _ _ _ _ (by simp; omega)).trans (heap_set_ne _ _ _ _ (by simp; omega)))
  have b3 : Fr b sb w ((wc.setCell ⟨b, 1026, none⟩ (.int .i64 0)).setCell ⟨b, 1027, none⟩ (.int .i64 n)) := (b2.setB hsb 1026 _).setB hsb 1027 _
  clear k1 k2 k3 f hT2 h2 s2 b2
  generalize (wc.setCell ⟨b, 1026, none⟩ (.int .i64 0)).setCell ⟨b, 1027, none⟩ (.int .i64 n) = W3 at *
  have k2 : W3.cell? ⟨b, 1027, none⟩ = some (.int .i64 n) := h3.cell 1027 (by decide)
  have k3 := h3.cell (1 + n) (by omega)
  have f := h3.frozen
  have H3 := Lib.hid h3
  have S3 := Lib.hid s3
  have B3 := Lib.hid b3
  clear h3 s3 b3
  go_cut [6, 7] from 131 to 138 (fun s6 s7 wx => s6 = .int .i64 n ∧ s7 = .nilIface ∧ Sc b (upd (upd (upd (updL (upd C 1028 (.int .i64 0)) 1 (Lib.byteCells l)) 1026 (.int .i64 0)) 1027 (.int .i64 n)) (1 + n) (.int .u8 128)) wx ∧ Src sb g n cap n (-1) wx ∧ Fr b sb w wx)
  case first =>
    go_region
    all_goals (go_wp2_with fail)
    all_goals go_meet
    all_goals exact ⟨rfl, rfl, H3.out.drew.set (1 + n) _, S3.out.of (heap_set_ne _ _ _ _ (by simp; omega)), B3.out.drew.setB hsb (1 + n) _⟩
  obtain ⟨rfl, rfl, h4, s4, b4⟩ := hcut
  clear k2 k3 f H3 S3 B3
  have hT4 : wc.cell? ⟨0, x, none⟩ = some (.int .u8 240) := (b4.below.cell (p := ⟨0, x, none⟩) (by show 0 < sb; omega)).trans HT.out
  have k0 : wc.cell? ⟨b, 1, none⟩ = some (.int .u8 x) := by
    rw [h4.cell 1 (by decide)]
    simp only [upd]
    rw [if_neg (by omega), if_neg (by omega), if_neg (by omega)]
    have hlen : 0 < (Lib.byteCells l).length := by rw [Lib.byteCells_length]; omega
    have := updL_in (Lib.byteCells l) (upd C 1028 (.int .i64 0)) 1 0 hlen
    rw [show 1 + 0 = 1 from rfl] at this
    rw [this]
    cases l with
    | nil => simp [Lib.byteCells] at hlen
    | cons y r => simp at hx; simp [Lib.byteCells, hx]
  have k1 : wc.cell? ⟨b, 1026, none⟩ = some (.int .i64 0) := by rw [h4.cell 1026 (by decide)]; simp only [upd]; rw [if_neg (by omega)]; rfl
  have k2 : wc.cell? ⟨b, 1027, none⟩ = some (.int .i64 n) := by rw [h4.cell 1027 (by decide)]; simp only [upd]; rw [if_neg (by omega)]; rfl
  have k3 := h4.cell 1032 (by decide)
  have k4 : wc.cell? ⟨b, 1030, none⟩ = some (.int .i64 0) := by
    rw [h4.cell 1030 (by decide)]; simp only [upd]
    rw [if_neg (by omega), if_neg (by omega), if_neg (by omega), updL_out _ _ _ _ (.inr (by rw [Lib.byteCells_length]; omega))]
    simp only [upd]
    rw [if_neg (by omega), e5]
  have f := h4.frozen
  have FA := Lib.hid (fun q => fullAscii b 1 n 1025 x (wc.drewN q) k0 (by omega) hT4 hn0 hn1)
  have H4 := Lib.hid h4
  have S4 := Lib.hid s4
  have B4 := Lib.hid b4
  clear h4 s4 b4
  go_wp2
  rw [rounds_succ]
  go_wp2
  have hsl := sl0 b n (by omega)
  have g0 : (0 : Int) ≤ n := by omega
  have g1 : ¬ (128 : Int) ≤ x := by omega
  have g2 : ¬ (x : Int) = 0 := by omega
  have g3 : ¬ (x : Int) = 10 := by omega
  rcases Nat.lt_or_ge n 4 with hn4 | hn4
  · have q1 : (n : Int) < 4 := by omega
    go_quiet (exact Calls.quiet_of_same (FA.out _))
    go_wp2
    go_quiet (fail)
    go_wp2
    go_ret
    refine ⟨rfl, ((Sc.set (show Sc b _ _ from H4.out) 1026 _).set 1032 _).set 1030 _, S4.out.of (w' := _) ?_, ?_⟩
    · exact (heap_set_ne _ _ _ _ (by simp; omega)).trans ((heap_set_ne _ _ _ _ (by simp; omega)).trans (heap_set_ne _ _ _ _ (by simp; omega)))
    · exact (((B4.out.drewN _).setB hsb 1026 _).setB hsb 1032 _).setB hsb 1030 _
  · have q1 : ¬ (n : Int) < 4 := by omega
    go_quiet (fail)
    go_wp2
    go_quiet (fail)
    go_wp2
    go_ret
    refine ⟨rfl, ((Sc.set (show Sc b _ _ from H4.out) 1026 _).set 1032 _).set 1030 _, S4.out.of (w' := _) ?_, ?_⟩
    · exact (heap_set_ne _ _ _ _ (by simp; omega)).trans ((heap_set_ne _ _ _ _ (by simp; omega)).trans (heap_set_ne _ _ _ _ (by simp; omega)))
    · exact (((B4.out.drewN _).setB hsb 1026 _).setB hsb 1032 _).setB hsb 1030 _
end Go.Proofs.YtiidebhepilgiaaDoorR
