import Derived.Test.YtcggmabpbbieaaaDoorParse
/-
  FnDurationEnds: the walk.
-/
namespace Go.Proofs.YtcggmabpbbieaaaDoor
open Go.RowKit Go.Sort
theorem dec_get (n j : Nat) (h : j < Lib.nDigits n) : (Lib.decDigits n)[j]? = some (UInt8.ofNat (48 + n / 10 ^ (Lib.nDigits n - 1 - j) % 10)) := by
  rw [Lib.decDigits_eq, List.getElem?_map, List.getElem?_range h]
  rfl
/-- The text of a number of one unit. -/
def durIn (minus : Bool) (n k : Nat) : List UInt8 := (if minus then [45] else []) ++ Lib.decDigits n ++ uName k
theorem parseIn (minus : Bool) (n k : Nat) (a : Addr) (w : World) (hn : n < 18446744073709551616) (hk : k < 5) (hE : w.cell? ⟨0, 0, none⟩ = some (.iface 78 (.pointer (some a)))) :
    Calls Tryd.prog 13 #[.string ⟨(durIn minus n k).toArray⟩] w (PEnd w (n ≤ 9223372036854775807 / uSize k)) := by
  have hd1 := Lib.nDigits_pos n
  have hd2 : Lib.nDigits n ≤ 20 := nDigits_le 19 n (by omega)
  have hlen : (Lib.decDigits n).length = Lib.nDigits n := Lib.decDigits_length n
  have hpow := Lib.lt_pow_nDigits n
  have huk : 1 ≤ (uName k).length := by
    match k, hk with
    | 0, _ | 1, _ | 2, _ | 3, _ | 4, _ => decide
  obtain ⟨o, ho⟩ : ∃ o, (if minus then ([45] : List UInt8) else []) = o := ⟨_, rfl⟩
  have hol : o.length ≤ 1 := by rw [← ho]; split <;> decide
  have hR : durIn minus n k = o ++ Lib.decDigits n ++ uName k := by rw [← ho]; rfl
  have h0 : o.length = 0 → o = [] := List.length_eq_zero_iff.1
  have h1 : o.length = 1 → o = [45] := by
    intro h
    cases minus
    · rw [if_neg (by decide)] at ho; rw [← ho] at h; cases h
    · rw [if_pos rfl] at ho; exact ho.symm
  have gd : ∀ j, j < Lib.nDigits n → (durIn minus n k).getD (o.length + j) 0 = UInt8.ofNat (48 + n / 10 ^ (Lib.nDigits n - 1 - j) % 10) := by
    intro j hj
    rw [hR, List.getD, List.getElem?_append_left (by rw [List.length_append, hlen]; omega), List.getElem?_append_right (by omega), Nat.add_sub_cancel_left, dec_get n j hj]; rfl
  have gu : ∀ j, j < (uName k).length → (durIn minus n k).getD (o.length + Lib.nDigits n + j) 0 = (uName k).getD j 0 := by
    intro j hj
    rw [hR, List.getD, List.getElem?_append_right (by rw [List.length_append, hlen]; omega), List.length_append, hlen, Nat.add_sub_cancel_left]; rfl
  have b8 : ∀ x, (UInt8.ofNat (48 + x % 10)).toNat = 48 + x % 10 := by intro x; simp; omega
  refine parse ⟨(durIn minus n k).toArray⟩ o.length (Lib.nDigits n) (uName k).length k n (uSize k) (fun i => (((durIn minus n k).getD i 0).toNat : Int)) a w hk hol hd1 hd2 rfl ?_ rfl (Nat.div_eq_of_lt hpow) ?_ ?_ ?_ ?_ ?_ ?_ ?_ hE
  · show (durIn minus n k).length = _
    rw [hR, List.length_append, List.length_append, hlen]
  · intro i h
    have hi : i < (durIn minus n k).length := h
    have e : ({ data := (durIn minus n k).toArray } : ByteArray)[i]'h = (durIn minus n k)[i]'hi := rfl
    rw [e, List.getD, List.getElem?_eq_getElem hi]; rfl
  · intro h
    have g := gd 0 hd1
    rw [h] at g
    show (((durIn minus n k).getD 0 0).toNat : Int) ≠ 45
    rw [g, b8]; omega
  · intro h
    show (((durIn minus n k).getD 0 0).toNat : Int) = 45
    rw [hR, h1 h]; rfl
  · intro j hj
    show (((durIn minus n k).getD (o.length + j) 0).toNat : Int) = _
    rw [gd j hj, b8]; simp
  · show (((durIn minus n k).getD (o.length + Lib.nDigits n) 0).toNat : Int) = _
    have g := gu 0 huk
    rw [Nat.add_zero] at g
    rw [g]
    match k, hk with
    | 0, _ | 1, _ | 2, _ | 3, _ | 4, _ => rfl
  · intro h
    show (((durIn minus n k).getD (o.length + Lib.nDigits n + 1) 0).toNat : Int) = 115
    rw [gu 1 (by rw [h]; decide), h]; rfl
  · intro h
    have hl1 : (uName k).length = 1 := by
      match k, hk, h with
      | 0, _, _ | 1, _, _ | 2, _, _ | 3, _, _ => rfl
      | 4, _, h => exact absurd rfl h
    apply ByteArray.ext
    have e : o.length + Lib.nDigits n = (o ++ Lib.decDigits n).length := by rw [List.length_append, hlen]
    rw [hR, e]
    simp
    rw [← hl1, List.take_length]
theorem implParse (minus : Bool) (n k : Nat) (a : Addr) (w : World) (hn : n < 18446744073709551616) (hk : k < 5) (hE : w.cell? ⟨0, 0, none⟩ = some (.iface 78 (.pointer (some a)))) :
    Calls Tryd.prog 8 #[.string ⟨(durIn minus n k).toArray⟩] w fun e w' => (∃ v : Int, e = .returned (.tuple #[.int .i64 v, .bool (decide (n ≤ 9223372036854775807 / uSize k))])) ∧ Below w.heap.size w w' := by
  have cP := Lib.hid (parseIn minus n k a w hn hk hE)
  clear hE
  generalize durIn minus n k = R at *
  go_enter Tryd.func8, Tryd.ntmps8
  go_wp2_with fail
  refine cP.out.mono ?_
  rintro e w1 ⟨hb, v, E, rfl, hor⟩
  have HB := Lib.hid hb
  have HOR := Lib.hid hor
  clear hb hor
  rcases HOR.out with ⟨hok, hEE⟩ | ⟨hok, a2, hEE⟩
  · obtain rfl := hEE
    have HDE := Lib.hid (decide_eq_true hok)
    clear HOR hok
    go_wp2
    refine wp_region_quiet_below (by kernel_rfl) (by kernel_rfl) ?_
    have c0 := alloc_cell w1 #[.int .i64 v] 35 0
    have hB2 : Below w.heap.size w (w1.alloc (Obj.cells #[Value.int IntKind.i64 v] 35)) := HB.out.alloc HB.out.size _
    generalize w1.alloc (Obj.cells #[Value.int IntKind.i64 v] 35) = W1 at *
    have CZ := Lib.hid (fun d os => Calls.regrown_of (zzMs v (grow (redrawn W1 d) os)))
    have k0 := cell_regrown c0
    have HB2 := Lib.hid hB2
    clear hB2 c0
    repeat (quiet_step (exact CZ.out _ _))
    refine wpQuiet_nil ?_
    intro _ hw'
    obtain ⟨⟨dq, osq⟩, hw''⟩ := hw'
    subst hw''
    go_wp2
    refine bodyPost_ret (v := .tuple #[.int .i64 v, .bool true]) (by simp [results, Tryd.results8, go_sem]) rfl ?_
    exact ⟨⟨v, by rw [HDE.out]⟩, HB2.out.trans ((below_regrown W1 dq osq).mono HB2.out.size)⟩
  · obtain rfl := hEE
    have HDE := Lib.hid (decide_eq_false hok)
    clear HOR hok
    go_wp2
    refine wp_region_quiet_below (by kernel_rfl) (by kernel_rfl) ?_
    have c0 := alloc_cell w1 #[.int .i64 v] 35 0
    have hB2 : Below w.heap.size w (w1.alloc (Obj.cells #[Value.int IntKind.i64 v] 35)) := HB.out.alloc HB.out.size _
    generalize w1.alloc (Obj.cells #[Value.int IntKind.i64 v] 35) = W1 at *
    have CZ := Lib.hid (fun d os => Calls.regrown_of (zzMs v (grow (redrawn W1 d) os)))
    have k0 := cell_regrown c0
    have HB2 := Lib.hid hB2
    clear hB2 c0
    repeat (quiet_step (exact CZ.out _ _))
    refine wpQuiet_nil ?_
    intro _ hw'
    obtain ⟨⟨dq, osq⟩, hw''⟩ := hw'
    subst hw''
    go_wp2
    refine bodyPost_ret (v := .tuple #[.int .i64 v, .bool false]) (by simp [results, Tryd.results8, go_sem]) rfl ?_
    exact ⟨⟨v, by rw [HDE.out]⟩, HB2.out.trans ((below_regrown W1 dq osq).mono HB2.out.size)⟩
theorem lawEnds_any (n : Nat) (u : Int) (m : Bool) (hn : n < 18446744073709551616) (hu0 : 0 ≤ u) (hu1 : u ≤ 255) (a : Addr) (w : World) (hE : w.cell? ⟨0, 0, none⟩ = some (.iface 78 (.pointer (some a)))) :
    Calls Tryd.prog 3 #[.int .u64 n, .int .u8 u, .bool m] w fun e w' => e = .returned (.bool true) ∧ Below w.heap.size w w' := by
  have CU := Lib.hid units
  have HE := Lib.hid hE
  obtain ⟨k, hk⟩ : ∃ k : Nat, Int.tmod u 5 = k := ⟨(u % 5).toNat, by rw [tmod_nat hu0]; omega⟩
  have hk5 : k < 5 := by rw [tmod_nat hu0] at hk; omega
  have hkw : IntKind.i64.wrap (k : Int) = k := wrap_id (by omega) (by omega)
  go_enter Tryd.func3, Tryd.ntmps3
  go_wp2_with fail
  refine (CU.out _).mono ?_
  rintro e w1 ⟨rfl, hb1⟩
  have HB1 := Lib.hid hb1
  clear hb1 hE
  go_upto_region 3 with fail
  have hcN : ((w1.alloc (Obj.cells #[Value.string ⟨#[100]⟩, Value.string ⟨#[104]⟩, Value.string ⟨#[109]⟩, Value.string ⟨#[115]⟩, Value.string ⟨#[109, 115]⟩] 23)).alloc (Obj.cells #[Value.int IntKind.i64 86400000, Value.int IntKind.i64 3600000, Value.int IntKind.i64 60000, Value.int IntKind.i64 1000, Value.int IntKind.i64 1] 24)).cell? ⟨w1.heap.size, k, none⟩ = some (.string ⟨(uName k).toArray⟩) := by
    rw [World.cell?_of_block (w := w1.alloc (Obj.cells #[Value.string ⟨#[100]⟩, Value.string ⟨#[104]⟩, Value.string ⟨#[109]⟩, Value.string ⟨#[115]⟩, Value.string ⟨#[109, 115]⟩] 23)) (Below.heap_alloc _ _ _ (by show w1.heap.size < (w1.heap.push _).size; rw [Array.size_push]; omega)), alloc_cell]
    match k, hk5 with
    | 0, _ | 1, _ | 2, _ | 3, _ | 4, _ => rfl
  have hcS : ((w1.alloc (Obj.cells #[Value.string ⟨#[100]⟩, Value.string ⟨#[104]⟩, Value.string ⟨#[109]⟩, Value.string ⟨#[115]⟩, Value.string ⟨#[109, 115]⟩] 23)).alloc (Obj.cells #[Value.int IntKind.i64 86400000, Value.int IntKind.i64 3600000, Value.int IntKind.i64 60000, Value.int IntKind.i64 1000, Value.int IntKind.i64 1] 24)).cell? ⟨w1.heap.size + 1, k, none⟩ = some (.int .i64 (uSize k)) := by
    have e : w1.heap.size + 1 = (w1.alloc (Obj.cells #[Value.string ⟨#[100]⟩, Value.string ⟨#[104]⟩, Value.string ⟨#[109]⟩, Value.string ⟨#[115]⟩, Value.string ⟨#[109, 115]⟩] 23)).heap.size := by simp
    rw [e, alloc_cell]
    match k, hk5 with
    | 0, _ | 1, _ | 2, _ | 3, _ | 4, _ => rfl
  have hB2 : Below w.heap.size w ((w1.alloc (Obj.cells #[Value.string ⟨#[100]⟩, Value.string ⟨#[104]⟩, Value.string ⟨#[109]⟩, Value.string ⟨#[115]⟩, Value.string ⟨#[109, 115]⟩] 23)).alloc (Obj.cells #[Value.int IntKind.i64 86400000, Value.int IntKind.i64 3600000, Value.int IntKind.i64 60000, Value.int IntKind.i64 1000, Value.int IntKind.i64 1] 24)) := (HB1.out.alloc HB1.out.size _).alloc (by show _ ≤ (w1.heap.push _).size; rw [Array.size_push]; have := HB1.out.size; omega) _
  have hw2 : w1.heap.size + 1 < ((w1.alloc (Obj.cells #[Value.string ⟨#[100]⟩, Value.string ⟨#[104]⟩, Value.string ⟨#[109]⟩, Value.string ⟨#[115]⟩, Value.string ⟨#[109, 115]⟩] 23)).alloc (Obj.cells #[Value.int IntKind.i64 86400000, Value.int IntKind.i64 3600000, Value.int IntKind.i64 60000, Value.int IntKind.i64 1000, Value.int IntKind.i64 1] 24)).heap.size := by simp
  generalize ((w1.alloc (Obj.cells #[Value.string ⟨#[100]⟩, Value.string ⟨#[104]⟩, Value.string ⟨#[109]⟩, Value.string ⟨#[115]⟩, Value.string ⟨#[109, 115]⟩] 23)).alloc (Obj.cells #[Value.int IntKind.i64 86400000, Value.int IntKind.i64 3600000, Value.int IntKind.i64 60000, Value.int IntKind.i64 1000, Value.int IntKind.i64 1] 24)) = W2 at *
  obtain ⟨M, hM⟩ : ∃ M, uSize k = M := ⟨_, rfl⟩
  have hM1 := (uSize_ge k).1
  rw [hM] at hcS hM1
  obtain ⟨U, hU⟩ : ∃ U, uName k = U := ⟨_, rfl⟩
  have hUl := uName_le k
  rw [hU] at hcN hUl
  have hD := dig20 n hn
  have HIN : ∀ b, Hid (durIn b n k = (if b then [45] else []) ++ Lib.decDigits n ++ U) := fun b => Lib.hid (by rw [← hU]; rfl)
  have HM := Lib.hid hM
  have HU := Lib.hid hU
  have HIN' := Lib.hid HIN
  clear HIN hM hU
  have hk5i : (k : Int) < 5 := by omega
  have CD := Lib.hid (fun d os => Calls.regrown_of (v := .string ⟨(Lib.decDigits n).toArray⟩) (w := W2) (d := d) (os := os) (P := Tryd.prog) (f := 7) (args := #[.int .u64 n, .int .i64 1]) (by rw [← dec_len1 n]; exact digits n 1 hn (by decide) _))
  have k0 := cell_regrown hcN
  have HCS := Lib.hid hcS
  have HB2 := Lib.hid hB2
  have HW2 := Lib.hid hw2
  clear hB2 hcN hcS hw2
  have n1 : ¬ (9223372036854775807 < (Lib.decDigits n).length + U.length) := by omega
  have n2 : ¬ (9223372036854775807 < 1 + ((Lib.decDigits n).length + U.length)) := by omega
  refine wp_region_quiet_below (by kernel_rfl) (by kernel_rfl) ?_
  repeat (quiet_step (exact CD.out _ _))
  refine wpQuiet_nil ?_
  intro _ hw'
  obtain ⟨⟨dq, osq⟩, hw''⟩ := hw'
  subst hw''
  have HB3 : Hid (Below W2.heap.size W2 (grow (redrawn W2 dq) osq)) := Lib.hid (below_regrown W2 dq osq)
  generalize grow (redrawn W2 dq) osq = W3 at *
  go_upto_if 26 with fail
  go_cut [2, 10] from 26 to 28 (fun s2 s10 wx => s2 = .bool m ∧ s10 = .string ⟨(durIn m n k).toArray⟩ ∧ W3 = wx)
  case first =>
    cases m with
    | true =>
      go_wp2_with fail
      go_meet
      case rel => exact ⟨rfl, by rw [(HIN'.out true).out]; rfl, rfl⟩
    | false =>
      go_wp2_with fail
      go_meet
      case rel => exact ⟨rfl, by rw [(HIN'.out false).out]; rfl, rfl⟩
  obtain ⟨rfl, rfl, rfl⟩ := hcut
  have hE3 : W3.cell? ⟨0, 0, none⟩ = some (.iface 78 (.pointer (some a))) := by
    have h1 := block_lt_of_cell HE.out
    have h2 := HB2.out.size
    exact ((HB3.out.cell (p := ⟨0, 0, none⟩) (by show 0 < _; exact Nat.lt_of_lt_of_le h1 h2)).trans (HB2.out.cell (p := ⟨0, 0, none⟩) h1)).trans HE.out
  have CI := Lib.hid (implParse m n k a W3 hn hk5 hE3)
  rw [HM.out] at CI
  obtain ⟨X, HX0⟩ : ∃ X : Nat, 9223372036854775807 / M = X := ⟨_, rfl⟩
  have hX : Int.tdiv 9223372036854775807 (M : Int) = X := by rw [quoMax, HX0]
  have hX9 : X ≤ 9223372036854775807 := by rw [← HX0]; exact Nat.div_le_self _ _
  rw [HX0] at CI
  clear HX0 hE3
  have hM0 : (0 : Int) < M := by omega
  have hM0' : ((M : Int) == 0) = false := beq_eq_false_iff_ne.2 (by omega)
  have hXw : IntKind.i64.wrap (X : Int) = X := wrap_id (by omega) (by omega)
  have hXw2 : IntKind.u64.wrap (X : Int) = X := by simp [IntKind.wrap, IntKind.bits, IntKind.signed]; omega
  go_wp2_with fail
  refine CI.out.mono ?_
  rintro e w4 ⟨⟨v, rfl⟩, hb4⟩
  have hcS4 : w4.cell? ⟨w1.heap.size + 1, k, none⟩ = some (.int .i64 M) := by
    have h1 := HW2.out
    have h2 := HB3.out.size
    exact ((hb4.cell (p := ⟨w1.heap.size + 1, k, none⟩) (by show w1.heap.size + 1 < _; omega)).trans (HB3.out.cell (p := ⟨w1.heap.size + 1, k, none⟩) h1)).trans HCS.out
  have HB4 := Lib.hid hb4
  clear hb4
  go_wp2
  all_goals go_ret
  exact ⟨by first | rfl | (simp; done) | (show Ending.returned (Value.bool _) = _; trace_state; simp), (HB2.out.trans (HB3.out.mono HB2.out.size)).trans (HB4.out.mono (Nat.le_trans HB2.out.size HB3.out.size))⟩
end Go.Proofs.YtcggmabpbbieaaaDoor
