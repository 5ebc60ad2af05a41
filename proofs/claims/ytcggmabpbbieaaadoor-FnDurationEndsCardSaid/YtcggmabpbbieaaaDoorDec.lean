import Derived.Test.YtcggmabpbbieaaaDoorMag
import Derived.Lib.AppendIntMem
import Derived.Lib.ItoaLen
import Derived.Lib.QuietBelow
import Derived.WalkSmall
/-
  zzFour and types.Decimal.String: the text of a decimal ('decText').
-/
namespace Go.Proofs.YtcggmabpbbieaaaDoor
open Go.RowKit Go.Sort
def d8 (x : Nat) : UInt8 := UInt8.ofNat (48 + x)
def four (x : Nat) : List UInt8 := [d8 (x / 1000), d8 (x / 100 % 10), d8 (x / 10 % 10), d8 (x % 10)]
def padTo (k : Nat) (l : List UInt8) : List UInt8 := List.replicate (k - l.length) 48 ++ l
theorem pad_one {k : Nat} {l : List UInt8} (h : l.length < k) : padTo k (48 :: l) = padTo k l := by
  unfold padTo
  rw [List.length_cons, show k - l.length = (k - (l.length + 1)) + 1 by omega, List.replicate_succ', List.append_assoc]; rfl
theorem pad_end {k : Nat} {l : List UInt8} (h : k ≤ l.length) : padTo k l = l := by
  unfold padTo
  rw [Nat.sub_eq_zero_of_le h]; rfl
theorem dec_step {u : Nat} (h : ¬ u < 10) : Lib.decDigits u = Lib.decDigits (u / 10) ++ [d8 (u % 10)] := by rw [Lib.decDigits, dif_neg h]; rfl
theorem dec_one {u : Nat} (h : u < 10) : Lib.decDigits u = [d8 u] := Lib.decDigits_one h
theorem d8z {x : Nat} (h : x = 0) : d8 x = 48 := by subst h; rfl
theorem pad_four {x : Nat} (h : x < 10000) : padTo 4 (Lib.decDigits x) = four x := by
  unfold four
  by_cases h1 : x < 10
  · rw [dec_one h1, d8z (show x / 1000 = 0 by omega), d8z (show x / 100 % 10 = 0 by omega), d8z (show x / 10 % 10 = 0 by omega), Nat.mod_eq_of_lt h1]; rfl
  · rw [dec_step h1]
    by_cases h2 : x / 10 < 10
    · rw [dec_one h2, d8z (show x / 1000 = 0 by omega), d8z (show x / 100 % 10 = 0 by omega), Nat.mod_eq_of_lt h2]; rfl
    · rw [dec_step h2]
      by_cases h3 : x / 10 / 10 < 10
      · rw [dec_one h3, d8z (show x / 1000 = 0 by omega), show x / 100 % 10 = x / 10 / 10 by omega]; rfl
      · rw [dec_step h3, dec_one (by omega), show x / 1000 = x / 10 / 10 / 10 by omega, show x / 100 % 10 = x / 10 / 10 % 10 by omega]; rfl
theorem pad_five (N : Nat) : padTo 5 (Lib.decDigits N) = Lib.decDigits (N / 10000) ++ four (N % 10000) := by
  by_cases h : N < 10000
  · have h4 := pad_four h
    have hl : (four N).length = 4 := rfl
    have hlen : (Lib.decDigits N).length ≤ 4 := by rw [Lib.decDigits_length]; exact nDigits_le 3 N (by omega)
    rw [show N / 10000 = 0 by omega, Nat.mod_eq_of_lt h, dec_one (u := 0) (by decide), ← h4]
    unfold padTo
    generalize Lib.decDigits N = D at *
    rw [show 5 - D.length = (4 - D.length) + 1 by omega, List.replicate_succ, List.cons_append]; rfl
  · have e : Lib.decDigits N = Lib.decDigits (N / 10000) ++ four (N % 10000) := by
      rw [dec_step (u := N) (by omega), dec_step (u := N / 10) (by omega), dec_step (u := N / 10 / 10) (by omega), dec_step (u := N / 10 / 10 / 10) (by omega)]
      rw [show N / 10 / 10 / 10 / 10 = N / 10000 by omega]
      unfold four
      rw [show N % 10000 / 1000 = N / 10 / 10 / 10 % 10 by omega, show N % 10000 / 100 % 10 = N / 10 / 10 % 10 by omega, show N % 10000 / 10 % 10 = N / 10 % 10 by omega, show N % 10000 % 10 = N % 10 by omega]
      simp
    rw [← e]
    apply pad_end
    rw [e, List.length_append, Lib.decDigits_length]
    have := Lib.nDigits_pos (N / 10000)
    show 5 ≤ _ + 4
    omega
theorem itoa_nat {x : Int} (h : 0 ≤ x) : Lib.itoa x = Lib.decDigits x.toNat := by unfold Lib.itoa; rw [if_neg (by omega)]
abbrev Tab (w : World) : Prop := Lib.TabIs Tryd.prog w "internal/strconv.uint64pow10" .u64 Lib.pow10Tab
theorem gPow : Tryd.prog.globalNamed "internal/strconv.uint64pow10" = some 2 := by kernel_rfl
theorem tab_below {w w' : World} (h : Tab w) (hb : Below w.heap.size w w') : Tab w' :=
  var?_below hb gPow (block_lt_of_cell (Lib.TabIs.cell h gPow 0 (by decide))) h
theorem fmtInt (n : Int) (h0 : -9223372036854775808 ≤ n) (h1 : n ≤ 9223372036854775807) (w : World) (h : Tab w) :
    Calls Tryd.prog 24 #[.int .i64 n, .int .i64 10] w fun e w' => e = .returned (.string ⟨(Lib.itoa n).toArray⟩) ∧ Below w.heap.size w w' := by
  refine (Tryd.strconv_FormatInt_10 n h0 h1 w h).mono ?_
  rintro e w' ⟨rfl, k, os, rfl⟩
  exact ⟨rfl, Lib.below_grow _ w (Nat.le_refl _) k os⟩
theorem zzFour (x : Nat) (hx : x < 10000) (w : World) (h : Tab w) :
    Calls Tryd.prog 25 #[.int .i64 x] w fun e w' => e = .returned (.string ⟨(four x).toArray⟩) ∧ Below w.heap.size w w' := by
  have cF := Lib.hid (fmtInt x (by omega) (by omega))
  go_enter Tryd.func25, Tryd.ntmps25
  go_wp2_with fail
  refine (cF.out _ h).mono ?_
  rintro e w' ⟨rfl, hb⟩
  have hI : Lib.itoa (x : Int) = Lib.decDigits x := by rw [itoa_nat (by omega)]; simp
  have hlen : (Lib.decDigits x).length ≤ 4 := by rw [Lib.decDigits_length]; exact nDigits_le 3 x (by omega)
  rw [hI]
  have hP := Lib.hid (pad_four hx)
  have hb := Lib.hid hb
  generalize hD : Lib.decDigits x = D at *
  clear hI hD
  go_wp2
  go_loopg [3] (4 - D.length) (fun gk s3 wr => ∃ l : List UInt8, s3 = .string ⟨l.toArray⟩ ∧ l.length + gk = 4 ∧ wr = w' ∧ Aside (padTo 4 l = four x))
  case atStart => exact ⟨D, rfl, by omega, rfl, hP.out⟩
  case round =>
    obtain ⟨l, rfl, hl, rfl, HA⟩ := hrel
    have HL := Lib.hid hl
    cases gk with
    | zero =>
      have h4 : ¬ (l.length < 4) := by omega
      have h4' : ¬ ((l.length : Int) < 4) := by omega
      clear hl
      go_wp2
      go_ret
      exact ⟨by rw [← HA.out, pad_end (by have := HL.out; omega)]; rfl, hb.out⟩
    | succ gk =>
      have h4 : l.length < 4 := by omega
      have h4' : (l.length : Int) < 4 := by omega
      have h5 : ¬ (9223372036854775807 < 1 + l.length) := by omega
      have h5' : ¬ ((9223372036854775807 : Int) < 1 + l.length) := by omega
      clear hl
      go_wp2
      go_roundg gk
      case measure => omega
      case rel => exact ⟨48 :: l, ba_app _ _, by have := HL.out; simp only [List.length_cons]; omega, rfl, by rw [pad_one h4]; exact HA.out⟩
def tn (R : List UInt8) : Nat → Nat → Nat
  | 0, j => j
  | k + 1, j => if R[j - 1]? = some 48 then tn R k (j - 1) else j
theorem tn_app (P F : List UInt8) : ∀ (k j : Nat), k < j → j ≤ F.length → tn (P ++ F) k (P.length + j) = P.length + tn F k j
  | 0, _, _, _ => rfl
  | k + 1, j, hk, hj => by
    unfold tn
    rw [show P.length + j - 1 = P.length + (j - 1) by omega, List.getElem?_append_right (by omega), show P.length + (j - 1) - P.length = j - 1 by omega]
    split
    · exact tn_app P F k (j - 1) (by omega) (by omega)
    · rfl
theorem byte_is (R : List UInt8) (i : Nat) (h : i < (⟨R.toArray⟩ : ByteArray).size) : ((((({ data := R.toArray } : ByteArray)[i]'h).toNat : Int) != 48) = false) ↔ R[i]? = some 48 := by
  have hl : i < R.length := h
  have e : ({ data := R.toArray } : ByteArray)[i]'h = R[i]'hl := rfl
  rw [e, List.getElem?_eq_getElem hl]
  constructor
  · intro hb
    have : (R[i].toNat : Int) = 48 := by simpa using hb
    congr 1
    exact UInt8.toNat_inj.1 (by simpa using (by exact_mod_cast this : R[i].toNat = 48))
  · intro he
    have : R[i] = 48 := by simpa using he
    rw [this]; rfl
theorem byte_not (R : List UInt8) (i : Nat) (h : i < (⟨R.toArray⟩ : ByteArray).size) (hb : (((({ data := R.toArray } : ByteArray)[i]'h).toNat : Int) != 48) = true) : R[i]? ≠ some 48 := by
  intro he
  rw [(byte_is R i h).2 he] at hb
  cases hb
theorem extract_take (R : List UInt8) (j : Nat) : ({ data := R.toArray } : ByteArray).extract 0 j = { data := (R.take j).toArray } := by
  apply ByteArray.ext
  simp
theorem wrap_id {x : Int} (h0 : -9223372036854775808 ≤ x) (h1 : x ≤ 9223372036854775807) : IntKind.i64.wrap x = x := by
  simp [IntKind.wrap, IntKind.bits, IntKind.signed]; omega
theorem alloc_cell (w : World) (c : Array Value) (t : TypeId) (i : Nat) : (w.alloc (Obj.cells c t)).cell? ⟨w.heap.size, i, none⟩ = c[i]? := by
  unfold World.cell? World.alloc; simp
theorem tdiv_nat {n : Int} (h : 0 ≤ n) (k : Int) : Int.tdiv n k = n / k := Int.tdiv_eq_ediv_of_nonneg h
theorem tmod_nat {n : Int} (h : 0 ≤ n) (k : Int) : Int.tmod n k = n % k := Int.tmod_eq_emod_of_nonneg h
def sgn (n : Int) : List UInt8 := if n < 0 then [45] else []
/-- The text of a decimal: what both make. -/
def decText (n : Int) : List UInt8 := sgn n ++ Lib.decDigits (n.natAbs / 10000) ++ [46] ++ (four (n.natAbs % 10000)).take (tn (four (n.natAbs % 10000)) 3 4)
theorem decText_of (P F : List UInt8) (hF : F.length = 4) : (P ++ F).take (tn (P ++ F) 3 (P ++ F).length) = P ++ F.take (tn F 3 4) := by
  rw [List.length_append, hF, tn_app P F 3 4 (by omega) (by omega), List.take_append, List.take_of_length_le (by omega), show P.length + tn F 3 4 - P.length = tn F 3 4 by omega]
set_option maxRecDepth 100000 in
theorem str_pos (n : Int) (h0 : -9223372036854775808 ≤ n) (h1 : n ≤ 9223372036854775807) (hneg : 0 ≤ n) (w : World) (ht : Tab w) : Calls Tryd.prog 16 #[.agg #[.int .i64 n]] w fun e w' => e = .returned (.string ⟨(decText n).toArray⟩) ∧ Below w.heap.size w w' := by
  obtain ⟨q, hq⟩ : ∃ q : Nat, n / 10000 = (q : Int) := ⟨(n / 10000).toNat, by omega⟩
  obtain ⟨r, hr⟩ : ∃ r : Nat, n % 10000 = (r : Int) := ⟨(n % 10000).toNat, by omega⟩
  have HQ : Hid (n.natAbs / 10000 = q) := Lib.hid (by omega)
  have HR : Hid (n.natAbs % 10000 = r) := Lib.hid (by omega)
  have hq9 : (q : Int) ≤ 922337203685477 := by omega
  have hr9 : r < 10000 := by omega
  have cF := Lib.hid (fmtInt q (by omega) (by omega))
  have cZ := Lib.hid (zzFour r hr9)
  have m1 : Int.tdiv n 10000 = q := by rw [tdiv_nat hneg, hq]
  have m2 : Int.tmod n 10000 = r := by rw [tmod_nat hneg, hr]
  go_enter Tryd.func16, Tryd.ntmps16
  go_wp2_with fail
  refine wp_region_quiet_below (by kernel_rfl) (by kernel_rfl) ?_
  have c0 := alloc_cell w #[.int .i64 n] 41 0
  have hB : Below w.heap.size w (w.alloc (Obj.cells #[Value.int IntKind.i64 n] 41)) := (Below.refl _ _).alloc (Nat.le_refl _) _
  have ht1 := tab_below ht hB
  generalize w.alloc (Obj.cells #[Value.int IntKind.i64 n] 41) = W1 at *
  have cF' : ∀ d os, Calls Tryd.prog 24 #[.int .i64 q, .int .i64 10] (grow (redrawn W1 d) os) fun e w'' => e = .returned (.string ⟨(Lib.itoa q).toArray⟩) ∧ ∃ p : Regrown, w'' = grow (redrawn W1 p.d) p.os := fun d os => Calls.regrown_of (cF.out _ (tab_below ht1 (below_regrown W1 d os)))
  have cZ' : ∀ d os, Calls Tryd.prog 25 #[.int .i64 r] (grow (redrawn W1 d) os) fun e w'' => e = .returned (.string ⟨(four r).toArray⟩) ∧ ∃ p : Regrown, w'' = grow (redrawn W1 p.d) p.os := fun d os => Calls.regrown_of (cZ.out _ (tab_below ht1 (below_regrown W1 d os)))
  have k0 := cell_regrown c0
  have lA : (Lib.itoa q).length ≤ 21 := Lib.itoa_length_le _ (by omega) (by omega)
  have lB : (four r).length = 4 := rfl
  have hfin : Hid (decText n = (Lib.itoa q ++ [46] ++ four r).take (tn (Lib.itoa q ++ [46] ++ four r) 3 (Lib.itoa q ++ [46] ++ four r).length)) := Lib.hid (by
    unfold decText sgn
    rw [decText_of _ _ lB, itoa_nat (by omega)]
    simp only [Int.toNat_natCast]
    rw [HQ.out, HR.out]
    first
      | (rw [if_pos hneg]; done)
      | (rw [if_neg (by omega)]; simp))
  generalize Lib.itoa q = A at *
  generalize four r = B at *
  have CF := Lib.hid cF'
  have CZ := Lib.hid cZ'
  have HB := Lib.hid hB
  clear cF' cZ' hB c0 ht1 cF cZ
  have v1 : IntKind.i64.wrap (q : Int) = q := wrap_id (by omega) (by omega)
  have v2 : IntKind.i64.wrap (r : Int) = r := wrap_id (by omega) (by omega)
  have n1 : ¬ (9223372036854775807 < A.length + 1) := by omega
  have n2 : ¬ (9223372036854775807 < A.length + 1 + B.length) := by omega
  have LA := Lib.hid lA
  have LB := Lib.hid lB
  have HN := Lib.hid hneg
  clear lA lB hneg
  repeat (quiet_step (first | exact CF.out _ _ | exact CZ.out _ _))
  refine wpQuiet_nil ?_
  intro _ hw'
  obtain ⟨⟨dq, osq⟩, hw''⟩ := hw'
  subst hw''
  go_wp2
  have HBE : Hid (Below w.heap.size w (grow (redrawn W1 dq) osq)) := Lib.hid (HB.out.trans ((below_regrown W1 dq osq).mono HB.out.size))
  generalize grow (redrawn W1 dq) osq = w3 at *
  have hR : Value.string ({ data := A.toArray } ++ { data := #[46] } ++ { data := B.toArray }) = Value.string { data := (A ++ [46] ++ B).toArray } := rfl
  have h4 : 4 ≤ (A ++ [46] ++ B).length := by have := LB.out; simp; omega
  have h5 : (A ++ [46] ++ B).length ≤ 30 := by have := LB.out; have := LA.out; simp; omega
  have hRl : (A.length : Int) + 1 + B.length = ((A ++ [46] ++ B).length : Nat) := by simp; omega
  rw [hRl]
  clear hRl
  rw [hR]
  clear hR
  generalize A ++ [46] ++ B = R at *
  go_loopg [6, 7] 3 (fun gk s6 s7 wr => ∃ (j t : Nat), s6 = .int .i64 j ∧ s7 = .int .i64 t ∧ t + gk = 3 ∧ j + t = R.length ∧ wr = w3 ∧ Aside (tn R gk j = tn R 3 R.length))
  case atStart => exact ⟨R.length, 0, rfl, rfl, rfl, rfl, rfl, rfl⟩
  case round =>
    obtain ⟨j, t, rfl, rfl, htg, hjt, rfl, HA⟩ := hrel
    cases gk with
    | zero =>
      have hj1 : 1 ≤ j := by omega
      have hjR : j ≤ R.length := by omega
      have ht3 : ¬ (t < 3) := by omega
      have ht3' : ¬ ((t : Int) < 3) := by omega
      have HJ := Lib.hid hjt
      have HG := Lib.hid htg
      clear hjt htg
      go_wp2
      go_ret
      refine ⟨?_, HBE.out⟩
      rw [hfin.out, ← HA.out]
      exact congrArg (fun s => Ending.returned (Value.string s)) (extract_take R j)
    | succ gk =>
      have hj1 : 1 ≤ j := by omega
      have hjR : j ≤ R.length := by omega
      have ht3 : t < 3 := by omega
      have ht3' : (t : Int) < 3 := by omega
      have HJ := Lib.hid hjt
      have HG := Lib.hid htg
      clear hjt htg
      have hlt : j - 1 < ({ data := R.toArray } : ByteArray).size := by show j - 1 < R.length; omega
      cases hb : (((({ data := R.toArray } : ByteArray)[j - 1]'hlt).toNat : Int) != 48) with
      | false =>
        have HZ := Lib.hid ((byte_is R _ hlt).1 hb)
        go_wp2
        go_roundg gk
        case measure => omega
        case rel => exact ⟨j - 1, t + 1, by congr 1; omega, by congr 1, by have := HG.out; omega, by have := HJ.out; omega, rfl, by rw [← HA.out]; show _ = (if _ then _ else _); rw [if_pos HZ.out]⟩
      | true =>
        have HZ := Lib.hid (byte_not R _ hlt hb)
        go_wp2
        go_ret
        refine ⟨?_, HBE.out⟩
        have e : tn R (gk + 1) j = j := if_neg HZ.out
        rw [hfin.out, ← HA.out, e]
        exact congrArg (fun s => Ending.returned (Value.string s)) (extract_take R j)
set_option maxRecDepth 100000 in
theorem str_neg (n : Int) (h0 : -9223372036854775808 ≤ n) (h1 : n ≤ 9223372036854775807) (hneg : n < 0) (w : World) (ht : Tab w) : Calls Tryd.prog 16 #[.agg #[.int .i64 n]] w fun e w' => e = .returned (.string ⟨(decText n).toArray⟩) ∧ Below w.heap.size w w' := by
  obtain ⟨N, hN⟩ : ∃ N : Nat, n = -(N : Int) := ⟨n.natAbs, by omega⟩
  obtain ⟨q, hq⟩ : ∃ q : Nat, N / 10000 = q := ⟨_, rfl⟩
  obtain ⟨r, hr⟩ : ∃ r : Nat, N % 10000 = r := ⟨_, rfl⟩
  have HQ : Hid (n.natAbs / 10000 = q) := Lib.hid (by omega)
  have HR : Hid (n.natAbs % 10000 = r) := Lib.hid (by omega)
  have hq9 : (q : Int) ≤ 922337203685477 := by omega
  have hr9 : r < 10000 := by omega
  have cF := Lib.hid (fmtInt q (by omega) (by omega))
  have cZ := Lib.hid (zzFour r hr9)
  have m1 : Int.tdiv n 10000 = -(q : Int) := by rw [hN, Int.neg_tdiv, tdiv_nat (by omega)]; omega
  have m2 : -(q : Int) * 10000 - n = r := by omega
  have m3 : IntKind.i64.wrap (-(q : Int) * 10000) = -(q : Int) * 10000 := wrap_id (by omega) (by omega)
  have m4 : IntKind.i64.wrap (-(q : Int)) = -(q : Int) := wrap_id (by omega) (by omega)
  have HN0 := Lib.hid hN
  clear hN
  go_enter Tryd.func16, Tryd.ntmps16
  go_wp2_with fail

  have c0 := alloc_cell w #[.int .i64 n] 41 0
  have hB : Below w.heap.size w (w.alloc (Obj.cells #[Value.int IntKind.i64 n] 41)) := (Below.refl _ _).alloc (Nat.le_refl _) _
  have ht1 := tab_below ht hB
  generalize w.alloc (Obj.cells #[Value.int IntKind.i64 n] 41) = W1 at *
  have lA : (Lib.itoa q).length ≤ 21 := Lib.itoa_length_le _ (by omega) (by omega)
  have lB : (four r).length = 4 := rfl
  have hfin : Hid (decText n = ([45] ++ Lib.itoa q ++ [46] ++ four r).take (tn ([45] ++ Lib.itoa q ++ [46] ++ four r) 3 ([45] ++ Lib.itoa q ++ [46] ++ four r).length)) := Lib.hid (by
    unfold decText sgn
    rw [decText_of _ _ lB, itoa_nat (by omega)]
    simp only [Int.toNat_natCast]
    rw [HQ.out, HR.out]
    first
      | (rw [if_pos hneg]; done)
      | (rw [if_neg (by omega)]; simp))
  generalize Lib.itoa q = A at *
  generalize four r = B at *
  have CF := Lib.hid cF
  have CZ := Lib.hid cZ
  have HB := Lib.hid hB
  have HT := Lib.hid ht1
  clear cF cZ hB c0 ht1
  have n0 : ¬ (9223372036854775807 < 1 + A.length) := by omega
  have n1 : ¬ (9223372036854775807 < 1 + A.length + 1) := by omega
  have n2 : ¬ (9223372036854775807 < 1 + A.length + 1 + B.length) := by omega
  have LA := Lib.hid lA
  have LB := Lib.hid lB
  have HN := Lib.hid hneg
  clear lA lB hneg
  refine (CF.out _ HT.out).mono ?_
  rintro e w2 ⟨rfl, hb2⟩
  have HB2 := Lib.hid hb2
  clear hb2
  go_wp2_with fail
  refine (CZ.out _ (tab_below HT.out HB2.out)).mono ?_
  rintro e w3 ⟨rfl, hb3⟩
  have HB3 := Lib.hid (hb3.mono HB2.out.size)
  clear hb3
  go_wp2
  have HBE : Hid (Below w.heap.size w w3) := Lib.hid (HB.out.trans ((HB2.out.trans HB3.out).mono HB.out.size))
  have hR : Value.string ({ data := #[45] } ++ { data := A.toArray } ++ { data := #[46] } ++ { data := B.toArray }) = Value.string { data := ([45] ++ A ++ [46] ++ B).toArray } := rfl
  have h4 : 4 ≤ ([45] ++ A ++ [46] ++ B).length := by have := LB.out; simp; omega
  have h5 : ([45] ++ A ++ [46] ++ B).length ≤ 30 := by have := LB.out; have := LA.out; simp; omega
  have hRl : 1 + (A.length : Int) + 1 + B.length = (([45] ++ A ++ [46] ++ B).length : Nat) := by simp; omega
  rw [hRl]
  clear hRl
  rw [hR]
  clear hR
  generalize [45] ++ A ++ [46] ++ B = R at *
  go_loopg [6, 7] 3 (fun gk s6 s7 wr => ∃ (j t : Nat), s6 = .int .i64 j ∧ s7 = .int .i64 t ∧ t + gk = 3 ∧ j + t = R.length ∧ wr = w3 ∧ Aside (tn R gk j = tn R 3 R.length))
  case atStart => exact ⟨R.length, 0, rfl, rfl, rfl, rfl, rfl, rfl⟩
  case round =>
    obtain ⟨j, t, rfl, rfl, htg, hjt, rfl, HA⟩ := hrel
    cases gk with
    | zero =>
      have hj1 : 1 ≤ j := by omega
      have hjR : j ≤ R.length := by omega
      have ht3 : ¬ (t < 3) := by omega
      have ht3' : ¬ ((t : Int) < 3) := by omega
      have HJ := Lib.hid hjt
      have HG := Lib.hid htg
      clear hjt htg
      go_wp2
      go_ret
      refine ⟨?_, HBE.out⟩
      rw [hfin.out, ← HA.out]
      exact congrArg (fun s => Ending.returned (Value.string s)) (extract_take R j)
    | succ gk =>
      have hj1 : 1 ≤ j := by omega
      have hjR : j ≤ R.length := by omega
      have ht3 : t < 3 := by omega
      have ht3' : (t : Int) < 3 := by omega
      have HJ := Lib.hid hjt
      have HG := Lib.hid htg
      clear hjt htg
      have hlt : j - 1 < ({ data := R.toArray } : ByteArray).size := by show j - 1 < R.length; omega
      cases hb : (((({ data := R.toArray } : ByteArray)[j - 1]'hlt).toNat : Int) != 48) with
      | false =>
        have HZ := Lib.hid ((byte_is R _ hlt).1 hb)
        go_wp2
        go_roundg gk
        case measure => omega
        case rel => exact ⟨j - 1, t + 1, by congr 1; omega, by congr 1, by have := HG.out; omega, by have := HJ.out; omega, rfl, by rw [← HA.out]; show _ = (if _ then _ else _); rw [if_pos HZ.out]⟩
      | true =>
        have HZ := Lib.hid (byte_not R _ hlt hb)
        go_wp2
        go_ret
        refine ⟨?_, HBE.out⟩
        have e : tn R (gk + 1) j = j := if_neg HZ.out
        rw [hfin.out, ← HA.out, e]
        exact congrArg (fun s => Ending.returned (Value.string s)) (extract_take R j)
end Go.Proofs.YtcggmabpbbieaaaDoor
