import Derived.Test.YtcggmabpbbieaaaDoorDec
/-
  spec.DecimalText: the text of a decimal ('decText').
-/
namespace Go.Proofs.YtcggmabpbbieaaaDoor
open Go.RowKit Go.Sort
theorem byte_eq (R : List UInt8) (i : Nat) (h : i < (⟨R.toArray⟩ : ByteArray).size) : ((((({ data := R.toArray } : ByteArray)[i]'h).toNat : Int) == 48) = true) ↔ R[i]? = some 48 := by
  rw [← byte_is R i h]
  cases hb : ((((({ data := R.toArray } : ByteArray)[i]'h).toNat : Int)) == 48) <;> simp [bne, hb]
theorem tn_stop {F r : List UInt8} {k : Nat} (h : r = F.take r.length) (h0 : 0 < r.length) (hb : ¬ (r[r.length - 1]? = some 48)) : tn F (k + 1) r.length = r.length := by
  unfold tn
  rw [if_neg]
  rw [h, List.getElem?_take_of_lt (by rw [← h]; omega), ← h] at hb
  exact hb
theorem tn_go {F r : List UInt8} {k : Nat} (h : r = F.take r.length) (h0 : 0 < r.length) (hb : r[r.length - 1]? = some 48) : tn F (k + 1) r.length = tn F k (r.length - 1) := by
  rw [tn, if_pos]
  rw [h, List.getElem?_take_of_lt (by rw [← h]; omega), ← h] at hb
  exact hb
theorem decText_neg {n : Int} {A F r : List UInt8} (h : decText n = sgn n ++ A ++ [46] ++ List.take (tn F 3 4) F) (hn : n < 0) (hr : r = F.take (tn F 3 4)) : Value.string (({ data := #[45] } : ByteArray) ++ { data := A.toArray } ++ { data := #[46] } ++ { data := r.toArray }) = Value.string { data := (decText n).toArray } := by
  rw [h, ← hr]
  unfold sgn
  rw [if_pos hn]; rfl
theorem decText_pos {n : Int} {A F r : List UInt8} (h : decText n = sgn n ++ A ++ [46] ++ List.take (tn F 3 4) F) (hn : 0 ≤ n) (hr : r = F.take (tn F 3 4)) : Value.string (({ data := A.toArray } : ByteArray) ++ { data := #[46] } ++ { data := r.toArray }) = Value.string { data := (decText n).toArray } := by
  rw [h, ← hr]
  unfold sgn
  rw [if_neg (by omega)]; rfl
set_option maxRecDepth 100000 in
theorem specText (n : Int) (h0 : -9223372036854775808 ≤ n) (h1 : n ≤ 9223372036854775807) (w : World) :
    Calls Tryd.prog 10 #[.int .i64 n] w fun e w' => e = .returned (.string ⟨(decText n).toArray⟩) ∧ ∃ q, w' = w.drewN q := by
  have cM := Lib.hid (mag n h0 h1)
  have hl : (Lib.decDigits n.natAbs).length ≤ 20 := dig20 _ (by omega)
  have hp := Lib.hid (pad_five n.natAbs)
  have hfin : Hid (decText n = sgn n ++ Lib.decDigits (n.natAbs / 10000) ++ [46] ++ (four (n.natAbs % 10000)).take (tn (four (n.natAbs % 10000)) 3 4)) := Lib.hid rfl
  have hB := Lib.hid (Lib.decDigits_length (n.natAbs / 10000))
  have lF : (four (n.natAbs % 10000)).length = 4 := rfl
  have lB : (Lib.decDigits (n.natAbs / 10000)).length ≤ 20 := dig20 _ (by omega)
  go_enter Tryd.func10, Tryd.ntmps10
  go_wp2_with fail
  refine (cM.out _).mono ?_
  rintro e w' ⟨rfl, rfl⟩
  generalize Lib.decDigits n.natAbs = D at *
  generalize Lib.decDigits (n.natAbs / 10000) = A at *
  generalize four (n.natAbs % 10000) = F at *
  go_wp2
  go_loopg [3] 5 (fun gk s3 wr => ∃ l : List UInt8, s3 = .string ⟨l.toArray⟩ ∧ l.length ≤ 24 ∧ 5 ≤ l.length + gk ∧ wr = w ∧ Aside (padTo 5 l = A ++ F))
  case atStart => exact ⟨D, rfl, by omega, by omega, rfl, hp.out⟩
  case round =>
    obtain ⟨l, rfl, hl, hlg, rfl, HA⟩ := hrel
    rcases Nat.lt_or_ge l.length 5 with h4 | h4
    · have h4' : (l.length : Int) < 5 := by omega
      have h5 : ¬ (9223372036854775807 < 1 + l.length) := by omega
      have h5' : ¬ ((9223372036854775807 : Int) < 1 + l.length) := by omega
      go_wp2
      go_roundg (gk - 1)
      case measure => omega
      case rel => exact ⟨48 :: l, ba_app _ _, by simp only [List.length_cons]; omega, by simp only [List.length_cons]; omega, rfl, by rw [pad_one h4]; exact HA.out⟩
    · have e1 : l = A ++ F := by rw [← HA.out, pad_end h4]
      have h4i : ¬ (l.length < 5) := by omega
      have h4' : ¬ ((l.length : Int) < 5) := by omega
      have E1 := Lib.hid e1
      have hlA : Hid (l.length = A.length + 4) := Lib.hid (by rw [e1, List.length_append, lF])
      have hl4 : 4 ≤ l.length := by omega
      have HLG := Lib.hid hlg
      have LF := Lib.hid lF
      clear e1 hlg lF
      go_wp2
      have k1 : IntKind.i64.wrap ((l.length : Int) - 4) = (l.length : Int) - 4 := wrap_id (by omega) (by omega)
      have k2 : 0 ≤ (l.length : Int) - 4 := by omega
      have k3 : ((l.length : Int) - 4).toNat = l.length - 4 := by omega
      have k4 : (l.length : Int) - 4 ≤ l.length := by omega
      have k5 : l.length - 4 ≤ l.length := by omega
      go_quiet (fail)
      have x1 : ({ data := l.toArray } : ByteArray).extract 0 (l.length - 4) = { data := A.toArray } := by
        rw [extract_take, E1.out, List.length_append, LF.out, Nat.add_sub_cancel, List.take_left' rfl]
      have x2 : ({ data := l.toArray } : ByteArray).extract (l.length - 4) l.length = { data := F.toArray } := by
        apply ByteArray.ext
        rw [E1.out, List.length_append, LF.out]
        simp [List.take_of_length_le (Nat.le_of_eq LF.out)]
      rw [x1, x2]
      clear x1 x2 k1 k2 k3 k4 k5
      go_wp2
      go_loopg [5] 3 (fun gk s5 wr' => ∃ r : List UInt8, s5 = .string ⟨r.toArray⟩ ∧ r.length = gk + 1 ∧ r.length ≤ 4 ∧ wr' = wr.drewN nq ∧ Aside (r = F.take r.length ∧ tn F gk r.length = tn F 3 4))
      case atStart => exact ⟨F, rfl, LF.out, by rw [LF.out]; decide, rfl, by rw [List.take_length], by rw [LF.out]⟩
      case round =>
        obtain ⟨r, rfl, hr, hr4, rfl, HB2⟩ := hrel
        have HRL := Lib.hid hr
        cases gk with
        | zero =>
          have g1 : ¬ (1 < r.length) := by omega
          have g2 : ¬ ((1 : Int) < r.length) := by omega
          clear hr
          have HR : Hid (r = F.take (tn F 3 4)) := Lib.hid (by have e1 := HB2.out.1; have e2 : r.length = tn F 3 4 := HB2.out.2; rw [← e2]; exact e1)
          rcases Int.lt_or_le n 0 with hn | hn
          · have HN := Lib.hid hn
            go_wp2
            go_ret
            exact ⟨congrArg Ending.returned (decText_neg hfin.out HN.out HR.out), nq, rfl⟩
          · have HN := Lib.hid hn
            go_wp2
            go_ret
            exact ⟨congrArg Ending.returned (decText_pos hfin.out HN.out HR.out), nq, rfl⟩
        | succ gk =>
          have g1 : 1 < r.length := by omega
          have g2 : (1 : Int) < r.length := by omega
          clear hr
          have hlt : r.length - 1 < ({ data := r.toArray } : ByteArray).size := by show r.length - 1 < r.length; omega
          cases hb : (((({ data := r.toArray } : ByteArray)[r.length - 1]'hlt).toNat : Int) == 48) with
          | true =>
            have HZ := Lib.hid ((byte_eq r _ hlt).1 hb)
            have z1 : IntKind.i64.wrap ((r.length : Int) - 1) = (r.length : Int) - 1 := wrap_id (by omega) (by omega)
            have z2 : ((r.length : Int) - 1).toNat = r.length - 1 := by omega
            go_wp2
            go_roundg gk
            case measure => omega
            case rel =>
              have hlen : (r.take (r.length - 1)).length = r.length - 1 := by rw [List.length_take]; omega
              refine ⟨r.take (r.length - 1), congrArg Value.string (extract_take r _), by have := HRL.out; omega, by omega, rfl, ?_, ?_⟩
              · rw [hlen]
                have e1 := HB2.out.1
                generalize hk : r.length - 1 = k at *
                rw [e1, List.take_take, Nat.min_eq_left (by omega)]
              · rw [hlen, ← tn_go HB2.out.1 (by omega) HZ.out]; exact HB2.out.2
          | false =>
            have HZ : Hid (¬ (r[r.length - 1]? = some 48)) := Lib.hid (fun h => by rw [(byte_eq r _ hlt).2 h] at hb; cases hb)
            have HR : Hid (r = F.take (tn F 3 4)) := Lib.hid (by have e1 := HB2.out.1; have e2 := HB2.out.2; rw [tn_stop e1 (by omega) HZ.out] at e2; rw [← e2]; exact e1)
            rcases Int.lt_or_le n 0 with hn | hn
            · have HN := Lib.hid hn
              go_wp2
              go_ret
              exact ⟨congrArg Ending.returned (decText_neg hfin.out HN.out HR.out), nq, rfl⟩
            · have HN := Lib.hid hn
              go_wp2
              go_ret
              exact ⟨congrArg Ending.returned (decText_pos hfin.out HN.out HR.out), nq, rfl⟩
end Go.Proofs.YtcggmabpbbieaaaDoor
