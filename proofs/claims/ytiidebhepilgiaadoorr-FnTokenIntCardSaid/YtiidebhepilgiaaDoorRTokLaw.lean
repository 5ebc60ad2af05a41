import Derived.Test.YtiidebhepilgiaaDoorRImplTok
/-
  FnTokenInt: the digits and the law.
-/
namespace Go.Proofs.YtiidebhepilgiaaDoorR
open Go.RowKit
set_option maxRecDepth 1000000
def Dig (l : List UInt8) : Prop := ∀ x ∈ l, 48 ≤ x.toNat ∧ x.toNat ≤ 57
theorem pow_big {k : Nat} (h : 20 ≤ k) : 18446744073709551616 < 10 ^ k := by
  have h1 : 10 ^ 20 ≤ 10 ^ k := Nat.pow_le_pow_right (by decide) h
  have h2 : 18446744073709551616 < 10 ^ 20 := by decide
  omega
theorem few {m k n0 : Nat} (hm : 1 ≤ m) (h : m * 10 ^ k ≤ n0) (hn : n0 < 18446744073709551616) : k ≤ 19 := by
  apply Classical.byContradiction
  intro hk
  have := pow_big (k := k) (by omega)
  have h2 : 1 * 10 ^ k ≤ m * 10 ^ k := Nat.mul_le_mul_right _ hm
  omega
theorem divstep (m k n0 : Nat) (h : m * 10 ^ k ≤ n0) : m / 10 * 10 ^ (k + 1) ≤ n0 := by
  have h1 : m / 10 * 10 ≤ m := Nat.div_mul_le_self m 10
  have h2 : m / 10 * 10 ^ (k + 1) = m / 10 * 10 * 10 ^ k := by rw [Nat.pow_succ, Nat.mul_comm (10 ^ k) 10, Nat.mul_assoc]
  rw [h2]
  exact Nat.le_trans (Nat.mul_le_mul_right _ h1) h
theorem digits (n0 wd : Nat) (w : World) (hn : n0 < 18446744073709551616) (hw0 : 1 ≤ wd) (hw : wd ≤ 60) :
    Calls Tryd.prog 7 #[.int .u64 n0, .int .i64 wd] w fun e w' => ∃ l : List UInt8, e = .returned (.string ⟨l.toArray⟩) ∧ Dig l ∧ 1 ≤ l.length ∧ l.length ≤ 60 ∧ Below w.heap.size w w' := by
  go_enter Tryd.func7, Tryd.ntmps7
  go_wp2
  go_loopg [0, 5] 80 (fun gk s0 s5 wx => ∃ (l : List UInt8) (m : Nat), s0 = .int .u64 m ∧ s5 = .string ⟨l.toArray⟩ ∧ l.length + gk = 80 ∧ m * 10 ^ l.length ≤ n0 ∧ Dig l ∧ l.length ≤ 60 ∧ Below w.heap.size w wx)
  case atStart => exact ⟨[], n0, rfl, rfl, rfl, by simp, by intro x hx; simp at hx, by simp, Below.refl _ _⟩
  case round =>
    obtain ⟨l, m, rfl, rfl, hk, hm, hd, hl, hb⟩ := hrel
    have hsz : (⟨l.toArray⟩ : ByteArray).size = l.length := rfl
    have hm2 : m < 18446744073709551616 := by
      have := Nat.le_mul_of_pos_right m (Nat.pos_of_ne_zero (by simp : (10 ^ l.length) ≠ 0))
      omega
    have hrem : Int.tmod (m : Int) 10 = ((m % 10 : Nat) : Int) := by rw [Int.tmod_eq_emod_of_nonneg (by omega)]; omega
    have hquo : Int.tdiv (m : Int) 10 = ((m / 10 : Nat) : Int) := by rw [Int.tdiv_eq_ediv_of_nonneg (by omega)]; omega
    obtain ⟨x, hx⟩ : ∃ x : UInt8, x.toNat = 48 + m % 10 := ⟨UInt8.ofNat (48 + m % 10), by rw [UInt8.toNat_ofNat', Nat.mod_eq_of_lt (by omega)]⟩
    have hmr : m % 10 ≤ 9 := by omega
    have hcv : (convert 24 9 (.slice (some ⟨wr.heap.size, 0, none⟩) 1 1)).run Tryd.prog (wr.alloc (.cells #[.int .u8 (48 + (m % 10 : Nat))] 5)) = .ok (.string ⟨#[x]⟩) (wr.alloc (.cells #[.int .u8 (48 + (m % 10 : Nat))] 5)) :=
      run_convert_bytes_back _ 24 9 5 ⟨wr.heap.size, 0, none⟩ 1 [x] Tryd.underlying24 Tryd.underlying5 Tryd.underlying9 (fun j hj => by
        obtain rfl : j = 0 := by simpa using hj
        show (wr.alloc (.cells #[.int .u8 (48 + (m % 10 : Nat))] 5)).cell? ⟨wr.heap.size, 0, none⟩ = _
        rw [Lib.cell_of_heap (heap_alloc_new wr _)]
        simp [hx])
    have hap : (⟨#[x]⟩ : ByteArray) ++ ⟨l.toArray⟩ = ⟨(x :: l).toArray⟩ := by
      apply ByteArray.ext
      simp
    have hba : Below w.heap.size w (wr.alloc (.cells #[.int .u8 (48 + (m % 10 : Nat))] 5)) := hb.alloc (by have := hb.size; omega) _
    have hw1 : IntKind.u64.wrap (48 + ((m % 10 : Nat) : Int)) = 48 + ((m % 10 : Nat) : Int) := by rw [IntKind.wrap_u64]; omega
    have hw2 : IntKind.u8.wrap (48 + ((m % 10 : Nat) : Int)) = 48 + ((m % 10 : Nat) : Int) := by rw [IntKind.wrap_u8]; omega
    have hw3 : IntKind.u64.wrap ((m / 10 : Nat) : Int) = ((m / 10 : Nat) : Int) := by rw [IntKind.wrap_u64]; omega
    have hdx : Dig (x :: l) := by
      intro y hy
      rcases List.mem_cons.1 hy with rfl | hy
      · omega
      · exact hd y hy
    have hfew := @few m l.length n0
    have hst := divstep m l.length n0 hm
    have HA := Lib.hid hap
    have HBA := Lib.hid hba
    have HDX := Lib.hid hdx
    have HD := Lib.hid hd
    have HB := Lib.hid hb
    have HF := Lib.hid hfew
    have HST := Lib.hid hst
    have HM := Lib.hid hm
    have HX := Lib.hid hx
    generalize hr : m % 10 = r at *
    generalize hq : m / 10 = q at *
    have HR := Lib.hid hr
    have HQ := Lib.hid hq
    clear hba hdx hd hb hfew hst hm hx hr hq
    have hgk : 1 ≤ gk := by omega
    rcases Nat.eq_zero_or_pos m with hm0 | hm0
    · have g0 : ¬ (0 : Int) < m := by omega
      rcases Nat.lt_or_ge l.length wd with hlw | hlw
      · have g1 : (l.length : Int) < wd := by omega
        have hl60 : l.length + 1 ≤ 60 := by omega
        have hr0 : r = 0 := by rw [← HR.out, hm0]
        have hq0 : q = 0 := by rw [← HQ.out, hm0]
        subst hm0 hr0 hq0
        have hcv' : (convert 24 9 (.slice (some ⟨wr.heap.size, 0, none⟩) 1 1)).run Tryd.prog (wr.alloc (.cells #[.int .u8 48] 5)) = .ok (.string ⟨#[x]⟩) (wr.alloc (.cells #[.int .u8 48] 5)) := hcv
        have hba : Below w.heap.size w (wr.alloc (.cells #[.int .u8 48] 5)) := HBA.out
        have HBA2 := Lib.hid hba
        clear hcv hba hw1 hw2 hw3 hrem hquo g0
        go_wp2
        go_roundg (gk - 1)
        case measure => omega
        case rel => exact ⟨x :: l, 0, rfl, rfl, by simp; omega, by simp, HDX.out, by simp; omega, HBA2.out⟩
      · have g1 : ¬ (l.length : Int) < wd := by omega
        clear hm0
        go_wp2
        go_ret
        exact ⟨l, rfl, HD.out, by omega, hl, HB.out⟩
    · have g0 : (0 : Int) < m := by omega
      have hl60 : l.length + 1 ≤ 60 := by have := HF.out hm0 HM.out hn; omega
      clear hm0
      go_wp2
      go_roundg (gk - 1)
      case measure => omega
      case rel => exact ⟨x :: l, q, rfl, rfl, by simp; omega, by simpa using HST.out, HDX.out, by simp; omega, HBA.out⟩
theorem lawTok (n0 z : Nat) (ea : Addr) (w : World) (hn : n0 < 18446744073709551616) (hz : z < 256) (h2 : 2 < w.heap.size) (hT : ∀ x, 48 ≤ x → x ≤ 57 → w.cell? ⟨0, x, none⟩ = some (.int .u8 240)) (hE : w.cell? ⟨2, 0, none⟩ = some (.iface 65 (.pointer (some ea)))) :
    Calls Tryd.prog 4 #[.int .u64 n0, .int .u8 z] w fun e w' => e = .returned (.bool true) ∧ Below w.heap.size w w' := by
  have hrem : Int.tmod (z : Int) 60 = ((z % 60 : Nat) : Int) := by rw [Int.tmod_eq_emod_of_nonneg (by omega)]; omega
  have hw1 : (1 : Int) + ((z % 60 : Nat) : Int) = ((1 + z % 60 : Nat) : Int) := by omega
  have hw2 : IntKind.i64.wrap ((1 + z % 60 : Nat) : Int) = ((1 + z % 60 : Nat) : Int) := by rw [IntKind.wrap_i64]; omega
  have D := Lib.hid (digits n0 (1 + z % 60) w hn (by omega) (by omega))
  have HT := Lib.hid hT
  have HE := Lib.hid hE
  have hz60 : z % 60 ≤ 59 := by omega
  generalize z % 60 = r at *
  generalize hq : 1 + r = q at *
  clear hT hE hq
  go_enter Tryd.func4, Tryd.ntmps4
  go_wp2_with fail
  refine D.out.mono ?_
  rintro e W1 ⟨l, rfl, hd, hl1, hl2, hb⟩
  have hsz := hb.size
  have T := Lib.hid (implTokens l.length ea l W1 (by omega) rfl hl1 hl2 (fun j hj => hd _ (List.getElem_mem hj)) (fun x h1 h2' => (hb.cell (p := ⟨0, x, none⟩) (by show 0 < _; omega)).trans (HT.out x h1 h2')) ((hb.cell (p := ⟨2, 0, none⟩) h2).trans HE.out))
  have HB := Lib.hid hb
  clear hd hb
  go_wp2_with fail
  refine T.out.mono ?_
  rintro e W2 ⟨g, cp, rfl, hc, hb2, hcp⟩
  have x0 := hc 0 _ rfl
  have x1 := hc 1 _ rfl
  have x2 := hc 2 _ rfl
  have x3 := hc 3 _ rfl
  have x4 := hc 4 _ rfl
  have HB2 := Lib.hid (HB.out.trans (hb2.mono hsz))
  clear hb2 hc
  go_wp2
  go_ret
  exact ⟨rfl, HB2.out⟩
end Go.Proofs.YtiidebhepilgiaaDoorR
