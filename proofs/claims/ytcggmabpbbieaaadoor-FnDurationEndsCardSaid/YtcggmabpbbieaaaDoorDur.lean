import Derived.Test.YtcggmabpbbieaaaDoorDec
import Derived.Deep.CutRange
import Derived.Lib.BufferOld
/-
  types.Duration.String: the text of a duration.
-/
namespace Go.Proofs.YtcggmabpbbieaaaDoor
open Go.RowKit Go.Sort
def dp (q : Nat) (u : List UInt8) : List UInt8 := if q = 0 then [] else Lib.decDigits q ++ u
def durBody (N : Nat) : List UInt8 :=
  dp (N / 86400000) [100] ++ dp (N % 86400000 / 3600000) [104] ++ dp (N % 86400000 % 3600000 / 60000) [109] ++ dp (N % 86400000 % 3600000 % 60000 / 1000) [115] ++ dp (N % 86400000 % 3600000 % 60000 % 1000) [109, 115]
def durText (n : Int) : List UInt8 := if n = 0 then [48, 109, 115] else sgn n ++ durBody n.natAbs
/-- Block b is a buffer that this call has made, and holds the bytes l; what stood there stands. -/
def BufAt (w : World) (b : Nat) (l : List UInt8) (wx : World) : Prop := Lib.IsBuffer 55 5 b b (Lib.byteCells l) wx ∧ Below w.heap.size w wx ∧ w.heap.size ≤ b ∧ l.length ≤ 200 ∧ Tab w
theorem BufAt.le {w wx : World} {b : Nat} {l : List UInt8} (h : BufAt w b l wx) : b ≤ wx.heap.size := Nat.le_of_lt h.1.lt
theorem wByte {w wx : World} {b : Nat} {l : List UInt8} (h : BufAt w b l wx) (z : Int) (c : UInt8) (hz : z = c.toNat) (hl : l.length ≤ 190) :
    Calls Tryd.prog 26 #[.pointer (some ⟨b, 0, none⟩), .int .u8 z] wx fun e w' => e = .returned .nilIface ∧ BufAt w b (l ++ [c]) w' := by
  refine (Tryd.Buffer_WriteByte b b _ z wx h.1 h.le (Lib.byteCells_one _) (by rw [Lib.byteCells_length]; omega)).mono ?_
  rintro e w' ⟨rfl, h1, h2⟩
  refine ⟨rfl, ?_, h.2.1.trans (h2.mono h.2.2.1), h.2.2.1, by simp; omega, h.2.2.2.2⟩
  have e1 : Lib.byteCells (l ++ [c]) = Lib.byteCells l ++ [Value.int .u8 z] := by subst hz; simp [Lib.byteCells]
  rw [e1]; exact h1
theorem wStr {w wx : World} {b : Nat} {l : List UInt8} (h : BufAt w b l wx) (s : List UInt8) (hl : l.length + s.length ≤ 190) :
    Calls Tryd.prog 27 #[.pointer (some ⟨b, 0, none⟩), .string ⟨s.toArray⟩] wx fun e w' => (∃ v, e = .returned (.tuple #[.int .i64 v, .nilIface])) ∧ BufAt w b (l ++ s) w' := by
  have hs : (⟨s.toArray⟩ : ByteArray).size = s.length := rfl
  refine (Tryd.Buffer_WriteString b b _ ⟨s.toArray⟩ wx h.1 h.le (Lib.byteCells_one _) (by rw [Lib.byteCells_length, hs]; omega)).mono ?_
  rintro e w' ⟨rfl, h1, h2⟩
  refine ⟨⟨_, rfl⟩, ?_, h.2.1.trans (h2.mono h.2.2.1), h.2.2.1, by simp; omega, h.2.2.2.2⟩
  rw [Lib.byteCells_append]; exact h1
theorem wFmt {w wx : World} {b : Nat} {l : List UInt8} (h : BufAt w b l wx) (a : Nat) (ha : (a : Int) ≤ 9223372036854775807) :
    Calls Tryd.prog 24 #[.int .i64 a, .int .i64 10] wx fun e w' => e = .returned (.string ⟨(Lib.decDigits a).toArray⟩) ∧ BufAt w b l w' := by
  refine (fmtInt a (by omega) ha wx (tab_below h.2.2.2.2 h.2.1)).mono ?_
  rintro e w' ⟨rfl, h1⟩
  refine ⟨?_, h.1.old h1, h.2.1.trans (h1.mono h.2.1.size), h.2.2.1, h.2.2.2.1, h.2.2.2.2⟩
  rw [itoa_nat (by omega)]; simp
theorem wEnd {w wx : World} {b : Nat} {l : List UInt8} (h : BufAt w b l wx) :
    Calls Tryd.prog 28 #[.pointer (some ⟨b, 0, none⟩)] wx fun e w' => e = .returned (.string ⟨l.toArray⟩) ∧ Below w.heap.size w w' := by
  refine (Tryd.Buffer_String b b l wx h.1).mono ?_
  rintro e w' ⟨rfl, n, rfl⟩
  exact ⟨rfl, below_drewN h.2.1 n⟩
theorem dp_zero {a : Nat} (h : a = 0) (u : List UInt8) (l : List UInt8) : l ++ dp a u = l := by rw [dp, if_pos h, List.append_nil]
theorem dp_pos {a : Nat} (h : 0 < a) (u : List UInt8) (l : List UInt8) : l ++ dp a u = l ++ Lib.decDigits a ++ u := by rw [dp, if_neg (by omega), List.append_assoc]
theorem dp_len {a : Nat} (ha : a ≤ 9223372036854775807) (u : List UInt8) (hu : u.length ≤ 2) : (dp a u).length ≤ 22 := by
  unfold dp
  split
  · simp
  · have := dig20 a (by omega); simp; omega

set_option maxRecDepth 100000 in
theorem durWalk (N a1 a2 a3 a4 r1 r2 r3 r4 : Nat) (n : Int) (hn : (n == 0) = false) (h0 : -9223372036854775808 < n) (h1 : n ≤ 9223372036854775807) (hnN : n.natAbs = N)
    (e1 : N / 86400000 = a1) (f1 : N % 86400000 = r1) (e2 : r1 / 3600000 = a2) (f2 : r1 % 3600000 = r2) (e3 : r2 / 60000 = a3) (f3 : r2 % 60000 = r3) (e4 : r3 / 1000 = a4) (f4 : r3 % 1000 = r4) (w : World) (ht : Tab w) :
    Calls Tryd.prog 19 #[.agg #[.int .i64 n]] w fun e w' => e = .returned (.string ⟨(sgn n ++ dp a1 [100] ++ dp a2 [104] ++ dp a3 [109] ++ dp a4 [115] ++ dp r4 [109, 115]).toArray⟩) ∧ Below w.heap.size w w' := by
  have bN : (N : Int) ≤ 9223372036854775807 := by omega
  have b1 : (a1 : Int) ≤ 106751991167 := by omega
  have b2 : (a2 : Int) ≤ 24 := by omega
  have b3 : (a3 : Int) ≤ 60 := by omega
  have b4 : (a4 : Int) ≤ 60 := by omega
  have c1 : (r1 : Int) ≤ 86400000 := by omega
  have c2 : (r2 : Int) ≤ 3600000 := by omega
  have c3 : (r3 : Int) ≤ 60000 := by omega
  have c4 : (r4 : Int) ≤ 1000 := by omega
  have m1 : Int.tdiv (N : Int) 86400000 = a1 := by rw [tdiv_nat (by omega)]; omega
  have m2 : Int.tdiv (r1 : Int) 3600000 = a2 := by rw [tdiv_nat (by omega)]; omega
  have m3 : Int.tdiv (r2 : Int) 60000 = a3 := by rw [tdiv_nat (by omega)]; omega
  have m4 : Int.tdiv (r3 : Int) 1000 = a4 := by rw [tdiv_nat (by omega)]; omega
  have p1 : Int.tmod (N : Int) 86400000 = r1 := by rw [tmod_nat (by omega)]; omega
  have p2 : Int.tmod (r1 : Int) 3600000 = r2 := by rw [tmod_nat (by omega)]; omega
  have p3 : Int.tmod (r2 : Int) 60000 = r3 := by rw [tmod_nat (by omega)]; omega
  have p4 : Int.tmod (r3 : Int) 1000 = r4 := by rw [tmod_nat (by omega)]; omega
  have q1 : IntKind.i64.wrap (a1 : Int) = a1 := wrap_id (by omega) (by omega)
  have q2 : IntKind.i64.wrap (a2 : Int) = a2 := wrap_id (by omega) (by omega)
  have q3 : IntKind.i64.wrap (a3 : Int) = a3 := wrap_id (by omega) (by omega)
  have q4 : IntKind.i64.wrap (a4 : Int) = a4 := wrap_id (by omega) (by omega)
  have s1 : IntKind.i64.wrap (r1 : Int) = r1 := wrap_id (by omega) (by omega)
  have s2 : IntKind.i64.wrap (r2 : Int) = r2 := wrap_id (by omega) (by omega)
  have s3 : IntKind.i64.wrap (r3 : Int) = r3 := wrap_id (by omega) (by omega)
  have s4 : IntKind.i64.wrap (r4 : Int) = r4 := wrap_id (by omega) (by omega)
  clear e1 f1 e2 f2 e3 f3 e4 f4
  have HNN := Lib.hid hnN
  have HT := Lib.hid ht
  clear hnN ht
  go_enter Tryd.func19, Tryd.ntmps19
  go_upto_if 16 with fail
  have hc0 : ((w.alloc (Obj.cells #[Value.int IntKind.i64 n] 35)).alloc (Obj.cells #[Value.slice none 0 0, Value.int IntKind.i64 0, Value.int IntKind.i8 0] 55)).cell? ⟨w.heap.size, 0, none⟩ = some (.int .i64 n) := by
    rw [World.cell?_of_block (w := w.alloc (Obj.cells #[Value.int IntKind.i64 n] 35)) (Below.heap_alloc _ _ _ (by show w.heap.size < (w.heap.push _).size; rw [Array.size_push]; omega))]
    exact alloc_cell w _ 35 0
  have hbuf : BufAt w (w.heap.size + 1) [] ((w.alloc (Obj.cells #[Value.int IntKind.i64 n] 35)).alloc (Obj.cells #[Value.slice none 0 0, Value.int IntKind.i64 0, Value.int IntKind.i8 0] 55)) := by
    have hf := Lib.fresh_isBuffer 55 5 (w.alloc (Obj.cells #[Value.int IntKind.i64 n] 35))
    have hs : (w.alloc (Obj.cells #[Value.int IntKind.i64 n] 35)).heap.size = w.heap.size + 1 := by simp
    rw [hs] at hf
    exact ⟨hf, ((Below.refl _ _).alloc (Nat.le_refl _) _).alloc (by rw [hs]; omega) _, by omega, by simp, HT.out⟩
  generalize ((w.alloc (Obj.cells #[Value.int IntKind.i64 n] 35)).alloc (Obj.cells #[Value.slice none 0 0, Value.int IntKind.i64 0, Value.int IntKind.i8 0] 55)) = W0 at *
  go_cut [4] from 16 to 20 (fun s4 wx => s4 = .int .i64 N ∧ BufAt w (w.heap.size + 1) (sgn n) wx)
  case first =>
    rcases Int.lt_or_le n 0 with hz | hz
    · have hw : IntKind.i64.wrap (-n) = N := by rw [wrap_id (by omega) (by omega)]; have := HNN.out; omega
      have hsg : sgn n = [45] := if_pos hz
      have HSG := Lib.hid hsg
      clear hsg
      go_wp2_with fail
      refine (wByte hbuf 45 45 rfl (by simp)).mono ?_
      rintro e w4 ⟨rfl, hb4⟩
      go_wp2_with fail
      go_meet
      case rel => exact ⟨rfl, by rw [HSG.out]; exact hb4⟩
    · have hsg : sgn n = [] := if_neg (by omega)
      have HSG := Lib.hid hsg
      have hnn : n = N := by have := HNN.out; omega
      have HNNN := Lib.hid hnn
      clear hsg hnn
      go_wp2_with fail
      go_meet
      case rel => exact ⟨by rw [← HNNN.out], by rw [HSG.out]; exact hbuf⟩
  clear hbuf hc0 HT
  obtain ⟨rfl, hbuf⟩ := hcut
  obtain ⟨wx0, rfl⟩ : ∃ wx0 : World, wx0 = wc := ⟨_, rfl⟩
  have hl0 : (sgn n).length ≤ 1 := by unfold sgn; split <;> simp
  obtain ⟨l0, hL0⟩ : ∃ l0, sgn n = l0 := ⟨_, rfl⟩
  rw [hL0] at hbuf hl0
  have HL0 := Lib.hid hL0
  clear hL0
  go_upto_if 24 with fail
  go_cut [] from 23 to 28 (fun wx => BufAt w (w.heap.size + 1) (l0 ++ dp a1 [100]) wx)
  case first =>
    rcases Nat.eq_zero_or_pos a1 with hz | hz
    · have HZ := Lib.hid hz
      have hz1 : ¬ (0 < a1) := by omega
      have hz2 : ¬ ((0 : Int) < a1) := by omega
      clear hz
      go_wp2_with fail
      go_meet
      case rel => rw [dp_zero HZ.out]; exact hbuf
    · have hz2 : (0 : Int) < a1 := by omega
      go_wp2_with fail
      refine (wFmt hbuf a1 (by omega)).mono ?_
      rintro e w2 ⟨rfl, hb2⟩
      go_wp2_with fail
      refine (wStr hb2 (Lib.decDigits a1) (by have := dig20 a1 (by omega); omega)).mono ?_
      rintro e w3 ⟨⟨v, rfl⟩, hb3⟩
      go_wp2_with fail
      refine (wByte hb3 100 100 rfl (by have := dig20 a1 (by omega); simp; omega)).mono ?_
      rintro e w4 ⟨rfl, hb4⟩
      go_wp2_with fail
      go_meet
      case rel => rw [dp_pos hz]; exact hb4
  have hl1 : (l0 ++ dp a1 [100]).length ≤ 23 := by have := dp_len (a := a1) (by omega) [100] (by decide); simp; omega
  clear hbuf
  obtain ⟨wx1, rfl⟩ : ∃ wx1 : World, wx1 = wc := ⟨_, rfl⟩
  have hbuf := hcut
  clear hcut
  obtain ⟨l1, hL1⟩ : ∃ l1, l0 ++ dp a1 [100] = l1 := ⟨_, rfl⟩
  rw [hL1] at hbuf hl1
  have HL1 := Lib.hid hL1
  clear hL1
  go_upto_if 34 with fail
  go_cut [] from 33 to 38 (fun wx => BufAt w (w.heap.size + 1) (l1 ++ dp a2 [104]) wx)
  case first =>
    rcases Nat.eq_zero_or_pos a2 with hz | hz
    · have HZ := Lib.hid hz
      have hz1 : ¬ (0 < a2) := by omega
      have hz2 : ¬ ((0 : Int) < a2) := by omega
      clear hz
      go_wp2_with fail
      go_meet
      case rel => rw [dp_zero HZ.out]; exact hbuf
    · have hz2 : (0 : Int) < a2 := by omega
      go_wp2_with fail
      refine (wFmt hbuf a2 (by omega)).mono ?_
      rintro e w2 ⟨rfl, hb2⟩
      go_wp2_with fail
      refine (wStr hb2 (Lib.decDigits a2) (by have := dig20 a2 (by omega); omega)).mono ?_
      rintro e w3 ⟨⟨v, rfl⟩, hb3⟩
      go_wp2_with fail
      refine (wByte hb3 104 104 rfl (by have := dig20 a2 (by omega); simp; omega)).mono ?_
      rintro e w4 ⟨rfl, hb4⟩
      go_wp2_with fail
      go_meet
      case rel => rw [dp_pos hz]; exact hb4
  have hl2 : (l1 ++ dp a2 [104]).length ≤ 45 := by have := dp_len (a := a2) (by omega) [104] (by decide); simp; omega
  clear hbuf
  obtain ⟨wx2, rfl⟩ : ∃ wx2 : World, wx2 = wc := ⟨_, rfl⟩
  have hbuf := hcut
  clear hcut
  obtain ⟨l2, hL2⟩ : ∃ l2, l1 ++ dp a2 [104] = l2 := ⟨_, rfl⟩
  rw [hL2] at hbuf hl2
  have HL2 := Lib.hid hL2
  clear hL2
  go_upto_if 44 with fail
  go_cut [] from 43 to 48 (fun wx => BufAt w (w.heap.size + 1) (l2 ++ dp a3 [109]) wx)
  case first =>
    rcases Nat.eq_zero_or_pos a3 with hz | hz
    · have HZ := Lib.hid hz
      have hz1 : ¬ (0 < a3) := by omega
      have hz2 : ¬ ((0 : Int) < a3) := by omega
      clear hz
      go_wp2_with fail
      go_meet
      case rel => rw [dp_zero HZ.out]; exact hbuf
    · have hz2 : (0 : Int) < a3 := by omega
      go_wp2_with fail
      refine (wFmt hbuf a3 (by omega)).mono ?_
      rintro e w2 ⟨rfl, hb2⟩
      go_wp2_with fail
      refine (wStr hb2 (Lib.decDigits a3) (by have := dig20 a3 (by omega); omega)).mono ?_
      rintro e w3 ⟨⟨v, rfl⟩, hb3⟩
      go_wp2_with fail
      refine (wByte hb3 109 109 rfl (by have := dig20 a3 (by omega); simp; omega)).mono ?_
      rintro e w4 ⟨rfl, hb4⟩
      go_wp2_with fail
      go_meet
      case rel => rw [dp_pos hz]; exact hb4
  have hl3 : (l2 ++ dp a3 [109]).length ≤ 67 := by have := dp_len (a := a3) (by omega) [109] (by decide); simp; omega
  clear hbuf
  obtain ⟨wx3, rfl⟩ : ∃ wx3 : World, wx3 = wc := ⟨_, rfl⟩
  have hbuf := hcut
  clear hcut
  obtain ⟨l3, hL3⟩ : ∃ l3, l2 ++ dp a3 [109] = l3 := ⟨_, rfl⟩
  rw [hL3] at hbuf hl3
  have HL3 := Lib.hid hL3
  clear hL3
  go_upto_if 54 with fail
  go_cut [] from 53 to 58 (fun wx => BufAt w (w.heap.size + 1) (l3 ++ dp a4 [115]) wx)
  case first =>
    rcases Nat.eq_zero_or_pos a4 with hz | hz
    · have HZ := Lib.hid hz
      have hz1 : ¬ (0 < a4) := by omega
      have hz2 : ¬ ((0 : Int) < a4) := by omega
      clear hz
      go_wp2_with fail
      go_meet
      case rel => rw [dp_zero HZ.out]; exact hbuf
    · have hz2 : (0 : Int) < a4 := by omega
      go_wp2_with fail
      refine (wFmt hbuf a4 (by omega)).mono ?_
      rintro e w2 ⟨rfl, hb2⟩
      go_wp2_with fail
      refine (wStr hb2 (Lib.decDigits a4) (by have := dig20 a4 (by omega); omega)).mono ?_
      rintro e w3 ⟨⟨v, rfl⟩, hb3⟩
      go_wp2_with fail
      refine (wByte hb3 115 115 rfl (by have := dig20 a4 (by omega); simp; omega)).mono ?_
      rintro e w4 ⟨rfl, hb4⟩
      go_wp2_with fail
      go_meet
      case rel => rw [dp_pos hz]; exact hb4
  have hl4 : (l3 ++ dp a4 [115]).length ≤ 89 := by have := dp_len (a := a4) (by omega) [115] (by decide); simp; omega
  clear hbuf
  obtain ⟨wx4, rfl⟩ : ∃ wx4 : World, wx4 = wc := ⟨_, rfl⟩
  have hbuf := hcut
  clear hcut
  obtain ⟨l4, hL4⟩ : ∃ l4, l3 ++ dp a4 [115] = l4 := ⟨_, rfl⟩
  rw [hL4] at hbuf hl4
  have HL4 := Lib.hid hL4
  clear hL4
  go_upto_if 62 with fail
  go_cut [] from 62 to 66 (fun wx => BufAt w (w.heap.size + 1) (l4 ++ dp r4 [109, 115]) wx)
  case first =>
    rcases Nat.eq_zero_or_pos r4 with hz | hz
    · have HZ := Lib.hid hz
      have hz1 : ¬ (0 < r4) := by omega
      have hz2 : ¬ ((0 : Int) < r4) := by omega
      clear hz
      go_wp2_with fail
      go_meet
      case rel => rw [dp_zero HZ.out]; exact hbuf
    · have hz2 : (0 : Int) < r4 := by omega
      go_wp2_with fail
      refine (wFmt hbuf r4 (by omega)).mono ?_
      rintro e w2 ⟨rfl, hb2⟩
      go_wp2_with fail
      refine (wStr hb2 (Lib.decDigits r4) (by have := dig20 r4 (by omega); omega)).mono ?_
      rintro e w3 ⟨⟨v, rfl⟩, hb3⟩
      go_wp2_with fail
      refine (wStr hb3 [109, 115] (by have := dig20 r4 (by omega); simp; omega)).mono ?_
      rintro e w4 ⟨⟨v2, rfl⟩, hb4⟩
      go_wp2_with fail
      go_meet
      case rel => rw [dp_pos hz]; exact hb4
  have hl5 : (l4 ++ dp r4 [109, 115]).length ≤ 111 := by have := dp_len (a := r4) (by omega) [109, 115] (by decide); simp; omega
  clear hbuf
  obtain ⟨wx5, rfl⟩ : ∃ wx5 : World, wx5 = wc := ⟨_, rfl⟩
  have hbuf := hcut
  clear hcut
  obtain ⟨l5, hL5⟩ : ∃ l5, l4 ++ dp r4 [109, 115] = l5 := ⟨_, rfl⟩
  rw [hL5] at hbuf hl5
  have HL5 := Lib.hid hL5
  clear hL5
  go_wp2_with fail
  refine (wEnd hbuf).mono ?_
  rintro e w4 ⟨rfl, hb4⟩
  have HB4 := Lib.hid hb4
  clear hb4
  go_wp2
  go_ret
  exact ⟨by rw [HL0.out, HL1.out, HL2.out, HL3.out, HL4.out, HL5.out]; rfl, HB4.out⟩
end Go.Proofs.YtcggmabpbbieaaaDoor

