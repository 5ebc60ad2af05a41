import Derived.Test.YtiidebhepilgiaaDoorRText
import Derived.WalkMore
/-
  The scanner: its tokens.
-/
namespace Go.Proofs.YtiidebhepilgiaaDoorR
open Go.RowKit
set_option maxRecDepth 1000000
def Tk (tk : Nat) (wx : World) : Prop := ∃ A : Array Value, wx.heap[tk]? = some (.cells A 46 (0, 0)) ∧ A.size = 6
/-- What stands while a token is read. -/
structure Ph (w : World) (b sb g0 n cap off : Nat) (lr : Int) (C : Nat → Value) (wx : World) : Prop where
  sc : Sc b C wx
  src : Src sb g0 n cap off lr wx
  tk : Tk w.heap.size wx
  fr : Fr b sb w wx
  sb : sb < b
  b : b < w.heap.size
theorem Ph.set {w : World} {b sb g0 n cap off : Nat} {lr : Int} {C : Nat → Value} {wx : World} (h : Ph w b sb g0 n cap off lr C wx) (i : Nat) (v : Value) : Ph w b sb g0 n cap off lr (upd C i v) (wx.setCell ⟨b, i, none⟩ v) :=
  ⟨h.sc.set i v, h.src.of (heap_set_ne _ _ _ _ (by have := h.sb; simp; omega)), by
    obtain ⟨A, ha, hs⟩ := h.tk
    exact ⟨A, (heap_set_ne _ _ _ _ (by have := h.b; simp; omega)).trans ha, hs⟩, h.fr.setB h.sb i v, h.sb, h.b⟩
theorem Ph.drew {w : World} {b sb g0 n cap off : Nat} {lr : Int} {C : Nat → Value} {wx : World} (h : Ph w b sb g0 n cap off lr C wx) : Ph w b sb g0 n cap off lr C wx.drew :=
  ⟨h.sc, h.src, h.tk, h.fr.drew, h.sb, h.b⟩
theorem Ph.step {w : World} {b sb g0 n cap off n' cap' off' : Nat} {lr lr' : Int} {C C' : Nat → Value} {wx wy : World} (h : Ph w b sb g0 n cap off lr C wx) (hs : Sc b C' wy) (hr : Src sb g0 n' cap' off' lr' wy) (hf : Fr b sb wx wy) : Ph w b sb g0 n' cap' off' lr' C' wy :=
  ⟨hs, hr, by
    obtain ⟨A, ha, hsz⟩ := h.tk
    have hlt : w.heap.size < wx.heap.size := by
      rcases Nat.lt_or_ge w.heap.size wx.heap.size with h' | h'
      · exact h'
      · rw [Array.getElem?_eq_none h'] at ha; cases ha
    have := h.b
    have := h.sb
    exact ⟨A, (hf.keep _ (by omega) (by omega) hlt).trans ha, hsz⟩, h.fr.trans hf, h.sb, h.b⟩
theorem Tk.cell {tk : Nat} {wx : World} (h : Tk tk wx) (i : Nat) (hi : i < 6) : ∃ v, wx.cell? ⟨tk, i, none⟩ = some v := by
  obtain ⟨A, ha, hs⟩ := h
  rw [Lib.cell_of_heap ha]
  exact ⟨A[i], by simp [hs, hi]⟩
theorem Tk.frozen {tk : Nat} {wx : World} (h : Tk tk wx) (i : Nat) : wx.frozen? ⟨tk, i, none⟩ = false := by
  obtain ⟨A, ha, hs⟩ := h
  exact Lib.frozen_of_heap ha i
/-- The scanner as Init leaves it. -/
structure Ini (b sb : Nat) (C : Nat → Value) : Prop where
  hsb : sb < b
  hsb2 : 2 < sb
  c0 : C 0 = .iface 57 (.pointer (some ⟨sb, 0, none⟩))
  c1 : C 1 = .int .u8 128
  c26 : C 1026 = .int .i64 0
  c27 : C 1027 = .int .i64 0
  c28 : C 1028 = .int .i64 0
  c29 : C 1029 = .int .i64 1
  c30 : C 1030 = .int .i64 0
  c33 : C 1033 = .slice none 0 0
  c34 : C 1034 = .int .i64 0
  c35 : C 1035 = .int .i8 0
  c36 : C 1036 = .int .i64 (-1)
  c38 : C 1038 = .int .i32 (-2)
  c39 : C 1039 = .nilIface
  c40 : C 1040 = .string ⟨#[]⟩
/-- The scanner's cells behind the first step. -/
structure FirstIs (b sb n : Nat) (l : List UInt8) (C D : Nat → Value) : Prop where
  c0 : D 0 = .iface 57 (.pointer (some ⟨sb, 0, none⟩))
  bytes : ∀ j (hj : j < l.length), D (1 + j) = .int .u8 (l[j].toNat : Int)
  c1 : D (1 + n) = .int .u8 128
  c26 : D 1026 = .int .i64 1
  c27 : D 1027 = .int .i64 n
  c28 : D 1028 = .int .i64 0
  c29 : D 1029 = .int .i64 1
  c30 : D 1030 = .int .i64 1
  c32 : D 1032 = .int .i64 1
  rest : ∀ i, 1033 ≤ i → D i = C i
theorem firstIs {b sb n : Nat} {l : List UInt8} {C : Nat → Value} (I : Ini b sb C) (hl : l.length = n) (hn : n ≤ 60) : FirstIs b sb n l C (firstC C n l) := by
  have hL : (Lib.byteCells l).length = n := by rw [Lib.byteCells_length, hl]
  have ho : ∀ i, i = 0 ∨ 1 + n < i → i ≠ 1026 → i ≠ 1027 → i ≠ 1028 → i ≠ 1030 → i ≠ 1032 → firstC C n l i = C i := by
    intro i h h1 h2 h3 h4 h5
    simp only [firstC, upd]
    rw [if_neg h4, if_neg h5, if_neg h1, if_neg (by omega), if_neg h2, if_neg h1, updL_out _ _ _ _ (by rw [hL]; omega)]
    simp only [upd]
    rw [if_neg h3]
  refine ⟨(ho 0 (by omega) (by omega) (by omega) (by omega) (by omega) (by omega)).trans I.c0, ?_, ?_, ?_, ?_, ?_, (ho 1029 (by omega) (by omega) (by omega) (by omega) (by omega) (by omega)).trans I.c29, ?_, ?_, fun i hi => ho i (by omega) (by omega) (by omega) (by omega) (by omega) (by omega)⟩
  · intro j hj
    simp only [firstC, upd]
    rw [if_neg (by omega), if_neg (by omega), if_neg (by omega), if_neg (by omega), if_neg (by omega), if_neg (by omega), updL_in _ _ _ j (by rw [hL]; omega)]
    simp [Lib.byteCells]
  · simp only [firstC, upd]
    rw [if_neg (by omega), if_neg (by omega), if_neg (by omega), if_pos trivial]
  · simp [firstC, upd]
  · simp only [firstC, upd]
    rw [if_neg (by omega), if_neg (by omega), if_neg (by omega), if_neg (by omega), if_pos trivial]
  · simp only [firstC, upd]
    rw [if_neg (by omega), if_neg (by omega), if_neg (by omega), if_neg (by omega), if_neg (by omega), if_neg (by omega), updL_out _ _ _ _ (by rw [hL]; omega)]
    simp [upd]
  · simp [firstC, upd]
  · simp [firstC, upd]
/-- The scanner's cells behind the token. -/
structure Aft (n g : Nat) (D : Nat → Value) : Prop where
  d26 : D 1026 = .int .i64 0
  d28 : D 1028 = .int .i64 n
  d29 : D 1029 = .int .i64 1
  d30 : D 1030 = .int .i64 (n + 1)
  d32 : D 1032 = .int .i64 0
  d33 : D 1033 = .slice (some ⟨g, 0, none⟩) n 64
  d34 : D 1034 = .int .i64 0
  d38 : D 1038 = .int .i32 (-1)
  d39 : D 1039 = .nilIface
  d40 : D 1040 = .string ⟨#[]⟩
theorem Fr.setT {b sb : Nat} {w wx : World} (h : Fr b sb w wx) (hb : sb ≤ w.heap.size) (i : Nat) (v : Value) : Fr b sb w (wx.setCell ⟨w.heap.size, i, none⟩ v) :=
  ⟨h.below.setCell (p := ⟨w.heap.size, i, none⟩) hb v, fun k h1 h2 h3 => (heap_set_ne _ _ _ _ (by simp; omega)).trans (h.keep k h1 h2 h3)⟩
def ZT : Obj := .cells #[.int .i64 0, .string ⟨#[]⟩, .int .i64 0, .int .i64 0, .int .i64 0, .string ⟨#[]⟩] 46
set_option maxHeartbeats 16000000 in
theorem tokFirst (b sb g0 n cap : Nat) (ea : Addr) (l : List UInt8) (C : Nat → Value) (w : World) (h : Sc b C w) (hs : Src sb g0 n cap 0 0 w) (hr : Row g0 l w) (I : Ini b sb C) (hg : g0 < sb) (hl : l.length = n) (hn0 : 1 ≤ n) (hn1 : n ≤ 60) (hnc : n ≤ cap)
    (hdig : ∀ j (hj : j < l.length), 48 ≤ l[j].toNat ∧ l[j].toNat ≤ 57) (hT : ∀ x, 48 ≤ x → x ≤ 57 → w.cell? ⟨0, x, none⟩ = some (.int .u8 240)) (hE : w.cell? ⟨2, 0, none⟩ = some (.iface 65 (.pointer (some ea)))) :
    Calls Tryd.prog 26 #[.pointer (some ⟨b, 0, none⟩)] w fun e w' => e = .returned (.agg #[.int .i64 2, .string ⟨#[]⟩, .int .i64 0, .int .i64 1, .int .i64 1, .string ⟨l.toArray⟩]) ∧ ∃ (g : Nat) (D : Nat → Value), Aft n g D ∧ Sc b D w' ∧ Src sb g0 0 cap 0 0 w' ∧ Fr b sb w w' := by
  have hlt := h.lt
  have hb0 : Below w.heap.size w (w.alloc ZT) := Below.alloc (Below.refl _ _) (Nat.le_refl _) _
  have hslt := hs.lt
  have hE0 : (w.alloc ZT).cell? ⟨2, 0, none⟩ = _ := (hb0.cell (p := ⟨2, 0, none⟩) (by show 2 < w.heap.size; have := I.hsb2; omega)).trans hE
  have hl0 : 0 < l.length := by omega
  have hd0 := hdig 0 hl0
  have hT0 : (w.alloc ZT).cell? ⟨0, l[0].toNat, none⟩ = _ := (hb0.cell (p := ⟨0, l[0].toNat, none⟩) (by show 0 < w.heap.size; omega)).trans (hT _ hd0.1 hd0.2)
  have P0 : Ph w b sb g0 n cap 0 0 C (w.alloc ZT) := ⟨h.below (hb0.block b hlt), hs.of (hb0.block sb hslt), ⟨_, heap_alloc_new w _, rfl⟩, ⟨hb0.mono (by omega), fun k _ _ h3 => hb0.block k h3⟩, I.hsb, hlt⟩
  have R0 : Row g0 l (w.alloc ZT) := hr.of (hb0.block g0 (by omega))
  have N := Lib.hid (nextFirst b sb g0 n cap C l l[0].toNat 0 _ P0.sc P0.src I.hsb hg hl hn0 (by omega) hnc R0 (by cases l with | nil => simp at hl0 | cons a r => rfl) hd0.1 hd0.2 hT0 I.c0 I.c1 I.c26 I.c27 I.c28 I.c30 I.c36)
  have c38 := P0.sc.cell 1038 (by decide)
  rw [I.c38] at c38
  have HP := Lib.hid P0
  have HI := Lib.hid I
  have HE := Lib.hid hE
  have HD := Lib.hid hdig
  have HL := Lib.hid hl
  generalize hy : l[0].toNat = y at *
  have HY := Lib.hid hy
  clear h hs hr I hdig hT hE hb0 hE0 hT0 R0 P0 hy hl hslt
  go_enter Tryd.func26, Tryd.ntmps26
  go_wp2
  go_step3
  go_upto_region 1 with fail
  change Code.wp _ _ _ _ (w.alloc ZT)
  generalize w.alloc ZT = W0 at *
  go_wp2_with fail
  refine N.out.mono ?_
  rintro e W1 ⟨rfl, h1, s1, f1⟩
  have P1 := HP.out.step h1 s1 f1
  have k1 := P1.sc.cell 1038 (by decide)
  have f := P1.sc.frozen
  have HP1 := Lib.hid P1
  have HF := Lib.hid (firstIs HI.out HL.out hn1)
  clear h1 s1 f1 P1 c38 N HP
  go_upto_region 3 with fail
  have P2 := HP1.out.set 1038 (.int .i32 y)
  generalize W1.setCell ⟨b, 1038, none⟩ (.int .i32 y) = W2 at *
  clear k1 f HP1
  have k1 : W2.cell? ⟨b, 1038, none⟩ = some (.int .i32 y) := by rw [P2.sc.cell 1038 (by decide)]; simp [upd]
  have k2 := P2.sc.cell 1036 (by decide)
  have k3 := P2.sc.cell 1042 (by decide)
  have f := P2.sc.frozen
  have HP2 := Lib.hid P2
  clear P2
  go_wp2
  go_step3
  have P3 := (HP2.out.set 1036 (.int .i64 (-1))).set 1042 (.int .i64 0)
  generalize (W2.setCell ⟨b, 1036, none⟩ (.int .i64 (-1))).setCell ⟨b, 1042, none⟩ (.int .i64 0) = W3 at *
  clear k1 k2 k3 f HP2
  have NW := Lib.hid (notWhite y (by omega) (by omega) (by omega) (by omega) W3)
  go_wp2
  refine wp_loop_rounds 1 ?_
  rw [rounds_succ]
  go_wp2_with fail
  refine NW.out.mono ?_
  rintro e w' ⟨rfl, hw⟩
  replace hw := hw.symm
  subst hw
  clear NW
  have k1 : W3.cell? ⟨b, 1033, none⟩ = some (.slice none 0 0) := by
    rw [P3.sc.cell 1033 (by decide)]
    simp only [upd]
    rw [if_neg (by omega), if_neg (by omega), if_neg (by omega), HF.out.rest 1033 (by omega), HI.out.c33]
  have R := Lib.hid (reset b 1033 0 0 none W3 k1 ⟨_, P3.sc.cell 1034 (by decide)⟩ ⟨_, P3.sc.cell 1035 (by decide)⟩ P3.sc.frozen)
  have P4 := ((P3.set 1033 (.slice none 0 0)).set (1033 + 1) (.int .i64 0)).set (1033 + 2) (.int .i8 0)
  clear P3 k1
  go_wp2_with fail
  refine R.out.mono ?_
  rintro e W4 ⟨rfl, hw⟩
  rw [← hw] at P4
  clear R hw
  have FF := HF.out
  have HF2 := Lib.hid FF
  generalize firstC C n l = F at *
  generalize hC : upd (upd (upd (upd (upd (upd F 1038 (.int .i32 y)) 1036 (.int .i64 (-1))) 1042 (.int .i64 0)) 1033 (.slice none 0 0)) (1033 + 1) (.int .i64 0)) (1033 + 2) (.int .i8 0) = C4 at P4
  have q26 : C4 1026 = .int .i64 1 := by rw [← hC]; simp [upd, FF.c26]
  have q28 : C4 1028 = .int .i64 0 := by rw [← hC]; simp [upd, FF.c28]
  have q29 : C4 1029 = .int .i64 1 := by rw [← hC]; simp [upd, FF.c29]
  have q30 : C4 1030 = .int .i64 1 := by rw [← hC]; simp [upd, FF.c30]
  have q32 : C4 1032 = .int .i64 1 := by rw [← hC]; simp [upd, FF.c32]
  have HC := Lib.hid hC
  clear hC FF HF
  have k1 : W4.cell? ⟨b, 1026, none⟩ = some (.int .i64 1) := by rw [P4.sc.cell 1026 (by decide), q26]
  have k2 : W4.cell? ⟨b, 1032, none⟩ = some (.int .i64 1) := by rw [P4.sc.cell 1032 (by decide), q32]
  have k3 := P4.sc.cell 1036 (by decide)
  have f := P4.sc.frozen
  have HP4 := Lib.hid P4
  clear P4
  go_upto_region 9 with fail
  go_cut [6] from 36 to 47 (fun _ wx => Ph w b sb g0 n cap n (-1) (upd C4 1036 (.int .i64 0)) wx)
  case first =>
    go_region
    all_goals (go_wp2_with fail)
    all_goals go_meet
    all_goals exact HP4.out.drew.set 1036 _
  clear k1 k2 k3 f HP4
  have k1 : wc.cell? ⟨b, 1028, none⟩ = some (.int .i64 0) := by rw [hcut.sc.cell 1028 (by decide)]; simp [upd, q28]
  have k2 : wc.cell? ⟨b, 1036, none⟩ = some (.int .i64 0) := by rw [hcut.sc.cell 1036 (by decide)]; simp [upd]
  have k3 := hcut.sc.cell 1041 (by decide)
  have f := hcut.sc.frozen
  have HP4 := Lib.hid hcut
  clear hcut
  go_upto_region 10 with fail
  go_cut [6] from 48 to 60 (fun _ wx => Ph w b sb g0 n cap n (-1) (upd (upd C4 1036 (.int .i64 0)) 1041 (.int .i64 0)) wx)
  case first =>
    go_region
    all_goals (go_wp2_with fail)
    all_goals go_meet
    all_goals exact HP4.out.drew.set 1041 _
  clear k1 k2 k3 f HP4
  have k1 : wc.cell? ⟨b, 1030, none⟩ = some (.int .i64 1) := by rw [hcut.sc.cell 1030 (by decide)]; simp [upd, q30]
  have k2 : wc.cell? ⟨b, 1029, none⟩ = some (.int .i64 1) := by rw [hcut.sc.cell 1029 (by decide)]; simp [upd, q29]
  have k3 := hcut.sc.cell 1042 (by decide)
  have k4 := hcut.sc.cell 1043 (by decide)
  have f := hcut.sc.frozen
  have P5 := (hcut.set 1042 (.int .i64 1)).set 1043 (.int .i64 1)
  clear hcut
  go_upto_region 16 with fail
  clear k1 k2 k3 k4 f
  generalize (wc.setCell ⟨b, 1042, none⟩ (.int .i64 1)).setCell ⟨b, 1043, none⟩ (.int .i64 1) = W5 at *
  have oth : ∀ i, i ≠ 1036 → i ≠ 1041 → i ≠ 1042 → i ≠ 1043 → upd (upd (upd (upd C4 1036 (.int .i64 0)) 1041 (.int .i64 0)) 1042 (.int .i64 1)) 1043 (.int .i64 1) i = C4 i := fun i h1 h2 h3 h4 => by
    simp only [upd]; rw [if_neg h4, if_neg h3, if_neg h2, if_neg h1]
  have p36 : upd (upd (upd (upd C4 1036 (.int .i64 0)) 1041 (.int .i64 0)) 1042 (.int .i64 1)) 1043 (.int .i64 1) 1036 = .int .i64 0 := by simp [upd]
  have p41 : upd (upd (upd (upd C4 1036 (.int .i64 0)) 1041 (.int .i64 0)) 1042 (.int .i64 1)) 1043 (.int .i64 1) 1041 = .int .i64 0 := by simp [upd]
  have p42 : upd (upd (upd (upd C4 1036 (.int .i64 0)) 1041 (.int .i64 0)) 1042 (.int .i64 1)) 1043 (.int .i64 1) 1042 = .int .i64 1 := by simp [upd]
  have p43 : upd (upd (upd (upd C4 1036 (.int .i64 0)) 1041 (.int .i64 0)) 1042 (.int .i64 1)) 1043 (.int .i64 1) 1043 = .int .i64 1 := by simp [upd]
  generalize upd (upd (upd (upd C4 1036 (.int .i64 0)) 1041 (.int .i64 0)) 1042 (.int .i64 1)) 1043 (.int .i64 1) = C5 at *
  have old : ∀ i, i ≠ 1036 → i ≠ 1038 → i ≠ 1041 → i ≠ 1042 → i ≠ 1043 → i ≠ 1033 → i ≠ 1034 → i ≠ 1035 → C5 i = F i := fun i h1 h2 h3 h4 h5 h6 h7 h8 => by
    rw [oth i h1 h3 h4 h5, ← HC.out]
    simp only [upd]
    rw [if_neg h8, if_neg h7, if_neg h6, if_neg h4, if_neg h1, if_neg h2]
  have S : Start b sb n l C5 := by
    refine ⟨HL.out, hn0, by omega, HI.out.hsb, HI.out.hsb2, HD.out, fun j hj => ?_, ?_, ?_, ?_, ?_, ?_, ?_, ⟨0, ?_⟩, p36⟩
    · have := HL.out
      exact (old _ (by omega) (by omega) (by omega) (by omega) (by omega) (by omega) (by omega) (by omega)).trans (HF2.out.bytes j hj)
    · exact (old _ (by omega) (by omega) (by omega) (by omega) (by omega) (by omega) (by omega) (by omega)).trans HF2.out.c0
    · exact (old _ (by omega) (by omega) (by omega) (by omega) (by omega) (by omega) (by omega) (by omega)).trans HF2.out.c1
    · exact (old _ (by omega) (by omega) (by omega) (by omega) (by omega) (by omega) (by omega) (by omega)).trans HF2.out.c27
    · exact (old _ (by omega) (by omega) (by omega) (by omega) (by omega) (by omega) (by omega) (by omega)).trans HF2.out.c28
    · rw [oth _ (by omega) (by omega) (by omega) (by omega), ← HC.out]; simp [upd]
    · rw [oth _ (by omega) (by omega) (by omega) (by omega), ← HC.out]; simp [upd]
    · rw [oth _ (by omega) (by omega) (by omega) (by omega), ← HC.out]; simp [upd]
  have hE5 : W5.cell? ⟨2, 0, none⟩ = some (.iface 65 (.pointer (some ea))) := (P5.fr.below.cell (p := ⟨2, 0, none⟩) (by show 2 < sb; exact HI.out.hsb2)).trans HE.out
  have M : Mid b sb g0 n cap ea C5 W5 1 W5 := by
    refine ⟨C5, -1, P5.sc, ?_, ?_, ?_, fun _ _ _ _ => rfl, P5.src, Fr.refl _ _ _, hE5⟩
    · exact (oth _ (by omega) (by omega) (by omega) (by omega)).trans q26
    · exact (oth _ (by omega) (by omega) (by omega) (by omega)).trans q30
    · exact (oth _ (by omega) (by omega) (by omega) (by omega)).trans q32
  have SI := Lib.hid (scanInt b sb g0 n cap y ea l C5 W5 S M (fun _ => HY.out))
  have ID := Lib.hid (notIdent y (by omega) (by omega) W5)
  have DC := Lib.hid (isDec y (by omega) (by omega) W5)
  have g1 : ¬ (y : Int) = -1 := by omega
  have q40 : C5 1040 = .string ⟨#[]⟩ := by rw [old _ (by omega) (by omega) (by omega) (by omega) (by omega) (by omega) (by omega) (by omega), HF2.out.rest _ (by omega), HI.out.c40]
  have q39 : C5 1039 = .nilIface := by rw [old _ (by omega) (by omega) (by omega) (by omega) (by omega) (by omega) (by omega) (by omega), HF2.out.rest _ (by omega), HI.out.c39]
  have q29' : C5 1029 = .int .i64 1 := (oth _ (by omega) (by omega) (by omega) (by omega)).trans q29
  have HP5 := Lib.hid P5
  clear S M oth old q26 q28 q29 q30 q32 HC P5 hE5
  go_wp2_with fail
  refine ID.out.mono ?_
  rintro e w' ⟨rfl, hw⟩
  replace hw := hw.symm
  subst hw
  go_wp2_with fail
  refine DC.out.mono ?_
  rintro e w' ⟨rfl, hw⟩
  replace hw := hw.symm
  subst hw
  go_wp2_with fail
  refine SI.out.mono ?_
  rintro e W6 ⟨rfl, g, D, hbg, hs6, hr6, hlt6, hsrc6, hfr6, d26, d27, d28, d29, d30, d32, d33, d34, d35, d36, dr⟩
  have P6 := HP5.out.step hs6 hsrc6 hfr6
  clear ID DC SI HP5 hs6 hsrc6 hfr6
  have k1 : W6.cell? ⟨b, 1026, none⟩ = some (.int .i64 0) := by rw [P6.sc.cell 1026 (by decide), d26]
  have k2 : W6.cell? ⟨b, 1032, none⟩ = some (.int .i64 0) := by rw [P6.sc.cell 1032 (by decide), d32]
  have k3 := P6.sc.cell 1037 (by decide)
  have f := P6.sc.frozen
  have HP6 := Lib.hid P6
  have HR6 := Lib.hid hr6
  clear P6 hr6
  go_upto_region 37 with fail
  go_cut [6] from 153 to 164 (fun _ wx => Ph w b sb g0 0 cap 0 0 (upd D 1037 (.int .i64 0)) wx ∧ Row g l wx)
  case first =>
    go_region
    all_goals (go_wp2_with fail)
    all_goals go_meet
    all_goals exact ⟨HP6.out.drew.set 1037 _, HR6.out.of (heap_set_ne _ _ _ _ (by simp; omega))⟩
  obtain ⟨P7, R7⟩ := hcut
  clear k1 k2 k3 f HP6 HR6
  have k1 := P7.sc.cell 1038 (by decide)
  have f := P7.sc.frozen
  go_upto_region 39 with fail
  have P8 := P7.set 1038 (.int .i32 (-1))
  have R8 : Row g l (wc.setCell ⟨b, 1038, none⟩ (.int .i32 (-1))) := R7.of (heap_set_ne _ _ _ _ (by simp; omega))
  clear k1 f P7 R7
  generalize wc.setCell ⟨b, 1038, none⟩ (.int .i32 (-1)) = W7 at *
  have oth : ∀ i, i ≠ 1037 → i ≠ 1038 → upd (upd D 1037 (.int .i64 0)) 1038 (.int .i32 (-1)) i = D i := fun i h1 h2 => by
    simp only [upd]; rw [if_neg h2, if_neg h1]
  have p37 : upd (upd D 1037 (.int .i64 0)) 1038 (.int .i32 (-1)) 1037 = .int .i64 0 := by simp [upd]
  have p38 : upd (upd D 1037 (.int .i64 0)) 1038 (.int .i32 (-1)) 1038 = .int .i32 (-1) := by simp [upd]
  generalize upd (upd D 1037 (.int .i64 0)) 1038 (.int .i32 (-1)) = D2 at *
  have TT := Lib.hid (textTok b g n D2 l W7 P8.sc ((oth _ (by omega) (by omega)).trans d33) ((oth _ (by omega) (by omega)).trans d34) ((oth _ (by omega) (by omega)).trans d36) p37 HL.out R8 hn0 (by omega) hbg)
  have HP8 := Lib.hid P8
  clear P8 R8
  go_wp2_with fail
  refine TT.out.mono ?_
  rintro e W8 ⟨rfl, hs8, hk8, hb8⟩
  have P9 := HP8.out.step hs8 (HP8.out.src.of (hk8 sb (by have := HP8.out.sb; omega))) (Fr.ofB hb8 HP8.out.sb fun k h1 _ => hk8 k h1)
  have ot2 : ∀ i, i ≠ 1035 → i ≠ 1033 → i ≠ 1036 → upd (upd (upd D2 1035 (.int .i8 0)) 1033 (.slice (some ⟨g, 0, none⟩) n 64)) 1036 (.int .i64 0) i = D2 i := fun i h1 h2 h3 => by
    simp only [upd]; rw [if_neg h3, if_neg h2, if_neg h1]
  have r33 : upd (upd (upd D2 1035 (.int .i8 0)) 1033 (.slice (some ⟨g, 0, none⟩) n 64)) 1036 (.int .i64 0) 1033 = .slice (some ⟨g, 0, none⟩) n 64 := by simp [upd]
  have r36 : upd (upd (upd D2 1035 (.int .i8 0)) 1033 (.slice (some ⟨g, 0, none⟩) n 64)) 1036 (.int .i64 0) 1036 = .int .i64 0 := by simp [upd]
  have r35 : upd (upd (upd D2 1035 (.int .i8 0)) 1033 (.slice (some ⟨g, 0, none⟩) n 64)) 1036 (.int .i64 0) 1035 = .int .i8 0 := by simp [upd]
  generalize upd (upd (upd D2 1035 (.int .i8 0)) 1033 (.slice (some ⟨g, 0, none⟩) n 64)) 1036 (.int .i64 0) = D3 at *
  clear TT HP8 hs8 hk8 hb8
  have o3 : ∀ i, i ≠ 1033 → i ≠ 1035 → i ≠ 1036 → i ≠ 1037 → i ≠ 1038 → D3 i = D i := fun i h1 h2 h3 h4 h5 => (ot2 i h2 h1 h3).trans (oth i h4 h5)
  have k1 : W8.cell? ⟨b, 1040, none⟩ = some (.string ⟨#[]⟩) := by rw [P9.sc.cell 1040 (by decide), o3 _ (by omega) (by omega) (by omega) (by omega) (by omega), dr 1040 (by omega), q40]
  have k2 : W8.cell? ⟨b, 1041, none⟩ = some (.int .i64 0) := by rw [P9.sc.cell 1041 (by decide), o3 _ (by omega) (by omega) (by omega) (by omega) (by omega), dr 1041 (by omega), p41]
  have k3 : W8.cell? ⟨b, 1042, none⟩ = some (.int .i64 1) := by rw [P9.sc.cell 1042 (by decide), o3 _ (by omega) (by omega) (by omega) (by omega) (by omega), dr 1042 (by omega), p42]
  have k4 : W8.cell? ⟨b, 1043, none⟩ = some (.int .i64 1) := by rw [P9.sc.cell 1043 (by decide), o3 _ (by omega) (by omega) (by omega) (by omega) (by omega), dr 1043 (by omega), p43]
  obtain ⟨t0, e0⟩ := P9.tk.cell 0 (by omega)
  obtain ⟨t1, e1⟩ := P9.tk.cell 1 (by omega)
  obtain ⟨t2, e2⟩ := P9.tk.cell 2 (by omega)
  obtain ⟨t3, e3⟩ := P9.tk.cell 3 (by omega)
  obtain ⟨t4, e4⟩ := P9.tk.cell 4 (by omega)
  obtain ⟨t5, e5⟩ := P9.tk.cell 5 (by omega)
  have f := P9.tk.frozen
  have HP9 := Lib.hid P9
  clear P9
  go_wp2_with fail
  rw [Exit.noGoto_ret]
  refine bodyPost_ret (v := .agg #[.int .i64 2, .string ⟨#[]⟩, .int .i64 0, .int .i64 1, .int .i64 1, .string ⟨l.toArray⟩]) (by simp [results, Tryd.results26, go_sem, e0, e1, e2, e3, e4, e5]) rfl ?_
  have hb := HP9.out.b
  have hsb := HP9.out.sb
  have hh : ∀ k, k ≠ w.heap.size → ((((((W8.setCell ⟨w.heap.size, 0, none⟩ (.int .i64 2)).setCell ⟨w.heap.size, 1, none⟩ (.string ⟨#[]⟩)).setCell ⟨w.heap.size, 2, none⟩ (.int .i64 0)).setCell ⟨w.heap.size, 3, none⟩ (.int .i64 1)).setCell ⟨w.heap.size, 4, none⟩ (.int .i64 1)).setCell ⟨w.heap.size, 5, none⟩ (.string ⟨l.toArray⟩)).heap[k]? = W8.heap[k]? := fun k hk => by
    rw [heap_set_ne _ _ _ _ (Ne.symm hk), heap_set_ne _ _ _ _ (Ne.symm hk), heap_set_ne _ _ _ _ (Ne.symm hk), heap_set_ne _ _ _ _ (Ne.symm hk), heap_set_ne _ _ _ _ (Ne.symm hk), heap_set_ne _ _ _ _ (Ne.symm hk)]
  refine ⟨rfl, g, D3, ⟨?_, ?_, ?_, ?_, ?_, r33, ?_, ?_, ?_, ?_⟩, HP9.out.sc.below (hh b (by omega)), HP9.out.src.of (hh sb (by omega)), ((((((HP9.out.fr.setT (by omega) 0 _).setT (by omega) 1 _).setT (by omega) 2 _).setT (by omega) 3 _).setT (by omega) 4 _).setT (by omega) 5 _)⟩
  · rw [o3 _ (by omega) (by omega) (by omega) (by omega) (by omega), d26]
  · rw [o3 _ (by omega) (by omega) (by omega) (by omega) (by omega), d28]
  · rw [o3 _ (by omega) (by omega) (by omega) (by omega) (by omega), d29, q29']
  · rw [o3 _ (by omega) (by omega) (by omega) (by omega) (by omega), d30]
  · rw [o3 _ (by omega) (by omega) (by omega) (by omega) (by omega), d32]
  · rw [o3 _ (by omega) (by omega) (by omega) (by omega) (by omega), d34]
  · rw [ot2 _ (by omega) (by omega) (by omega), p38]
  · rw [o3 _ (by omega) (by omega) (by omega) (by omega) (by omega), dr 1039 (by omega), q39]
  · rw [o3 _ (by omega) (by omega) (by omega) (by omega) (by omega), dr 1040 (by omega), q40]
end Go.Proofs.YtiidebhepilgiaaDoorR
