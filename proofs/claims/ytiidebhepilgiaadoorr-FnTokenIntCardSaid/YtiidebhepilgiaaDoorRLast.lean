import Derived.Test.YtiidebhepilgiaaDoorRFirst
import Derived.LaidEql
/-
  The scanner's step at the end of the source.
-/
namespace Go.Proofs.YtiidebhepilgiaaDoorR
open Go.RowKit
set_option maxRecDepth 1000000
theorem neqSame (a : Addr) (w : World) : (binOp .neq 36 (.iface 65 (.pointer (some a))) (.iface 65 (.pointer (some a)))).run Tryd.prog w = .ok (.bool false) w := by
  obtain ⟨i, hi, hc⟩ := Option.map_eq_some_iff.1 (show (Tryd.prog.info? 65).map (·.comparable) = some true by kernel_rfl)
  obtain ⟨j, hj, _⟩ := Option.map_eq_some_iff.1 (show (Tryd.prog.info? 67).map (·.size) = some 1 by kernel_rfl)
  simp only [binOp]
  simp [Op.equal, Op.maxDepth, run_equalIn_iface_ptr_same w 9998 a Tryd.underlying36 Tryd.underlying65 hi hc hj]
/-- The scanner behind the last step. -/
def endC (C : Nat → Value) (g n col : Nat) : Nat → Value :=
  upd (upd (upd (upd (upd (upd (upd (tokC C g n) 1036 (.int .i64 0)) 1028 (.int .i64 n)) 1026 (.int .i64 0)) 1027 (.int .i64 0)) 1 (.int .u8 128)) 1030 (.int .i64 (col + 1))) 1032 (.int .i64 0)
/-- A row of bytes in block g. -/
def Row (g : Nat) (l : List UInt8) (w : World) : Prop := ∀ j (h : j < l.length), w.cell? ⟨g, j, none⟩ = some (.int .u8 (l[j].toNat : Int))
theorem Row.of {g : Nat} {l : List UInt8} {w w' : World} (h : Row g l w) (hh : w'.heap[g]? = w.heap[g]?) : Row g l w' := fun j hj => by
  have := h j hj
  unfold World.cell? at this ⊢
  rw [hh]
  exact this
/-- What stands while the scanner reads: its block b, the bytes l that its token buffer holds in block g, its source in block sb. -/
structure Inv (w : World) (b sb g0 n cap off g : Nat) (l : List UInt8) (lr : Int) (C : Nat → Value) (wx : World) : Prop where
  sc : Sc b C wx
  row : Row g l wx
  lt : g < wx.heap.size
  src : Src sb g0 n cap off lr wx
  fr : Fr b sb w wx
  sb : sb < b
  g : b < g
theorem Inv.set {w : World} {b sb g0 n cap off g : Nat} {l : List UInt8} {lr : Int} {C : Nat → Value} {wx : World} (h : Inv w b sb g0 n cap off g l lr C wx) (i : Nat) (v : Value) : Inv w b sb g0 n cap off g l lr (upd C i v) (wx.setCell ⟨b, i, none⟩ v) :=
  ⟨h.sc.set i v, h.row.of (heap_set_ne _ _ _ _ (by have := h.g; simp; omega)), by have := h.lt; simpa [World.setCell] using this, h.src.of (heap_set_ne _ _ _ _ (by have := h.sb; simp; omega)), h.fr.setB h.sb i _, h.sb, h.g⟩
theorem Inv.drew {w : World} {b sb g0 n cap off g : Nat} {l : List UInt8} {lr : Int} {C : Nat → Value} {wx : World} (h : Inv w b sb g0 n cap off g l lr C wx) : Inv w b sb g0 n cap off g l lr C wx.drew :=
  ⟨h.sc, h.row, h.lt, h.src, h.fr.drew, h.sb, h.g⟩
theorem Inv.drewN {w : World} {b sb g0 n cap off g : Nat} {l : List UInt8} {lr : Int} {C : Nat → Value} {wx : World} (h : Inv w b sb g0 n cap off g l lr C wx) (q : Nat) : Inv w b sb g0 n cap off g l lr C (wx.drewN q) :=
  ⟨h.sc, h.row, h.lt, h.src, h.fr.drewN q, h.sb, h.g⟩
set_option maxHeartbeats 16000000 in
theorem nextEnd (b sb g0 n cap col : Nat) (ea : Addr) (C : Nat → Value) (l : List UInt8) (lr tlr : Int) (w : World) (h : Sc b C w) (hs : Src sb g0 n cap n lr w) (hsb : sb < b) (hsb2 : 2 < sb) (hl : l.length = n) (hn0 : 1 ≤ n) (hn1 : n ≤ 64) (hcol : col ≤ 2000)
    (hd : ∀ j (hj : j < l.length), C (1 + j) = .int .u8 (l[j].toNat : Int)) (hE : w.cell? ⟨2, 0, none⟩ = some (.iface 65 (.pointer (some ea))))
    (e0 : C 0 = .iface 57 (.pointer (some ⟨sb, 0, none⟩))) (e1 : C (1 + n) = .int .u8 128) (e2 : C 1026 = .int .i64 n) (e3 : C 1027 = .int .i64 n) (e4 : C 1028 = .int .i64 0) (e5 : C 1030 = .int .i64 col) (e6 : C 1032 = .int .i64 1)
    (e7 : C 1033 = .slice none 0 0) (e8 : C 1034 = .int .i64 0) (e9 : C 1035 = .int .i8 tlr) (e10 : C 1036 = .int .i64 0) :
    Calls Tryd.prog 32 #[.pointer (some ⟨b, 0, none⟩)] w fun e w' => e = .returned (.int .i32 (-1)) ∧ (∃ g, b < g ∧ Sc b (endC C g n col) w' ∧ Row g l w' ∧ g < w'.heap.size) ∧ Src sb g0 0 cap 0 0 w' ∧ Fr b sb w w' := by
  have f := h.frozen
  have c1 := h.cell (1 + n) (by omega)
  have c2 := h.cell 1026 (by decide)
  have c3 := h.cell 1027 (by decide)
  have c6 := h.cell 1036 (by decide)
  rw [e1] at c1
  rw [e2] at c2
  rw [e3] at c3
  rw [e10] at c6
  have H := Lib.hid h
  have HS := Lib.hid hs
  have HE := Lib.hid hE
  clear h hs hE
  have w4 : IntKind.i64.wrap ((n : Int) + 4) = (n : Int) + 4 := by rw [IntKind.wrap_i64]; omega
  have w5 : (n : Int) < (n : Int) + 4 := by omega
  have F := Lib.hid (fun w => fullNone (some ⟨b, 1 + n, none⟩) (1025 - n) w)
  have hsl := sl b n n (Nat.le_refl _) (by omega) (by omega)
  rw [Nat.sub_self] at hsl
  have hsl0 := sl0 b n (by omega)
  have hcn : ∀ W, (Builtin.copy_ #[24, 24] 3 #[.slice (some ⟨b, 1, none⟩) 1025 1025, .slice (some ⟨b, 1 + n, none⟩) 0 (1025 - n)]).run Tryd.prog W = .ok (goInt 0) W := fun W => run_copy_none W 24 24 3 5 (some ⟨b, 1, none⟩) (some ⟨b, 1 + n, none⟩) 1025 1025 0 (1025 - n) Tryd.underlying24 (by kernel_rfl) (by simp)
  go_enter Tryd.func32, Tryd.ntmps32
  go_wp2
  go_quiet (fail)
  go_wp2
  refine wp_loop_rounds 1 ?_
  rw [rounds_succ]
  go_wp2
  go_quiet (exact quiet_same (F.out _))
  go_upto_region 5 with fail
  generalize hq : w.drewN _ = W0
  have h0 : Sc b C W0 := by rw [← hq]; exact H.out
  have s0 : Src sb g0 n cap n lr W0 := by rw [← hq]; exact HS.out
  have E0 : W0.cell? ⟨2, 0, none⟩ = some (.iface 65 (.pointer (some ea))) := by rw [← hq]; exact HE.out
  have b0 : Fr b sb w W0 := by rw [← hq]; exact (Fr.refl _ _ _).drewN _
  clear hq c1 c2 c3 c6 f
  have k1 := h0.cell 1026 (by decide)
  have k2 := h0.cell 1036 (by decide)
  rw [e2] at k1
  rw [e10] at k2
  have TW := Lib.hid (fun W hW => tokWrite b n 1025 C l tlr W hW e7 e8 e9 hl hn0 hn1 hd)
  have H0 := Lib.hid h0
  have S0 := Lib.hid s0
  have B0 := Lib.hid b0
  have HE0 := Lib.hid E0
  have hw0 := Lib.hid h0.lt
  clear h0 s0 b0 E0
  go_cut [6] from 51 to 66 (fun _ wx => ∃ g, Inv w b sb g0 n cap n g l lr (tokC C g n) wx)
  case first =>
    go_region_with (refine (TW.out _ (by exact H0.out)).mono ?_; rintro e W2 ⟨rfl, h2, r2, l2, b2, k2⟩)
    all_goals (go_wp2_with fail)
    all_goals go_meet
    all_goals exact ⟨_, h2, r2, l2, S0.out.of (b2.block sb hsb), B0.out.drew.trans (Fr.ofB b2 hsb k2), hsb, hw0.out⟩
  obtain ⟨g, I⟩ := hcut
  have E1 : wc.cell? ⟨2, 0, none⟩ = some (.iface 65 (.pointer (some ea))) := (I.fr.below.cell (p := ⟨2, 0, none⟩) (by show 2 < sb; omega)).trans HE.out
  have HE1 := Lib.hid E1
  have II := Lib.hid I
  clear k1 k2 TW hw0 E1 I
  have k1 := II.out.sc.cell 1036 (by decide)
  have f := II.out.sc.frozen
  go_upto_region 7 with fail
  have I2 := II.out.set 1036 (.int .i64 0)
  clear k1 f II
  generalize wc.setCell ⟨b, 1036, none⟩ (.int .i64 0) = W1 at *
  have k1 : W1.cell? ⟨b, 1026, none⟩ = some (.int .i64 n) := by rw [I2.sc.cell 1026 (by decide)]; simp [upd, tokC, e2]
  have k2 : W1.cell? ⟨b, 1027, none⟩ = some (.int .i64 n) := by rw [I2.sc.cell 1027 (by decide)]; simp [upd, tokC, e3]
  have II := Lib.hid I2
  clear I2
  go_cut [6] from 70 to 86 (fun _ wx => Inv w b sb g0 n cap n g l lr (upd (tokC C g n) 1036 (.int .i64 0)) wx)
  case first =>
    go_region
    all_goals (go_wp2_with fail)
    all_goals go_meet
    all_goals exact II.out.drew
  clear k1 k2 II
  have k1 : wc.cell? ⟨b, 1026, none⟩ = some (.int .i64 n) := by rw [hcut.sc.cell 1026 (by decide)]; simp [upd, tokC, e2]
  have k2 : wc.cell? ⟨b, 1028, none⟩ = some (.int .i64 0) := by rw [hcut.sc.cell 1028 (by decide)]; simp [upd, tokC, e4]
  have f := hcut.sc.frozen
  have II := Lib.hid hcut
  clear hcut
  go_upto_region 8 with fail
  go_cut [6] from 87 to 97 (fun _ wx => Inv w b sb g0 n cap n g l lr (upd (upd (tokC C g n) 1036 (.int .i64 0)) 1028 (.int .i64 n)) wx)
  case first =>
    go_region
    all_goals (go_wp2_with fail)
    all_goals go_meet
    all_goals exact II.out.drew.set 1028 _
  clear k1 k2 II f
  have k1 : wc.cell? ⟨b, 1026, none⟩ = some (.int .i64 n) := by rw [hcut.sc.cell 1026 (by decide)]; simp [upd, tokC, e2]
  have k2 : wc.cell? ⟨b, 1027, none⟩ = some (.int .i64 n) := by rw [hcut.sc.cell 1027 (by decide)]; simp [upd, tokC, e3]
  have k3 : wc.cell? ⟨b, 0, none⟩ = some (.iface 57 (.pointer (some ⟨sb, 0, none⟩))) := by rw [hcut.sc.cell 0 (by decide)]; simp [upd, tokC, e0]
  have II := Lib.hid hcut
  clear hcut
  go_upto_region 9 with fail
  go_quiet (fail)
  go_upto_region 10 with fail
  have R := Lib.hid (fun W hs hE => readEnd sb g0 n cap b ea lr W hs hE hsb2)
  go_cut [6, 7] from 107 to 121 (fun s6 s7 wx => s6 = .int .i64 0 ∧ s7 = .iface 65 (.pointer (some ea)) ∧ Inv w b sb g0 0 cap 0 g l 0 (upd (upd (tokC C g n) 1036 (.int .i64 0)) 1028 (.int .i64 n)) wx)
  case first =>
    go_region_with (refine (R.out _ (by exact II.out.src) (by exact (II.out.fr.below.cell (p := ⟨2, 0, none⟩) (by show 2 < sb; omega)).trans HE.out)).mono ?_; rintro e W2 ⟨rfl, s2, hh2, b2⟩)
    all_goals (go_wp2_with fail)
    all_goals go_meet
    all_goals exact ⟨rfl, rfl, II.out.sc.below (hh2 b (by omega)), II.out.row.of (hh2 g (by have := II.out.g; omega)), Nat.lt_of_lt_of_le II.out.lt b2.size, s2, (II.out.fr.drewN _).drew.trans ⟨b2, fun k _ h2 _ => hh2 k h2⟩, hsb, II.out.g⟩
  obtain ⟨rfl, rfl, I⟩ := hcut
  clear k1 k2 k3 II R
  have k1 := I.sc.cell 1026 (by decide)
  have k2 := I.sc.cell 1027 (by decide)
  have f := I.sc.frozen
  have II := Lib.hid I
  clear I
  go_upto_region 13 with fail
  have I2 := (II.out.set 1026 (.int .i64 0)).set 1027 (.int .i64 0)
  clear k1 k2 f II
  generalize (wc.setCell ⟨b, 1026, none⟩ (.int .i64 0)).setCell ⟨b, 1027, none⟩ (.int .i64 0) = W1 at *
  have k2 : W1.cell? ⟨b, 1027, none⟩ = some (.int .i64 0) := by rw [I2.sc.cell 1027 (by decide)]; rfl
  have k3 := I2.sc.cell 1 (by decide)
  have f := I2.sc.frozen
  have II := Lib.hid I2
  clear I2
  go_cut [6, 7] from 131 to 138 (fun s6 s7 wx => s6 = .int .i64 0 ∧ s7 = .iface 65 (.pointer (some ea)) ∧ Inv w b sb g0 0 cap 0 g l 0 (upd (upd (upd (upd (upd (tokC C g n) 1036 (.int .i64 0)) 1028 (.int .i64 n)) 1026 (.int .i64 0)) 1027 (.int .i64 0)) 1 (.int .u8 128)) wx)
  case first =>
    go_region
    all_goals (go_wp2_with fail)
    all_goals go_meet
    all_goals exact ⟨rfl, rfl, II.out.drew.set 1 _⟩
  obtain ⟨rfl, rfl, I⟩ := hcut
  clear k2 k3 f II
  have k1 : wc.cell? ⟨b, 1027, none⟩ = some (.int .i64 0) := by rw [I.sc.cell 1027 (by decide)]; rfl
  have k2 : wc.cell? ⟨b, 1032, none⟩ = some (.int .i64 1) := by rw [I.sc.cell 1032 (by decide)]; simp [upd, tokC, e6]
  have k3 : wc.cell? ⟨b, 1030, none⟩ = some (.int .i64 col) := by rw [I.sc.cell 1030 (by decide)]; simp [upd, tokC, e5]
  have k4 : wc.cell? ⟨2, 0, none⟩ = some (.iface 65 (.pointer (some ea))) := (I.fr.below.cell (p := ⟨2, 0, none⟩) (by show 2 < sb; omega)).trans HE.out
  have f := I.sc.frozen
  have ne := neqSame ea
  have II := Lib.hid I
  clear I
  go_wp2
  go_ret
  have I := (II.out.set 1030 (.int .i64 (col + 1))).set 1032 (.int .i64 0)
  exact ⟨rfl, ⟨g, I.g, I.sc, I.row, I.lt⟩, I.src, I.fr⟩
end Go.Proofs.YtiidebhepilgiaaDoorR
