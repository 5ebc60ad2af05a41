import Derived.Test.YtiidebhepilgiaaDoorRShelf
import Derived.WalkKit
import Derived.WalkSpells
import Derived.WalkLawsBesides
import Derived.LoopN
import Derived.Deep.CutRange
import Derived.Lib.Hide
import Derived.BigQuiet
import Derived.Laws.IdiomCopy
import Derived.Deep.Upon
/-
  The scanner: its block, its source, the steps over one sign and to the end of the source.
-/
namespace Go.Proofs.YtiidebhepilgiaaDoorR
open Go.RowKit
set_option maxRecDepth 1000000
/-- Block b is a scanner whose cells are C. -/
def Sc (b : Nat) (C : Nat → Value) (w : World) : Prop := ∃ A : Array Value, w.heap[b]? = some (.cells A 76 (0, 0)) ∧ A.size = 1044 ∧ ∀ i, i < 1044 → A[i]? = some (C i)
def upd (C : Nat → Value) (i : Nat) (v : Value) : Nat → Value := fun j => if j = i then v else C j
theorem Sc.cell {b : Nat} {C : Nat → Value} {w : World} (h : Sc b C w) (i : Nat) (hi : i < 1044) : w.cell? ⟨b, i, none⟩ = some (C i) := by
  obtain ⟨A, ha, hs, hc⟩ := h
  rw [Lib.cell_of_heap ha, hc i hi]
theorem Sc.frozen {b : Nat} {C : Nat → Value} {w : World} (h : Sc b C w) (i : Nat) : w.frozen? ⟨b, i, none⟩ = false := by
  obtain ⟨A, ha, hs, hc⟩ := h
  exact Lib.frozen_of_heap ha i
theorem Sc.set {b : Nat} {C : Nat → Value} {w : World} (h : Sc b C w) (i : Nat) (v : Value) : Sc b (upd C i v) (w.setCell ⟨b, i, none⟩ v) := by
  obtain ⟨A, ha, hs, hc⟩ := h
  refine ⟨A.set! i v, ?_, by simp [hs], ?_⟩
  · show (w.heap.modify b _)[b]? = _
    rw [Array.getElem?_modify, if_pos rfl, ha]
    rfl
  · intro j hj
    unfold upd
    by_cases e : j = i
    · subst e
      rw [if_pos rfl]
      simp [hs, hj]
    · rw [if_neg e, ← hc j hj]
      simp [Ne.symm e]
theorem Sc.below {b : Nat} {C : Nat → Value} {w w' : World} (h : Sc b C w) (hb : w'.heap[b]? = w.heap[b]?) : Sc b C w' := by
  obtain ⟨A, ha, hs, hc⟩ := h
  exact ⟨A, hb.trans ha, hs, hc⟩
/-- The scanner behind Init. -/
def initC (C : Nat → Value) (sb : Nat) : Nat → Value :=
  upd (upd (upd (upd (upd (upd (upd (upd (upd (upd (upd (upd C 0 (.iface 57 (.pointer (some ⟨sb, 0, none⟩)))) 1 (.int .u8 128)) 1026 (.int .i64 0)) 1027 (.int .i64 0)) 1028 (.int .i64 0)) 1029 (.int .i64 1)) 1030 (.int .i64 0)) 1031 (.int .i64 0)) 1032 (.int .i64 0)) 1036 (.int .i64 (-1))) 1038 (.int .i32 (-2))) 1042 (.int .i64 0)
theorem init (b sb : Nat) (C : Nat → Value) (w : World) (h : Sc b C w) :
    Calls Tryd.prog 25 #[.pointer (some ⟨b, 0, none⟩), .iface 57 (.pointer (some ⟨sb, 0, none⟩))] w fun e w' => e = .returned (.pointer (some ⟨b, 0, none⟩)) ∧ Sc b (initC C sb) w' ∧ Below b w w' := by
  have f := h.frozen
  have c0 := h.cell 0 (by decide)
  have c1 := h.cell 1 (by decide)
  have c2 := h.cell 1026 (by decide)
  have c3 := h.cell 1027 (by decide)
  have c4 := h.cell 1028 (by decide)
  have c5 := h.cell 1029 (by decide)
  have c6 := h.cell 1030 (by decide)
  have c7 := h.cell 1031 (by decide)
  have c8 := h.cell 1032 (by decide)
  have c9 := h.cell 1036 (by decide)
  have c10 := h.cell 1038 (by decide)
  have c11 := h.cell 1042 (by decide)
  go_enter Tryd.func25, Tryd.ntmps25
  go_wp2_with fail
  go_ret
  refine ⟨rfl, ((((((((((((h.set 0 _).set 1 _).set 1026 _).set 1027 _).set 1028 _).set 1029 _).set 1030 _).set 1031 _).set 1032 _).set 1036 _).set 1038 _).set 1042 _), ?_⟩
  repeat' apply Below.setCell
  all_goals first | exact Below.refl _ _ | exact Nat.le_refl _
theorem Sc.drew {b : Nat} {C : Nat → Value} {w : World} (h : Sc b C w) : Sc b C w.drew := h
/-- The scanner behind a step over one sign. -/
def stepC (C : Nat → Value) (pos col : Nat) : Nat → Value := upd (upd (upd C 1026 (.int .i64 (pos + 1))) 1032 (.int .i64 1)) 1030 (.int .i64 (col + 1))
theorem heap_set_ne (w : World) (p : Addr) (v : Value) (k : Nat) (h : p.block ≠ k) : (w.setCell p v).heap[k]? = w.heap[k]? := by
  show (w.heap.modify p.block _)[k]? = _
  rw [Array.getElem?_modify, if_neg h]
theorem nextAscii (b pos col x : Nat) (C : Nat → Value) (w : World) (h : Sc b C w) (hp : C 1026 = .int .i64 pos) (hpm : pos < 1024) (hx : C (1 + pos) = .int .u8 x) (hx0 : 48 ≤ x) (hx1 : x ≤ 57) (hcol : C 1030 = .int .i64 col) (hc : col ≤ 2000) :
    Calls Tryd.prog 32 #[.pointer (some ⟨b, 0, none⟩)] w fun e w' => e = .returned (.int .i32 x) ∧ Sc b (stepC C pos col) w' ∧ Below b w w' ∧ ∀ k, k ≠ b → w'.heap[k]? = w.heap[k]? := by
  have f := h.frozen
  have c1 := h.cell 1026 (by decide)
  have c2 := h.cell (1 + pos) (by omega)
  have c3 := h.cell 1032 (by decide)
  have c4 := h.cell 1030 (by decide)
  rw [hp] at c1
  rw [hx] at c2
  rw [hcol] at c4
  have g1 : ¬ (128 : Int) ≤ x := by omega
  have g2 : ¬ (x : Int) = 0 := by omega
  have g3 : ¬ (x : Int) = 10 := by omega
  have H := Lib.hid h
  clear h hp hx hcol
  go_enter Tryd.func32, Tryd.ntmps32
  go_wp2
  go_quiet (fail)
  go_wp2
  go_ret
  refine ⟨rfl, (((show Sc b C _ from H.out).set 1026 _).set 1032 _).set 1030 _, ?_, fun k hk => ?_⟩
  · repeat' apply Below.setCell
    all_goals first | exact Below.refl _ _ | exact Nat.le_refl _ | exact below_drewN (Below.refl _ _) _
  · rw [heap_set_ne _ _ _ _ (Ne.symm hk), heap_set_ne _ _ _ _ (Ne.symm hk), heap_set_ne _ _ _ _ (Ne.symm hk)]
    rfl
/-- What a step keeps: all that is below the source's block, and each old block but the scanner's and the source's. -/
structure Fr (b sb : Nat) (w w' : World) : Prop where
  below : Below sb w w'
  keep : ∀ k, k ≠ b → k ≠ sb → k < w.heap.size → w'.heap[k]? = w.heap[k]?
theorem Fr.refl (b sb : Nat) (w : World) : Fr b sb w w := ⟨Below.refl _ _, fun _ _ _ _ => rfl⟩
theorem Fr.drew {b sb : Nat} {w wx : World} (h : Fr b sb w wx) : Fr b sb w wx.drew := ⟨h.below.drew, h.keep⟩
theorem Fr.drewN {b sb : Nat} {w wx : World} (h : Fr b sb w wx) (q : Nat) : Fr b sb w (wx.drewN q) := ⟨below_drewN h.below q, h.keep⟩
theorem Fr.setB {b sb : Nat} {w wx : World} (h : Fr b sb w wx) (hsb : sb < b) (i : Nat) (v : Value) : Fr b sb w (wx.setCell ⟨b, i, none⟩ v) :=
  ⟨h.below.setCell (p := ⟨b, i, none⟩) (Nat.le_of_lt hsb) v, fun k h1 h2 h3 => (heap_set_ne _ _ _ _ (Ne.symm h1)).trans (h.keep k h1 h2 h3)⟩
theorem Fr.setS {b sb : Nat} {w wx : World} (h : Fr b sb w wx) (i : Nat) (v : Value) : Fr b sb w (wx.setCell ⟨sb, i, none⟩ v) :=
  ⟨h.below.setCell (p := ⟨sb, i, none⟩) (Nat.le_refl _) v, fun k h1 h2 h3 => (heap_set_ne _ _ _ _ (Ne.symm h2)).trans (h.keep k h1 h2 h3)⟩
theorem Fr.trans {b sb : Nat} {w wx wy : World} (h : Fr b sb w wx) (k : Fr b sb wx wy) : Fr b sb w wy :=
  ⟨h.below.trans k.below, fun i h1 h2 h3 => (k.keep i h1 h2 (Nat.lt_of_lt_of_le h3 h.below.size)).trans (h.keep i h1 h2 h3)⟩
theorem Fr.ofB {b sb : Nat} {w wx : World} (hb : Below b w wx) (hsb : sb < b) (hk : ∀ k, k ≠ b → k < w.heap.size → wx.heap[k]? = w.heap[k]?) : Fr b sb w wx :=
  ⟨hb.mono (Nat.le_of_lt hsb), fun k h1 _ h3 => hk k h1 h3⟩
theorem heap_sets_ne (vs : List Value) : ∀ (w : World) (b o k : Nat) (_ : b ≠ k), (w.setCells b o vs).heap[k]? = w.heap[k]? := by
  induction vs with
  | nil => intro w b o k _; rfl
  | cons v r ih => intro w b o k h; rw [World.setCells, ih _ _ _ _ h, heap_set_ne _ _ _ _ h]
def updL (C : Nat → Value) : Nat → List Value → Nat → Value
  | _, [] => C
  | o, v :: r => updL (upd C o v) (o + 1) r
theorem updL_out (vs : List Value) : ∀ (C : Nat → Value) (o j : Nat), (j < o ∨ o + vs.length ≤ j) → updL C o vs j = C j := by
  induction vs with
  | nil => intro C o j _; rfl
  | cons v r ih =>
    intro C o j h
    rw [updL, ih (upd C o v) (o + 1) j (by simp at h; omega)]
    unfold upd
    rw [if_neg (by simp at h; omega)]
theorem updL_in (vs : List Value) : ∀ (C : Nat → Value) (o j : Nat) (h : j < vs.length), updL C o vs (o + j) = vs[j] := by
  induction vs with
  | nil => intro C o j h; simp at h
  | cons v r ih =>
    intro C o j h
    cases j with
    | zero =>
      rw [updL, updL_out r _ _ _ (.inl (by omega))]
      simp [upd]
    | succ j =>
      rw [updL, show o + (j + 1) = o + 1 + j by omega, ih _ _ j (by simpa using h)]
      rfl
theorem Sc.sets (vs : List Value) : ∀ {b : Nat} {C : Nat → Value} {w : World} (_ : Sc b C w) (o : Nat), Sc b (updL C o vs) (w.setCells b o vs) := by
  induction vs with
  | nil => intro b C w h o; exact h
  | cons v r ih => intro b C w h o; exact ih (h.set o v) (o + 1)
/-- The source: a buffer in block sb over the row in block g, read up to off. -/
def Src (sb g n cap off : Nat) (lr : Int) (w : World) : Prop := w.heap[sb]? = some (.cells #[.slice (some ⟨g, 0, none⟩) n cap, .int .i64 off, .int .i8 lr] 74 (0, 0))
theorem Src.c0 {sb g n cap off : Nat} {lr : Int} {w : World} (h : Src sb g n cap off lr w) : w.cell? ⟨sb, 0, none⟩ = some (.slice (some ⟨g, 0, none⟩) n cap) := by rw [Lib.cell_of_heap h]; rfl
theorem Src.c1 {sb g n cap off : Nat} {lr : Int} {w : World} (h : Src sb g n cap off lr w) : w.cell? ⟨sb, 1, none⟩ = some (.int .i64 off) := by rw [Lib.cell_of_heap h]; rfl
theorem Src.c2 {sb g n cap off : Nat} {lr : Int} {w : World} (h : Src sb g n cap off lr w) : w.cell? ⟨sb, 2, none⟩ = some (.int .i8 lr) := by rw [Lib.cell_of_heap h]; rfl
theorem Src.f {sb g n cap off : Nat} {lr : Int} {w : World} (h : Src sb g n cap off lr w) (i : Nat) : w.frozen? ⟨sb, i, none⟩ = false := Lib.frozen_of_heap h i
theorem Src.set0 {sb g n cap off : Nat} {lr : Int} {w : World} (h : Src sb g n cap off lr w) (n' cap' : Nat) : Src sb g n' cap' off lr (w.setCell ⟨sb, 0, none⟩ (.slice (some ⟨g, 0, none⟩) n' cap')) := by
  show (w.heap.modify sb _)[sb]? = _
  rw [Array.getElem?_modify, if_pos rfl, h]
  rfl
theorem Src.set1 {sb g n cap off : Nat} {lr : Int} {w : World} (h : Src sb g n cap off lr w) (o : Nat) : Src sb g n cap o lr (w.setCell ⟨sb, 1, none⟩ (.int .i64 o)) := by
  show (w.heap.modify sb _)[sb]? = _
  rw [Array.getElem?_modify, if_pos rfl, h]
  rfl
theorem Src.set2 {sb g n cap off : Nat} {lr : Int} {w : World} (h : Src sb g n cap off lr w) (o : Int) : Src sb g n cap off o (w.setCell ⟨sb, 2, none⟩ (.int .i8 o)) := by
  show (w.heap.modify sb _)[sb]? = _
  rw [Array.getElem?_modify, if_pos rfl, h]
  rfl
theorem Src.of {sb g n cap off : Nat} {lr : Int} {w w' : World} (h : Src sb g n cap off lr w) (hh : w'.heap[sb]? = w.heap[sb]?) : Src sb g n cap off lr w' := hh.trans h
theorem Src.lt {sb g n cap off : Nat} {lr : Int} {w : World} (h : Src sb g n cap off lr w) : sb < w.heap.size := by
  rcases Nat.lt_or_ge sb w.heap.size with h' | h'
  · exact h'
  · unfold Src at h
    rw [Array.getElem?_eq_none h'] at h
    cases h
theorem Sc.lt {b : Nat} {C : Nat → Value} {w : World} (h : Sc b C w) : b < w.heap.size := by
  obtain ⟨A, h, _⟩ := h
  rcases Nat.lt_or_ge b w.heap.size with h' | h'
  · exact h'
  · rw [Array.getElem?_eq_none h'] at h
    cases h
theorem cell_set_ne (w : World) (p a : Addr) (v : Value) (h : p.block ≠ a.block) : (w.setCell p v).cell? a = w.cell? a := by
  unfold World.cell?
  rw [heap_set_ne w p v a.block h]
theorem below_sets {B b : Nat} {w : World} (vs : List Value) : ∀ {wx : World} (_ : Below B w wx) (_ : B ≤ b) (o : Nat), Below B w (wx.setCells b o vs) := by
  induction vs with
  | nil => intro wx h _ o; exact h
  | cons v r ih => intro wx h hb o; exact ih (h.setCell (p := ⟨b, o, none⟩) hb v) hb (o + 1)
theorem isEmpty (sb g n cap off : Nat) (lr : Int) (w : World) (h : Src sb g n cap off lr w) (t : Bool) (ht : decide (n ≤ off) = t) :
    Calls Tryd.prog 77 #[.pointer (some ⟨sb, 0, none⟩)] w fun e w' => e = .returned (.bool t) ∧ w' = w.drew := by
  have c0 := h.c0
  have c1 := h.c1
  clear h
  go_enter Tryd.func77, Tryd.ntmps77
  go_wp2
  go_region
  all_goals go_wp2
  all_goals go_ret
  all_goals exact ⟨by rw [← ht]; rfl, rfl⟩
theorem readAll (sb g n cap b : Nat) (C : Nat → Value) (l : List UInt8) (lr : Int) (w : World) (hs : Src sb g n cap 0 lr w) (h : Sc b C w) (hb : sb < b) (hn : l.length = n) (hn0 : 1 ≤ n) (hn1 : n ≤ 100) (hnc : n ≤ cap)
    (hd : ∀ j (h : j < l.length), w.cell? ⟨g, j, none⟩ = some (.int .u8 (l[j].toNat : Int))) (hg : g < sb) :
    Calls Tryd.prog 76 #[.pointer (some ⟨sb, 0, none⟩), .slice (some ⟨b, 1, none⟩) 1024 1025] w fun e w' => e = .returned (.tuple #[.int .i64 n, .nilIface]) ∧ Sc b (updL C 1 (Lib.byteCells l)) w' ∧ Src sb g n cap n (-1) w' ∧ Fr b sb w w' := by
  have hs2 := hs.set2 0
  have h2 := h.below (w' := w.setCell ⟨sb, 2, none⟩ (.int .i8 0)) (heap_set_ne _ _ _ _ (by simp; omega))
  have hb2 : Fr b sb w (w.setCell ⟨sb, 2, none⟩ (.int .i8 0)) := (Fr.refl _ _ _).setS 2 _
  have c2 := hs.c2
  have f2 := hs.f 2
  have E := Lib.hid (isEmpty sb g n cap 0 0 _ hs2 false (by simp; omega))
  have hd2 : ∀ j (h : j < l.length), (w.setCell ⟨sb, 2, none⟩ (.int .i8 0)).cell? ⟨g, j, none⟩ = some (.int .u8 (l[j].toNat : Int)) := fun j hj => (cell_set_ne _ _ _ _ (by simp; omega)).trans (hd j hj)
  generalize hW : w.setCell ⟨sb, 2, none⟩ (.int .i8 0) = W at *
  have hcp := run_copy_cells (P := Tryd.prog) W.drew.drew 24 24 3 5 b 1 1024 1025 ⟨g, 0, none⟩ n cap (Lib.byteCells l) Tryd.underlying24 (by kernel_rfl) (by rw [Lib.byteCells_length, hn]; exact (Nat.min_eq_left (by omega)).symm)
    (fun j v hj => by
      have hj' : j < l.length := by have := (List.getElem?_eq_some_iff.1 hj).1; simpa [Lib.byteCells_length] using this
      show W.cell? _ = _
      have := hd2 j hj'
      simp [Lib.byteCells, List.getElem?_eq_getElem hj'] at hj
      rw [← hj]
      have ea : Addr.add ⟨g, 0, none⟩ j = ⟨g, j, none⟩ := by cases j <;> simp [Addr.add]
      rw [ea]
      exact this)
    (fun j hj => by
      show (W.cell? _).isSome = true
      rw [h2.cell _ (by simp [Lib.byteCells_length] at hj; omega)]; rfl)
    (fun j hj => h2.frozen _) (Lib.byteCells_one _)
  have hbs : b ≠ sb := by omega
  have F1 := Lib.hid (Sc.sets (Lib.byteCells l) h2.drew.drew 1)
  have e0 : (goInt (Lib.byteCells l).length : Value) = .int .i64 n := by rw [Lib.byteCells_length, hn]; rfl
  rw [e0] at hcp
  have S2 := hs2.of (w' := W.drew.drew.setCells b 1 (Lib.byteCells l)) (World.heap_setCells_other W.drew.drew b 1 _ hs2.lt (Ne.symm hbs))
  have k0 := hs2.c0
  have k1 := hs2.c1
  have k2 := hs2.f
  have m1 := S2.c1
  have m2 := S2.f
  have m3 := S2.c2
  have w3 : 0 < n := by omega
  have w4 : ¬ n ≤ 0 := by omega
  have w1 : ¬ ((n : Int) ≤ 0) := by omega
  have w2 : (0 : Int) < n := by omega
  clear e0
  go_enter Tryd.func76, Tryd.ntmps76
  go_wp2_with fail
  refine E.out.mono ?_
  rintro e w' ⟨rfl, rfl⟩
  go_wp2_with fail
  go_region
  all_goals go_wp2_with fail
  go_ret2
  refine ⟨rfl, ?_, (S2.set1 n).set2 (-1), ?_⟩
  · refine Sc.below (w := W.drew.drew.setCells b 1 (Lib.byteCells l)) F1.out ?_
    rw [heap_set_ne _ _ _ _ (by simp; omega), heap_set_ne _ _ _ _ (by simp; omega)]
  · refine Fr.setS (Fr.setS ?_ 1 _) 2 _
    exact ⟨below_sets _ hb2.drew.drew.below (by omega) _, fun k h1 h2 h3 => (heap_sets_ne _ _ _ _ _ (Ne.symm h1)).trans (hb2.keep k h1 h2 h3)⟩
theorem reset (B o n cap : Nat) (ao : Option Addr) (w : World) (c0 : w.cell? ⟨B, o, none⟩ = some (.slice ao n cap)) (c1 : ∃ v, w.cell? ⟨B, o + 1, none⟩ = some v) (c2 : ∃ v, w.cell? ⟨B, o + 2, none⟩ = some v) (f : ∀ i, w.frozen? ⟨B, i, none⟩ = false) :
    Calls Tryd.prog 34 #[.pointer (some ⟨B, o, none⟩)] w fun e w' => e = .returned (.tuple #[]) ∧ w' = ((w.setCell ⟨B, o, none⟩ (.slice ao 0 cap)).setCell ⟨B, o + 1, none⟩ (.int .i64 0)).setCell ⟨B, o + 2, none⟩ (.int .i8 0) := by
  obtain ⟨v1, c1⟩ := c1
  obtain ⟨v2, c2⟩ := c2
  go_enter Tryd.func34, Tryd.ntmps34
  go_wp2
  go_end0
  exact ⟨rfl, rfl⟩
theorem readEnd (sb g n cap b : Nat) (ea : Addr) (lr : Int) (w : World) (hs : Src sb g n cap n lr w) (hE : w.cell? ⟨2, 0, none⟩ = some (.iface 65 (.pointer (some ea)))) (h2 : 2 < sb) :
    Calls Tryd.prog 76 #[.pointer (some ⟨sb, 0, none⟩), .slice (some ⟨b, 1, none⟩) 1024 1025] w fun e w' => e = .returned (.tuple #[.int .i64 0, .iface 65 (.pointer (some ea))]) ∧ Src sb g 0 cap 0 0 w' ∧ (∀ k, k ≠ sb → w'.heap[k]? = w.heap[k]?) ∧ Below sb w w' := by
  have c2 := hs.c2
  have f2 := hs.f 2
  have hs2 := hs.set2 0
  have hE2 := (cell_set_ne w ⟨sb, 2, none⟩ ⟨2, 0, none⟩ (.int .i8 0) (by simp; omega)).trans hE
  have hb2 : Below sb w (w.setCell ⟨sb, 2, none⟩ (.int .i8 0)) := (Below.refl _ _).setCell (p := ⟨sb, 2, none⟩) (Nat.le_refl _) _
  have hh2 : ∀ k, k ≠ sb → (w.setCell ⟨sb, 2, none⟩ (.int .i8 0)).heap[k]? = w.heap[k]? := fun k hk => heap_set_ne _ _ _ _ (Ne.symm hk)
  have E := Lib.hid (isEmpty sb g n cap n 0 _ hs2 true (by simp))
  generalize hW : w.setCell ⟨sb, 2, none⟩ (.int .i8 0) = W at *
  have R := Lib.hid (reset sb 0 n cap (some ⟨g, 0, none⟩) W.drew hs2.c0 ⟨_, hs2.c1⟩ ⟨_, hs2.c2⟩ hs2.f)
  have S3 := ((hs2.set0 0 cap).set1 0).set2 0
  have HS := Lib.hid S3
  have HH := Lib.hid hh2
  have HB := Lib.hid hb2
  have hE3 : (((W.drew.setCell ⟨sb, 0, none⟩ (.slice (some ⟨g, 0, none⟩) 0 cap)).setCell ⟨sb, 0 + 1, none⟩ (.int .i64 0)).setCell ⟨sb, 0 + 2, none⟩ (.int .i8 0)).cell? ⟨2, 0, none⟩ = some (.iface 65 (.pointer (some ea))) := by
    rw [cell_set_ne _ _ _ _ (by simp; omega), cell_set_ne _ _ _ _ (by simp; omega), cell_set_ne _ _ _ _ (by simp; omega)]
    exact hE2
  clear S3 hh2 hb2 hs2 hE2
  go_enter Tryd.func76, Tryd.ntmps76
  go_wp2_with fail
  refine E.out.mono ?_
  rintro e w' ⟨rfl, rfl⟩
  go_wp2_with fail
  refine R.out.mono ?_
  rintro e w' ⟨rfl, hw'⟩
  rw [← hw'] at hE3
  have hs3 : Src sb g 0 cap 0 0 w' := by rw [hw']; exact HS.out
  have hh3 : ∀ k, k ≠ sb → w'.heap[k]? = w.heap[k]? := by
    intro k hk
    rw [hw', heap_set_ne _ _ _ _ (Ne.symm hk), heap_set_ne _ _ _ _ (Ne.symm hk), heap_set_ne _ _ _ _ (Ne.symm hk)]
    exact HH.out k hk
  have hb3 : Below sb w w' := by
    rw [hw']
    exact Below.setCell (p := ⟨sb, 0 + 2, none⟩) (Below.setCell (p := ⟨sb, 0 + 1, none⟩) (Below.setCell (p := ⟨sb, 0, none⟩) HB.out.drew (Nat.le_refl _) _) (Nat.le_refl _) _) (Nat.le_refl _) _
  clear hw'
  go_wp2_with fail
  go_region
  all_goals go_wp2
  all_goals go_ret2
  all_goals exact ⟨rfl, hs3, hh3, hb3.drew⟩
end Go.Proofs.YtiidebhepilgiaaDoorR
