import Derived.Test.YtiidebhepilgiaaDoorRShelf
import Derived.WalkKit
import Derived.WalkSpells
import Derived.WalkLawsBesides
import Derived.LoopN
import Derived.Deep.CutRange
import Derived.Lib.Hide
import Derived.Laws.IdiomStrings
import Derived.Laws.BytesArg
/-
  rust.Unquote of a backslash and one sign, and of one sign.
-/
namespace Go.Proofs.YtiidebhepilgiaaDoorR
open Go.RowKit
set_option maxRecDepth 100000
/-- utf8.DecodeRune of an ASCII byte. -/
theorem decOne (b off n cap x : Nat) (w : World) (hn : (0 : Int) < n) (hc : w.cell? ⟨b, off, none⟩ = some (.int .u8 x)) (hx : (x : Int) < 128) :
    Calls Tryd.prog 19 #[.slice (some ⟨b, off, none⟩) n cap] w fun e w' => e = .returned (.tuple #[.int .i32 x, .int .i64 1]) ∧ w' = w := by
  go_enter Tryd.func19, Tryd.ntmps19
  go_wp2
  refine wp_loop_rounds 1 ?_
  rw [rounds_succ]
  go_wp2
  go_ret2
  exact ⟨rfl, rfl⟩
theorem nextOne (b n cap i x : Nat) (j : Int) (w : World) (hj : (i : Int) + 1 = j) (hi : i < n) (hn : n ≤ 1000) (hnc : n ≤ cap) (hc : w.cell? ⟨b, i, none⟩ = some (.int .u8 x)) (hx : x < 128) :
    Calls Tryd.prog 11 #[.slice (some ⟨b, 0, none⟩) n cap, .int .i64 i] w fun e w' => e = .returned (.tuple #[.int .i32 x, .int .i64 j, .nilIface]) ∧ w' = w := by
  have c := decOne b i (n - i) (cap - i) x w (by omega) hc (by omega)
  subst hj
  have h1 : ¬ ((x : Int) = 65533) := by omega
  go_enter Tryd.func11, Tryd.ntmps11
  go_wp2_with fail
  refine c.mono ?_
  rintro e w' ⟨rfl, rfl⟩
  go_wp2_with fail
  refine bodyPost_ret (v := .tuple #[.int .i32 x, .int .i64 (i + 1), .nilIface]) (by simp [results, Tryd.results11, go_sem]) rfl ?_
  exact ⟨rfl, rfl⟩
theorem copyFresh (b : Nat) (w : World) (h0 : w.cell? ⟨b, 0, none⟩ = some (.pointer none)) (hsh : w.shape? b = some (49, 2)) (hfz : w.frozen? ⟨b, 0, none⟩ = false) :
    Calls Tryd.prog 20 #[.pointer (some ⟨b, 0, none⟩)] w fun e w' => e = .returned (.tuple #[]) ∧ w' = w.setCell ⟨b, 0, none⟩ (.pointer (some ⟨b, 0, none⟩)) := by
  obtain ⟨j, hj, hjs⟩ := Option.map_eq_some_iff.1 (show (Tryd.prog.info? 49).map (·.size) = some 2 by kernel_rfl)
  go_enter Tryd.func20, Tryd.ntmps20
  go_wp2
  rw [Lib.run_to_unsafe w ⟨b, 0, none⟩ Tryd.underlying47 Tryd.underlying80 hj (by rw [hjs]; decide) hsh (Nat.zero_lt_succ 1)]
  simp only [Result.andThen]
  rw [Oper.upon_value]
  go_wp2
  rw [run_callFunc_extern Tryd.func28 (by kernel_rfl) (by kernel_rfl) (by kernel_rfl) (e := Extern.AbiNoEscape.same) (by kernel_rfl)]
  rw [Lib.run_noEscape]
  simp only [Result.andThen]
  rw [Oper.upon_value]
  go_wp2
  rw [Lib.run_from_unsafe w ⟨b, 0, none⟩ Tryd.underlying80 Tryd.underlying47 hj hsh (by kernel_rfl)]
  simp only [Result.andThen]
  rw [Oper.upon_value]
  go_wp2
  go_end0
  exact ⟨rfl, rfl⟩
theorem wFirst (b : Nat) (r : Int) (hr0 : 0 ≤ r) (hr1 : r ≤ 127) (w : World) (h : Lib.BuilderAt 49 5 b b (.pointer none) [] w) (hBw : b ≤ w.heap.size) :
    Calls Tryd.prog 13 #[.pointer (some ⟨b, 0, none⟩), .int .i32 r] w fun e w' => (∃ v, e = .returned (.tuple #[.int .i64 v, .nilIface])) ∧ Lib.IsBuilderF 49 5 b b (Lib.runeCells r) w' ∧ Below b w w' := by
  have hk4 := Lib.runeCells_le r
  go_enter Tryd.func13, Tryd.ntmps13
  go_wp2_with fail
  refine (copyFresh b w h.cell0 h.shape h.frozen0).mono ?_
  rintro e w1 ⟨rfl, hw1⟩
  have hb1 : Below b w w1 := by rw [hw1]; exact (Below.refl b w).setCell (p := ⟨b, 0, none⟩) (Nat.le_refl _) _
  have h1 := Lib.BuilderAtF.of (h.used (.pointer (some ⟨b, 0, none⟩)))
  rw [← hw1] at h1
  clear hw1
  obtain ⟨hB, v, hbk, hown, hne⟩ := h1
  obtain ⟨ao, cap, rfl⟩ : ∃ ao cap, v = .slice ao ([] : List Value).length cap := by
    rcases hown.2 with ⟨hv, h0⟩ | ⟨g, cap, cur, fz, hv, _⟩
    · exact ⟨none, 0, by rw [hv]; rfl⟩
    · exact ⟨_, _, hv⟩
  have c0 : w1.cell? ⟨b, 0, none⟩ = some (.pointer (some ⟨b, 0, none⟩)) := by rw [Lib.cell_of_heap hbk]; rfl
  have c1 : w1.cell? ⟨b, 1, none⟩ = some (.slice ao 0 cap) := by rw [Lib.cell_of_heap hbk]; rfl
  go_wp2_with fail
  refine (Tryd.utf8_AppendRune_row b _ 0 [] r (by omega) (by omega) w1 hown (by omega) (by have := hb1.size; omega)).mono ?_
  rintro e w2 ⟨v', rfl, hown', o, hgrow⟩
  have hlt : b < w1.heap.size := by
    rcases Nat.lt_or_ge b w1.heap.size with h' | h'
    · exact h'
    · simp [Array.getElem?_eq_none h'] at hbk
  have hb2 : w2.heap[b]? = some (.cells #[.pointer (some ⟨b, 0, none⟩), .slice ao 0 cap] 49 (0, 0)) := by
    rw [hgrow.block b (by simp; omega) (fun e => hne e.symm), Lib.alloc_old w1 _ b hlt]
    exact hbk
  have d0 : w2.cell? ⟨b, 0, none⟩ = some (.pointer (some ⟨b, 0, none⟩)) := by rw [Lib.cell_of_heap hb2]; rfl
  have d1 : w2.cell? ⟨b, 1, none⟩ = some (.slice ao 0 cap) := by rw [Lib.cell_of_heap hb2]; rfl
  have f1 : w2.frozen? ⟨b, 1, none⟩ = false := Lib.frozen_of_heap hb2 1
  obtain ⟨g, cap', rfl⟩ : ∃ g cap', v' = .slice (some ⟨g, 0, none⟩) (0 + (Lib.runeCells r).length) cap' := by
    rcases hown'.2 with ⟨_, h0⟩ | ⟨g, cap', cur, fz, hv, _⟩
    · omega
    · exact ⟨g, cap', hv⟩
  go_wp2_with fail
  go_ret2
  refine ⟨⟨_, rfl⟩, .inr ?_, ?_⟩
  · exact Lib.BuilderAtF.put (T := 49) (e := 5) hB hb2 (bs' := Lib.runeCells r) (by simpa using hown') (by decide)
  · exact ((hb1.alloc (by have := hb1.size; omega) _).grown hgrow (by have := hb1.size; simp; omega) (fun k hk => (hown.lt k hk).1)).setCell (p := ⟨b, 1, none⟩) hB _
theorem errNew (s : ByteArray) (w : World) : Calls Tryd.prog 16 #[.string s] w fun e w' => (∃ a, e = .returned (.iface 65 (.pointer (some a)))) ∧ Below w.heap.size w w' := by
  go_enter Tryd.func16, Tryd.ntmps16
  go_wp2
  go_ret
  exact ⟨⟨_, rfl⟩, Below.alloc (Below.refl _ _) (Nat.le_refl _) _⟩
/-- A slice of no bytes. -/
def EmptyS (s : Value) : Prop := ∃ a c, s = .slice a 0 c
theorem emptyText {s : Value} (h : EmptyS s) (W : World) : (convert 24 9 s).run Tryd.prog W = .ok (.string ⟨#[]⟩) W := by
  obtain ⟨a, c, rfl⟩ := h
  cases a with
  | none => exact run_convert_bytes_nil W 24 5 Tryd.underlying24 Tryd.underlying5 0 c 9 Tryd.underlying9
  | some a => exact run_convert_bytes_back W 24 9 5 a c [] Tryd.underlying24 Tryd.underlying5 Tryd.underlying9 (fun j hj => absurd hj (by simp))
/-- How rust.Unquote ends: the text, nothing left; an error or none. -/
def UnqR (t : ByteArray) (ok : Bool) (e : Ending) : Prop := ∃ s E, e = .returned (.tuple #[.string t, s, E]) ∧ EmptyS s ∧ ((ok = true ∧ E = .nilIface) ∨ (ok = false ∧ ∃ a, E = .iface 65 (.pointer (some a))))
def UnqIs (l : List UInt8) (star : Bool) (t : ByteArray) (ok : Bool) : Prop := ∀ (g cap : Nat) (W : World), l.length ≤ cap → (∀ j (h : j < l.length), W.cell? ⟨g, j, none⟩ = some (.int .u8 (l[j].toNat : Int))) →
  Calls Tryd.prog 9 #[.slice (some ⟨g, 0, none⟩) l.length cap, .bool star] W fun e w' => UnqR t ok e ∧ Below W.heap.size W w'
theorem unq_err_false (b cap c : Nat) (w : World) (hcap : 2 ≤ cap) (h0 : w.cell? ⟨b, 0, none⟩ = some (.int .u8 92)) (h1 : w.cell? ⟨b, 1, none⟩ = some (.int .u8 c)) (hc : c < 128)
    (n1 : ¬ (c : Int) = 110) (n2 : ¬ (c : Int) = 114) (n3 : ¬ (c : Int) = 116) (n4 : ¬ (c : Int) = 92) (n5 : ¬ (c : Int) = 48) (n6 : ¬ (c : Int) = 39) (n7 : ¬ (c : Int) = 34) (n8 : ¬ (c : Int) = 120) (n9 : ¬ (c : Int) = 117) (n10 : ¬ (c : Int) = 42) :
    Calls Tryd.prog 9 #[.slice (some ⟨b, 0, none⟩) 2 cap, .bool false] w fun e w' => UnqR ⟨#[]⟩ false e ∧ Below w.heap.size w w' := by
  have k0 := cell_later (Below.alloc (Below.refl w.heap.size w) (Nat.le_refl _) (Obj.cells #[Value.pointer none, Value.slice none 0 0] 49)) h0
  have k1 := cell_later (Below.alloc (Below.refl w.heap.size w) (Nat.le_refl _) (Obj.cells #[Value.pointer none, Value.slice none 0 0] 49)) h1
  have c0 := Lib.hid (fun w h => nextOne b 2 cap 0 92 1 w rfl (by omega) (by omega) (by omega) h (by omega))
  have c1 := Lib.hid (fun w h => nextOne b 2 cap 1 c 2 w rfl (by omega) (by omega) (by omega) h (by omega))
  go_enter Tryd.func9, Tryd.ntmps9
  go_wp2
  refine wp_loop_rounds 1 ?_
  rw [rounds_succ]
  go_wp2_with fail
  refine (c0.out _ k0).mono ?_
  rintro e w' ⟨rfl, rfl⟩
  go_wp2_with fail
  refine (c1.out _ k1).mono ?_
  rintro e w' ⟨rfl, rfl⟩
  go_wp2_with fail
  refine (errNew _ _).mono ?_
  rintro e w' ⟨⟨a, rfl⟩, hb⟩
  go_wp2_with fail
  refine bodyPost_ret (v := .tuple #[.string ⟨#[]⟩, .slice none 0 0, .iface 65 (.pointer (some a))]) (by simp [results, Tryd.results9, go_sem]) rfl ?_
  exact ⟨⟨_, _, rfl, ⟨_, _, rfl⟩, .inr ⟨rfl, a, rfl⟩⟩, (Below.alloc (Below.refl _ _) (Nat.le_refl _) _).trans (hb.mono (by simp))⟩
theorem unq_err_true (b cap c : Nat) (w : World) (hcap : 2 ≤ cap) (h0 : w.cell? ⟨b, 0, none⟩ = some (.int .u8 92)) (h1 : w.cell? ⟨b, 1, none⟩ = some (.int .u8 c)) (hc : c < 128)
    (n1 : ¬ (c : Int) = 110) (n2 : ¬ (c : Int) = 114) (n3 : ¬ (c : Int) = 116) (n4 : ¬ (c : Int) = 92) (n5 : ¬ (c : Int) = 48) (n6 : ¬ (c : Int) = 39) (n7 : ¬ (c : Int) = 34) (n8 : ¬ (c : Int) = 120) (n9 : ¬ (c : Int) = 117) (n10 : ¬ (c : Int) = 42) :
    Calls Tryd.prog 9 #[.slice (some ⟨b, 0, none⟩) 2 cap, .bool true] w fun e w' => UnqR ⟨#[]⟩ false e ∧ Below w.heap.size w w' := by
  have k0 := cell_later (Below.alloc (Below.refl w.heap.size w) (Nat.le_refl _) (Obj.cells #[Value.pointer none, Value.slice none 0 0] 49)) h0
  have k1 := cell_later (Below.alloc (Below.refl w.heap.size w) (Nat.le_refl _) (Obj.cells #[Value.pointer none, Value.slice none 0 0] 49)) h1
  have c0 := Lib.hid (fun w h => nextOne b 2 cap 0 92 1 w rfl (by omega) (by omega) (by omega) h (by omega))
  have c1 := Lib.hid (fun w h => nextOne b 2 cap 1 c 2 w rfl (by omega) (by omega) (by omega) h (by omega))
  go_enter Tryd.func9, Tryd.ntmps9
  go_wp2
  refine wp_loop_rounds 1 ?_
  rw [rounds_succ]
  go_wp2_with fail
  refine (c0.out _ k0).mono ?_
  rintro e w' ⟨rfl, rfl⟩
  go_wp2_with fail
  refine (c1.out _ k1).mono ?_
  rintro e w' ⟨rfl, rfl⟩
  go_wp2_with fail
  refine (errNew _ _).mono ?_
  rintro e w' ⟨⟨a, rfl⟩, hb⟩
  go_wp2_with fail
  refine bodyPost_ret (v := .tuple #[.string ⟨#[]⟩, .slice none 0 0, .iface 65 (.pointer (some a))]) (by simp [results, Tryd.results9, go_sem]) rfl ?_
  exact ⟨⟨_, _, rfl, ⟨_, _, rfl⟩, .inr ⟨rfl, a, rfl⟩⟩, (Below.alloc (Below.refl _ _) (Nat.le_refl _) _).trans (hb.mono (by simp))⟩
theorem bdrew {T e : TypeId} {B b : Nat} {l : List Value} {w : World} (h : Lib.IsBuilderF T e B b l w) : Lib.IsBuilderF T e B b l w.drew := h
theorem builder_new (w : World) : Lib.BuilderAt 49 5 w.heap.size w.heap.size (.pointer none) [] (w.alloc (.cells #[.pointer none, .slice none 0 0] 49)) := by
  refine ⟨Nat.le_refl _, .slice none 0 0, ?_, ⟨rfl, .inl ⟨rfl, rfl⟩⟩, by simp [Value.ownBlock]⟩
  exact heap_alloc_new w _
theorem unq_ok_110_false_two (b : Nat) (w : World) (h0 : w.cell? ⟨b, 0, none⟩ = some (.int .u8 92)) (h1 : w.cell? ⟨b, 1, none⟩ = some (.int .u8 110)) :
    Calls Tryd.prog 9 #[.slice (some ⟨b, 0, none⟩) 2 2, .bool false] w fun e w' => UnqR ⟨#[10]⟩ true e ∧ Below w.heap.size w w' := by
  have k0 := cell_later (Below.alloc (Below.refl w.heap.size w) (Nat.le_refl _) (Obj.cells #[Value.pointer none, Value.slice none 0 0] 49)) h0
  have k1 := cell_later (Below.alloc (Below.refl w.heap.size w) (Nat.le_refl _) (Obj.cells #[Value.pointer none, Value.slice none 0 0] 49)) h1
  have c0 := Lib.hid (fun w h => nextOne b 2 2 0 92 1 w rfl (by omega) (by omega) (by omega) h (by omega))
  have c1 := Lib.hid (fun w h => nextOne b 2 2 1 110 2 w rfl (by omega) (by omega) (by omega) h (by omega))
  have c2 := Lib.hid (wFirst w.heap.size 10 (by omega) (by omega) _ (builder_new w) (by simp))
  go_enter Tryd.func9, Tryd.ntmps9
  go_wp2
  refine wp_loop_rounds 2 ?_
  rw [rounds_succ]
  go_wp2_with fail
  refine (c0.out _ k0).mono ?_
  rintro e w' ⟨rfl, rfl⟩
  go_wp2_with fail
  refine (c1.out _ k1).mono ?_
  rintro e w' ⟨rfl, rfl⟩
  go_wp2_with fail
  refine c2.out.mono ?_
  rintro e wx ⟨⟨v, rfl⟩, hbd, hbl⟩
  have HB := Lib.hid (show Lib.IsBuilderF 49 5 _ _ (Lib.byteCells [10]) _ from hbd)
  have HL := Lib.hid hbl
  clear hbd hbl
  go_wp2_with fail
  rw [rounds_succ]
  go_wp2_with fail
  have hz : w.heap.size ≤ wx.heap.size := Nat.le_of_lt (Nat.lt_of_lt_of_le (Nat.lt_succ_self _) (by have := HL.out.size; simpa using this))
  go_region_with (refine (Tryd.Builder_String_any_k w.heap.size w.heap.size [10] wx.drew (bdrew HB.out) hz).mono ?_; rintro e w'' ⟨rfl, _, hb2, _⟩)
  all_goals (go_wp2_with fail)
  all_goals refine bodyPost_ret (v := .tuple #[.string ⟨#[10]⟩, .slice (some ⟨b, 0, none⟩) 0 0, .nilIface]) (by simp [results, Tryd.results9, go_sem]) rfl ?_
  all_goals exact ⟨⟨_, _, rfl, ⟨_, _, rfl⟩, .inl ⟨rfl, rfl⟩⟩, ((Below.alloc (Below.refl _ _) (Nat.le_refl _) _).trans (HL.out.mono (by simp))).drew.trans hb2⟩
theorem unq_ok_110_false_big (b cap : Nat) (w : World) (hcap : 2 < cap) (h0 : w.cell? ⟨b, 0, none⟩ = some (.int .u8 92)) (h1 : w.cell? ⟨b, 1, none⟩ = some (.int .u8 110)) :
    Calls Tryd.prog 9 #[.slice (some ⟨b, 0, none⟩) 2 cap, .bool false] w fun e w' => UnqR ⟨#[10]⟩ true e ∧ Below w.heap.size w w' := by
  have k0 := cell_later (Below.alloc (Below.refl w.heap.size w) (Nat.le_refl _) (Obj.cells #[Value.pointer none, Value.slice none 0 0] 49)) h0
  have k1 := cell_later (Below.alloc (Below.refl w.heap.size w) (Nat.le_refl _) (Obj.cells #[Value.pointer none, Value.slice none 0 0] 49)) h1
  have c0 := Lib.hid (fun w h => nextOne b 2 cap 0 92 1 w rfl (by omega) (by omega) (by omega) h (by omega))
  have c1 := Lib.hid (fun w h => nextOne b 2 cap 1 110 2 w rfl (by omega) (by omega) (by omega) h (by omega))
  have c2 := Lib.hid (wFirst w.heap.size 10 (by omega) (by omega) _ (builder_new w) (by simp))
  go_enter Tryd.func9, Tryd.ntmps9
  go_wp2
  refine wp_loop_rounds 2 ?_
  rw [rounds_succ]
  go_wp2_with fail
  refine (c0.out _ k0).mono ?_
  rintro e w' ⟨rfl, rfl⟩
  go_wp2_with fail
  refine (c1.out _ k1).mono ?_
  rintro e w' ⟨rfl, rfl⟩
  go_wp2_with fail
  refine c2.out.mono ?_
  rintro e wx ⟨⟨v, rfl⟩, hbd, hbl⟩
  have HB := Lib.hid (show Lib.IsBuilderF 49 5 _ _ (Lib.byteCells [10]) _ from hbd)
  have HL := Lib.hid hbl
  clear hbd hbl
  go_wp2_with fail
  rw [rounds_succ]
  go_wp2_with fail
  have hz : w.heap.size ≤ wx.heap.size := Nat.le_of_lt (Nat.lt_of_lt_of_le (Nat.lt_succ_self _) (by have := HL.out.size; simpa using this))
  have q0 : ¬ (cap = 2) := by omega
  go_region_with (refine (Tryd.Builder_String_any_k w.heap.size w.heap.size [10] wx.drew (bdrew HB.out) hz).mono ?_; rintro e w'' ⟨rfl, _, hb2, _⟩)
  all_goals (go_wp2_with fail)
  all_goals refine bodyPost_ret (v := .tuple #[.string ⟨#[10]⟩, .slice (some ⟨b, 2, none⟩) 0 (cap - 2), .nilIface]) (by simp [results, Tryd.results9, go_sem]) rfl ?_
  all_goals exact ⟨⟨_, _, rfl, ⟨_, _, rfl⟩, .inl ⟨rfl, rfl⟩⟩, ((Below.alloc (Below.refl _ _) (Nat.le_refl _) _).trans (HL.out.mono (by simp))).drew.trans hb2⟩
theorem unq_ok_110_true_two (b : Nat) (w : World) (h0 : w.cell? ⟨b, 0, none⟩ = some (.int .u8 92)) (h1 : w.cell? ⟨b, 1, none⟩ = some (.int .u8 110)) :
    Calls Tryd.prog 9 #[.slice (some ⟨b, 0, none⟩) 2 2, .bool true] w fun e w' => UnqR ⟨#[10]⟩ true e ∧ Below w.heap.size w w' := by
  have k0 := cell_later (Below.alloc (Below.refl w.heap.size w) (Nat.le_refl _) (Obj.cells #[Value.pointer none, Value.slice none 0 0] 49)) h0
  have k1 := cell_later (Below.alloc (Below.refl w.heap.size w) (Nat.le_refl _) (Obj.cells #[Value.pointer none, Value.slice none 0 0] 49)) h1
  have c0 := Lib.hid (fun w h => nextOne b 2 2 0 92 1 w rfl (by omega) (by omega) (by omega) h (by omega))
  have c1 := Lib.hid (fun w h => nextOne b 2 2 1 110 2 w rfl (by omega) (by omega) (by omega) h (by omega))
  have c2 := Lib.hid (wFirst w.heap.size 10 (by omega) (by omega) _ (builder_new w) (by simp))
  go_enter Tryd.func9, Tryd.ntmps9
  go_wp2
  refine wp_loop_rounds 2 ?_
  rw [rounds_succ]
  go_wp2_with fail
  refine (c0.out _ k0).mono ?_
  rintro e w' ⟨rfl, rfl⟩
  go_wp2_with fail
  refine (c1.out _ k1).mono ?_
  rintro e w' ⟨rfl, rfl⟩
  go_wp2_with fail
  refine c2.out.mono ?_
  rintro e wx ⟨⟨v, rfl⟩, hbd, hbl⟩
  have HB := Lib.hid (show Lib.IsBuilderF 49 5 _ _ (Lib.byteCells [10]) _ from hbd)
  have HL := Lib.hid hbl
  clear hbd hbl
  go_wp2_with fail
  rw [rounds_succ]
  go_wp2_with fail
  have hz : w.heap.size ≤ wx.heap.size := Nat.le_of_lt (Nat.lt_of_lt_of_le (Nat.lt_succ_self _) (by have := HL.out.size; simpa using this))
  go_region_with (refine (Tryd.Builder_String_any_k w.heap.size w.heap.size [10] wx.drew (bdrew HB.out) hz).mono ?_; rintro e w'' ⟨rfl, _, hb2, _⟩)
  all_goals (go_wp2_with fail)
  all_goals refine bodyPost_ret (v := .tuple #[.string ⟨#[10]⟩, .slice (some ⟨b, 0, none⟩) 0 0, .nilIface]) (by simp [results, Tryd.results9, go_sem]) rfl ?_
  all_goals exact ⟨⟨_, _, rfl, ⟨_, _, rfl⟩, .inl ⟨rfl, rfl⟩⟩, ((Below.alloc (Below.refl _ _) (Nat.le_refl _) _).trans (HL.out.mono (by simp))).drew.trans hb2⟩
theorem unq_ok_110_true_big (b cap : Nat) (w : World) (hcap : 2 < cap) (h0 : w.cell? ⟨b, 0, none⟩ = some (.int .u8 92)) (h1 : w.cell? ⟨b, 1, none⟩ = some (.int .u8 110)) :
    Calls Tryd.prog 9 #[.slice (some ⟨b, 0, none⟩) 2 cap, .bool true] w fun e w' => UnqR ⟨#[10]⟩ true e ∧ Below w.heap.size w w' := by
  have k0 := cell_later (Below.alloc (Below.refl w.heap.size w) (Nat.le_refl _) (Obj.cells #[Value.pointer none, Value.slice none 0 0] 49)) h0
  have k1 := cell_later (Below.alloc (Below.refl w.heap.size w) (Nat.le_refl _) (Obj.cells #[Value.pointer none, Value.slice none 0 0] 49)) h1
  have c0 := Lib.hid (fun w h => nextOne b 2 cap 0 92 1 w rfl (by omega) (by omega) (by omega) h (by omega))
  have c1 := Lib.hid (fun w h => nextOne b 2 cap 1 110 2 w rfl (by omega) (by omega) (by omega) h (by omega))
  have c2 := Lib.hid (wFirst w.heap.size 10 (by omega) (by omega) _ (builder_new w) (by simp))
  go_enter Tryd.func9, Tryd.ntmps9
  go_wp2
  refine wp_loop_rounds 2 ?_
  rw [rounds_succ]
  go_wp2_with fail
  refine (c0.out _ k0).mono ?_
  rintro e w' ⟨rfl, rfl⟩
  go_wp2_with fail
  refine (c1.out _ k1).mono ?_
  rintro e w' ⟨rfl, rfl⟩
  go_wp2_with fail
  refine c2.out.mono ?_
  rintro e wx ⟨⟨v, rfl⟩, hbd, hbl⟩
  have HB := Lib.hid (show Lib.IsBuilderF 49 5 _ _ (Lib.byteCells [10]) _ from hbd)
  have HL := Lib.hid hbl
  clear hbd hbl
  go_wp2_with fail
  rw [rounds_succ]
  go_wp2_with fail
  have hz : w.heap.size ≤ wx.heap.size := Nat.le_of_lt (Nat.lt_of_lt_of_le (Nat.lt_succ_self _) (by have := HL.out.size; simpa using this))
  have q0 : ¬ (cap = 2) := by omega
  go_region_with (refine (Tryd.Builder_String_any_k w.heap.size w.heap.size [10] wx.drew (bdrew HB.out) hz).mono ?_; rintro e w'' ⟨rfl, _, hb2, _⟩)
  all_goals (go_wp2_with fail)
  all_goals refine bodyPost_ret (v := .tuple #[.string ⟨#[10]⟩, .slice (some ⟨b, 2, none⟩) 0 (cap - 2), .nilIface]) (by simp [results, Tryd.results9, go_sem]) rfl ?_
  all_goals exact ⟨⟨_, _, rfl, ⟨_, _, rfl⟩, .inl ⟨rfl, rfl⟩⟩, ((Below.alloc (Below.refl _ _) (Nat.le_refl _) _).trans (HL.out.mono (by simp))).drew.trans hb2⟩
theorem unq_ok_114_false_two (b : Nat) (w : World) (h0 : w.cell? ⟨b, 0, none⟩ = some (.int .u8 92)) (h1 : w.cell? ⟨b, 1, none⟩ = some (.int .u8 114)) :
    Calls Tryd.prog 9 #[.slice (some ⟨b, 0, none⟩) 2 2, .bool false] w fun e w' => UnqR ⟨#[13]⟩ true e ∧ Below w.heap.size w w' := by
  have k0 := cell_later (Below.alloc (Below.refl w.heap.size w) (Nat.le_refl _) (Obj.cells #[Value.pointer none, Value.slice none 0 0] 49)) h0
  have k1 := cell_later (Below.alloc (Below.refl w.heap.size w) (Nat.le_refl _) (Obj.cells #[Value.pointer none, Value.slice none 0 0] 49)) h1
  have c0 := Lib.hid (fun w h => nextOne b 2 2 0 92 1 w rfl (by omega) (by omega) (by omega) h (by omega))
  have c1 := Lib.hid (fun w h => nextOne b 2 2 1 114 2 w rfl (by omega) (by omega) (by omega) h (by omega))
  have c2 := Lib.hid (wFirst w.heap.size 13 (by omega) (by omega) _ (builder_new w) (by simp))
  go_enter Tryd.func9, Tryd.ntmps9
  go_wp2
  refine wp_loop_rounds 2 ?_
  rw [rounds_succ]
  go_wp2_with fail
  refine (c0.out _ k0).mono ?_
  rintro e w' ⟨rfl, rfl⟩
  go_wp2_with fail
  refine (c1.out _ k1).mono ?_
  rintro e w' ⟨rfl, rfl⟩
  go_wp2_with fail
  refine c2.out.mono ?_
  rintro e wx ⟨⟨v, rfl⟩, hbd, hbl⟩
  have HB := Lib.hid (show Lib.IsBuilderF 49 5 _ _ (Lib.byteCells [13]) _ from hbd)
  have HL := Lib.hid hbl
  clear hbd hbl
  go_wp2_with fail
  rw [rounds_succ]
  go_wp2_with fail
  have hz : w.heap.size ≤ wx.heap.size := Nat.le_of_lt (Nat.lt_of_lt_of_le (Nat.lt_succ_self _) (by have := HL.out.size; simpa using this))
  go_region_with (refine (Tryd.Builder_String_any_k w.heap.size w.heap.size [13] wx.drew (bdrew HB.out) hz).mono ?_; rintro e w'' ⟨rfl, _, hb2, _⟩)
  all_goals (go_wp2_with fail)
  all_goals refine bodyPost_ret (v := .tuple #[.string ⟨#[13]⟩, .slice (some ⟨b, 0, none⟩) 0 0, .nilIface]) (by simp [results, Tryd.results9, go_sem]) rfl ?_
  all_goals exact ⟨⟨_, _, rfl, ⟨_, _, rfl⟩, .inl ⟨rfl, rfl⟩⟩, ((Below.alloc (Below.refl _ _) (Nat.le_refl _) _).trans (HL.out.mono (by simp))).drew.trans hb2⟩
theorem unq_ok_114_false_big (b cap : Nat) (w : World) (hcap : 2 < cap) (h0 : w.cell? ⟨b, 0, none⟩ = some (.int .u8 92)) (h1 : w.cell? ⟨b, 1, none⟩ = some (.int .u8 114)) :
    Calls Tryd.prog 9 #[.slice (some ⟨b, 0, none⟩) 2 cap, .bool false] w fun e w' => UnqR ⟨#[13]⟩ true e ∧ Below w.heap.size w w' := by
  have k0 := cell_later (Below.alloc (Below.refl w.heap.size w) (Nat.le_refl _) (Obj.cells #[Value.pointer none, Value.slice none 0 0] 49)) h0
  have k1 := cell_later (Below.alloc (Below.refl w.heap.size w) (Nat.le_refl _) (Obj.cells #[Value.pointer none, Value.slice none 0 0] 49)) h1
  have c0 := Lib.hid (fun w h => nextOne b 2 cap 0 92 1 w rfl (by omega) (by omega) (by omega) h (by omega))
  have c1 := Lib.hid (fun w h => nextOne b 2 cap 1 114 2 w rfl (by omega) (by omega) (by omega) h (by omega))
  have c2 := Lib.hid (wFirst w.heap.size 13 (by omega) (by omega) _ (builder_new w) (by simp))
  go_enter Tryd.func9, Tryd.ntmps9
  go_wp2
  refine wp_loop_rounds 2 ?_
  rw [rounds_succ]
  go_wp2_with fail
  refine (c0.out _ k0).mono ?_
  rintro e w' ⟨rfl, rfl⟩
  go_wp2_with fail
  refine (c1.out _ k1).mono ?_
  rintro e w' ⟨rfl, rfl⟩
  go_wp2_with fail
  refine c2.out.mono ?_
  rintro e wx ⟨⟨v, rfl⟩, hbd, hbl⟩
  have HB := Lib.hid (show Lib.IsBuilderF 49 5 _ _ (Lib.byteCells [13]) _ from hbd)
  have HL := Lib.hid hbl
  clear hbd hbl
  go_wp2_with fail
  rw [rounds_succ]
  go_wp2_with fail
  have hz : w.heap.size ≤ wx.heap.size := Nat.le_of_lt (Nat.lt_of_lt_of_le (Nat.lt_succ_self _) (by have := HL.out.size; simpa using this))
  have q0 : ¬ (cap = 2) := by omega
  go_region_with (refine (Tryd.Builder_String_any_k w.heap.size w.heap.size [13] wx.drew (bdrew HB.out) hz).mono ?_; rintro e w'' ⟨rfl, _, hb2, _⟩)
  all_goals (go_wp2_with fail)
  all_goals refine bodyPost_ret (v := .tuple #[.string ⟨#[13]⟩, .slice (some ⟨b, 2, none⟩) 0 (cap - 2), .nilIface]) (by simp [results, Tryd.results9, go_sem]) rfl ?_
  all_goals exact ⟨⟨_, _, rfl, ⟨_, _, rfl⟩, .inl ⟨rfl, rfl⟩⟩, ((Below.alloc (Below.refl _ _) (Nat.le_refl _) _).trans (HL.out.mono (by simp))).drew.trans hb2⟩
theorem unq_ok_114_true_two (b : Nat) (w : World) (h0 : w.cell? ⟨b, 0, none⟩ = some (.int .u8 92)) (h1 : w.cell? ⟨b, 1, none⟩ = some (.int .u8 114)) :
    Calls Tryd.prog 9 #[.slice (some ⟨b, 0, none⟩) 2 2, .bool true] w fun e w' => UnqR ⟨#[13]⟩ true e ∧ Below w.heap.size w w' := by
  have k0 := cell_later (Below.alloc (Below.refl w.heap.size w) (Nat.le_refl _) (Obj.cells #[Value.pointer none, Value.slice none 0 0] 49)) h0
  have k1 := cell_later (Below.alloc (Below.refl w.heap.size w) (Nat.le_refl _) (Obj.cells #[Value.pointer none, Value.slice none 0 0] 49)) h1
  have c0 := Lib.hid (fun w h => nextOne b 2 2 0 92 1 w rfl (by omega) (by omega) (by omega) h (by omega))
  have c1 := Lib.hid (fun w h => nextOne b 2 2 1 114 2 w rfl (by omega) (by omega) (by omega) h (by omega))
  have c2 := Lib.hid (wFirst w.heap.size 13 (by omega) (by omega) _ (builder_new w) (by simp))
  go_enter Tryd.func9, Tryd.ntmps9
  go_wp2
  refine wp_loop_rounds 2 ?_
  rw [rounds_succ]
  go_wp2_with fail
  refine (c0.out _ k0).mono ?_
  rintro e w' ⟨rfl, rfl⟩
  go_wp2_with fail
  refine (c1.out _ k1).mono ?_
  rintro e w' ⟨rfl, rfl⟩
  go_wp2_with fail
  refine c2.out.mono ?_
  rintro e wx ⟨⟨v, rfl⟩, hbd, hbl⟩
  have HB := Lib.hid (show Lib.IsBuilderF 49 5 _ _ (Lib.byteCells [13]) _ from hbd)
  have HL := Lib.hid hbl
  clear hbd hbl
  go_wp2_with fail
  rw [rounds_succ]
  go_wp2_with fail
  have hz : w.heap.size ≤ wx.heap.size := Nat.le_of_lt (Nat.lt_of_lt_of_le (Nat.lt_succ_self _) (by have := HL.out.size; simpa using this))
  go_region_with (refine (Tryd.Builder_String_any_k w.heap.size w.heap.size [13] wx.drew (bdrew HB.out) hz).mono ?_; rintro e w'' ⟨rfl, _, hb2, _⟩)
  all_goals (go_wp2_with fail)
  all_goals refine bodyPost_ret (v := .tuple #[.string ⟨#[13]⟩, .slice (some ⟨b, 0, none⟩) 0 0, .nilIface]) (by simp [results, Tryd.results9, go_sem]) rfl ?_
  all_goals exact ⟨⟨_, _, rfl, ⟨_, _, rfl⟩, .inl ⟨rfl, rfl⟩⟩, ((Below.alloc (Below.refl _ _) (Nat.le_refl _) _).trans (HL.out.mono (by simp))).drew.trans hb2⟩
theorem unq_ok_114_true_big (b cap : Nat) (w : World) (hcap : 2 < cap) (h0 : w.cell? ⟨b, 0, none⟩ = some (.int .u8 92)) (h1 : w.cell? ⟨b, 1, none⟩ = some (.int .u8 114)) :
    Calls Tryd.prog 9 #[.slice (some ⟨b, 0, none⟩) 2 cap, .bool true] w fun e w' => UnqR ⟨#[13]⟩ true e ∧ Below w.heap.size w w' := by
  have k0 := cell_later (Below.alloc (Below.refl w.heap.size w) (Nat.le_refl _) (Obj.cells #[Value.pointer none, Value.slice none 0 0] 49)) h0
  have k1 := cell_later (Below.alloc (Below.refl w.heap.size w) (Nat.le_refl _) (Obj.cells #[Value.pointer none, Value.slice none 0 0] 49)) h1
  have c0 := Lib.hid (fun w h => nextOne b 2 cap 0 92 1 w rfl (by omega) (by omega) (by omega) h (by omega))
  have c1 := Lib.hid (fun w h => nextOne b 2 cap 1 114 2 w rfl (by omega) (by omega) (by omega) h (by omega))
  have c2 := Lib.hid (wFirst w.heap.size 13 (by omega) (by omega) _ (builder_new w) (by simp))
  go_enter Tryd.func9, Tryd.ntmps9
  go_wp2
  refine wp_loop_rounds 2 ?_
  rw [rounds_succ]
  go_wp2_with fail
  refine (c0.out _ k0).mono ?_
  rintro e w' ⟨rfl, rfl⟩
  go_wp2_with fail
  refine (c1.out _ k1).mono ?_
  rintro e w' ⟨rfl, rfl⟩
  go_wp2_with fail
  refine c2.out.mono ?_
  rintro e wx ⟨⟨v, rfl⟩, hbd, hbl⟩
  have HB := Lib.hid (show Lib.IsBuilderF 49 5 _ _ (Lib.byteCells [13]) _ from hbd)
  have HL := Lib.hid hbl
  clear hbd hbl
  go_wp2_with fail
  rw [rounds_succ]
  go_wp2_with fail
  have hz : w.heap.size ≤ wx.heap.size := Nat.le_of_lt (Nat.lt_of_lt_of_le (Nat.lt_succ_self _) (by have := HL.out.size; simpa using this))
  have q0 : ¬ (cap = 2) := by omega
  go_region_with (refine (Tryd.Builder_String_any_k w.heap.size w.heap.size [13] wx.drew (bdrew HB.out) hz).mono ?_; rintro e w'' ⟨rfl, _, hb2, _⟩)
  all_goals (go_wp2_with fail)
  all_goals refine bodyPost_ret (v := .tuple #[.string ⟨#[13]⟩, .slice (some ⟨b, 2, none⟩) 0 (cap - 2), .nilIface]) (by simp [results, Tryd.results9, go_sem]) rfl ?_
  all_goals exact ⟨⟨_, _, rfl, ⟨_, _, rfl⟩, .inl ⟨rfl, rfl⟩⟩, ((Below.alloc (Below.refl _ _) (Nat.le_refl _) _).trans (HL.out.mono (by simp))).drew.trans hb2⟩
theorem unq_ok_116_false_two (b : Nat) (w : World) (h0 : w.cell? ⟨b, 0, none⟩ = some (.int .u8 92)) (h1 : w.cell? ⟨b, 1, none⟩ = some (.int .u8 116)) :
    Calls Tryd.prog 9 #[.slice (some ⟨b, 0, none⟩) 2 2, .bool false] w fun e w' => UnqR ⟨#[9]⟩ true e ∧ Below w.heap.size w w' := by
  have k0 := cell_later (Below.alloc (Below.refl w.heap.size w) (Nat.le_refl _) (Obj.cells #[Value.pointer none, Value.slice none 0 0] 49)) h0
  have k1 := cell_later (Below.alloc (Below.refl w.heap.size w) (Nat.le_refl _) (Obj.cells #[Value.pointer none, Value.slice none 0 0] 49)) h1
  have c0 := Lib.hid (fun w h => nextOne b 2 2 0 92 1 w rfl (by omega) (by omega) (by omega) h (by omega))
  have c1 := Lib.hid (fun w h => nextOne b 2 2 1 116 2 w rfl (by omega) (by omega) (by omega) h (by omega))
  have c2 := Lib.hid (wFirst w.heap.size 9 (by omega) (by omega) _ (builder_new w) (by simp))
  go_enter Tryd.func9, Tryd.ntmps9
  go_wp2
  refine wp_loop_rounds 2 ?_
  rw [rounds_succ]
  go_wp2_with fail
  refine (c0.out _ k0).mono ?_
  rintro e w' ⟨rfl, rfl⟩
  go_wp2_with fail
  refine (c1.out _ k1).mono ?_
  rintro e w' ⟨rfl, rfl⟩
  go_wp2_with fail
  refine c2.out.mono ?_
  rintro e wx ⟨⟨v, rfl⟩, hbd, hbl⟩
  have HB := Lib.hid (show Lib.IsBuilderF 49 5 _ _ (Lib.byteCells [9]) _ from hbd)
  have HL := Lib.hid hbl
  clear hbd hbl
  go_wp2_with fail
  rw [rounds_succ]
  go_wp2_with fail
  have hz : w.heap.size ≤ wx.heap.size := Nat.le_of_lt (Nat.lt_of_lt_of_le (Nat.lt_succ_self _) (by have := HL.out.size; simpa using this))
  go_region_with (refine (Tryd.Builder_String_any_k w.heap.size w.heap.size [9] wx.drew (bdrew HB.out) hz).mono ?_; rintro e w'' ⟨rfl, _, hb2, _⟩)
  all_goals (go_wp2_with fail)
  all_goals refine bodyPost_ret (v := .tuple #[.string ⟨#[9]⟩, .slice (some ⟨b, 0, none⟩) 0 0, .nilIface]) (by simp [results, Tryd.results9, go_sem]) rfl ?_
  all_goals exact ⟨⟨_, _, rfl, ⟨_, _, rfl⟩, .inl ⟨rfl, rfl⟩⟩, ((Below.alloc (Below.refl _ _) (Nat.le_refl _) _).trans (HL.out.mono (by simp))).drew.trans hb2⟩
theorem unq_ok_116_false_big (b cap : Nat) (w : World) (hcap : 2 < cap) (h0 : w.cell? ⟨b, 0, none⟩ = some (.int .u8 92)) (h1 : w.cell? ⟨b, 1, none⟩ = some (.int .u8 116)) :
    Calls Tryd.prog 9 #[.slice (some ⟨b, 0, none⟩) 2 cap, .bool false] w fun e w' => UnqR ⟨#[9]⟩ true e ∧ Below w.heap.size w w' := by
  have k0 := cell_later (Below.alloc (Below.refl w.heap.size w) (Nat.le_refl _) (Obj.cells #[Value.pointer none, Value.slice none 0 0] 49)) h0
  have k1 := cell_later (Below.alloc (Below.refl w.heap.size w) (Nat.le_refl _) (Obj.cells #[Value.pointer none, Value.slice none 0 0] 49)) h1
  have c0 := Lib.hid (fun w h => nextOne b 2 cap 0 92 1 w rfl (by omega) (by omega) (by omega) h (by omega))
  have c1 := Lib.hid (fun w h => nextOne b 2 cap 1 116 2 w rfl (by omega) (by omega) (by omega) h (by omega))
  have c2 := Lib.hid (wFirst w.heap.size 9 (by omega) (by omega) _ (builder_new w) (by simp))
  go_enter Tryd.func9, Tryd.ntmps9
  go_wp2
  refine wp_loop_rounds 2 ?_
  rw [rounds_succ]
  go_wp2_with fail
  refine (c0.out _ k0).mono ?_
  rintro e w' ⟨rfl, rfl⟩
  go_wp2_with fail
  refine (c1.out _ k1).mono ?_
  rintro e w' ⟨rfl, rfl⟩
  go_wp2_with fail
  refine c2.out.mono ?_
  rintro e wx ⟨⟨v, rfl⟩, hbd, hbl⟩
  have HB := Lib.hid (show Lib.IsBuilderF 49 5 _ _ (Lib.byteCells [9]) _ from hbd)
  have HL := Lib.hid hbl
  clear hbd hbl
  go_wp2_with fail
  rw [rounds_succ]
  go_wp2_with fail
  have hz : w.heap.size ≤ wx.heap.size := Nat.le_of_lt (Nat.lt_of_lt_of_le (Nat.lt_succ_self _) (by have := HL.out.size; simpa using this))
  have q0 : ¬ (cap = 2) := by omega
  go_region_with (refine (Tryd.Builder_String_any_k w.heap.size w.heap.size [9] wx.drew (bdrew HB.out) hz).mono ?_; rintro e w'' ⟨rfl, _, hb2, _⟩)
  all_goals (go_wp2_with fail)
  all_goals refine bodyPost_ret (v := .tuple #[.string ⟨#[9]⟩, .slice (some ⟨b, 2, none⟩) 0 (cap - 2), .nilIface]) (by simp [results, Tryd.results9, go_sem]) rfl ?_
  all_goals exact ⟨⟨_, _, rfl, ⟨_, _, rfl⟩, .inl ⟨rfl, rfl⟩⟩, ((Below.alloc (Below.refl _ _) (Nat.le_refl _) _).trans (HL.out.mono (by simp))).drew.trans hb2⟩
theorem unq_ok_116_true_two (b : Nat) (w : World) (h0 : w.cell? ⟨b, 0, none⟩ = some (.int .u8 92)) (h1 : w.cell? ⟨b, 1, none⟩ = some (.int .u8 116)) :
    Calls Tryd.prog 9 #[.slice (some ⟨b, 0, none⟩) 2 2, .bool true] w fun e w' => UnqR ⟨#[9]⟩ true e ∧ Below w.heap.size w w' := by
  have k0 := cell_later (Below.alloc (Below.refl w.heap.size w) (Nat.le_refl _) (Obj.cells #[Value.pointer none, Value.slice none 0 0] 49)) h0
  have k1 := cell_later (Below.alloc (Below.refl w.heap.size w) (Nat.le_refl _) (Obj.cells #[Value.pointer none, Value.slice none 0 0] 49)) h1
  have c0 := Lib.hid (fun w h => nextOne b 2 2 0 92 1 w rfl (by omega) (by omega) (by omega) h (by omega))
  have c1 := Lib.hid (fun w h => nextOne b 2 2 1 116 2 w rfl (by omega) (by omega) (by omega) h (by omega))
  have c2 := Lib.hid (wFirst w.heap.size 9 (by omega) (by omega) _ (builder_new w) (by simp))
  go_enter Tryd.func9, Tryd.ntmps9
  go_wp2
  refine wp_loop_rounds 2 ?_
  rw [rounds_succ]
  go_wp2_with fail
  refine (c0.out _ k0).mono ?_
  rintro e w' ⟨rfl, rfl⟩
  go_wp2_with fail
  refine (c1.out _ k1).mono ?_
  rintro e w' ⟨rfl, rfl⟩
  go_wp2_with fail
  refine c2.out.mono ?_
  rintro e wx ⟨⟨v, rfl⟩, hbd, hbl⟩
  have HB := Lib.hid (show Lib.IsBuilderF 49 5 _ _ (Lib.byteCells [9]) _ from hbd)
  have HL := Lib.hid hbl
  clear hbd hbl
  go_wp2_with fail
  rw [rounds_succ]
  go_wp2_with fail
  have hz : w.heap.size ≤ wx.heap.size := Nat.le_of_lt (Nat.lt_of_lt_of_le (Nat.lt_succ_self _) (by have := HL.out.size; simpa using this))
  go_region_with (refine (Tryd.Builder_String_any_k w.heap.size w.heap.size [9] wx.drew (bdrew HB.out) hz).mono ?_; rintro e w'' ⟨rfl, _, hb2, _⟩)
  all_goals (go_wp2_with fail)
  all_goals refine bodyPost_ret (v := .tuple #[.string ⟨#[9]⟩, .slice (some ⟨b, 0, none⟩) 0 0, .nilIface]) (by simp [results, Tryd.results9, go_sem]) rfl ?_
  all_goals exact ⟨⟨_, _, rfl, ⟨_, _, rfl⟩, .inl ⟨rfl, rfl⟩⟩, ((Below.alloc (Below.refl _ _) (Nat.le_refl _) _).trans (HL.out.mono (by simp))).drew.trans hb2⟩
theorem unq_ok_116_true_big (b cap : Nat) (w : World) (hcap : 2 < cap) (h0 : w.cell? ⟨b, 0, none⟩ = some (.int .u8 92)) (h1 : w.cell? ⟨b, 1, none⟩ = some (.int .u8 116)) :
    Calls Tryd.prog 9 #[.slice (some ⟨b, 0, none⟩) 2 cap, .bool true] w fun e w' => UnqR ⟨#[9]⟩ true e ∧ Below w.heap.size w w' := by
  have k0 := cell_later (Below.alloc (Below.refl w.heap.size w) (Nat.le_refl _) (Obj.cells #[Value.pointer none, Value.slice none 0 0] 49)) h0
  have k1 := cell_later (Below.alloc (Below.refl w.heap.size w) (Nat.le_refl _) (Obj.cells #[Value.pointer none, Value.slice none 0 0] 49)) h1
  have c0 := Lib.hid (fun w h => nextOne b 2 cap 0 92 1 w rfl (by omega) (by omega) (by omega) h (by omega))
  have c1 := Lib.hid (fun w h => nextOne b 2 cap 1 116 2 w rfl (by omega) (by omega) (by omega) h (by omega))
  have c2 := Lib.hid (wFirst w.heap.size 9 (by omega) (by omega) _ (builder_new w) (by simp))
  go_enter Tryd.func9, Tryd.ntmps9
  go_wp2
  refine wp_loop_rounds 2 ?_
  rw [rounds_succ]
  go_wp2_with fail
  refine (c0.out _ k0).mono ?_
  rintro e w' ⟨rfl, rfl⟩
  go_wp2_with fail
  refine (c1.out _ k1).mono ?_
  rintro e w' ⟨rfl, rfl⟩
  go_wp2_with fail
  refine c2.out.mono ?_
  rintro e wx ⟨⟨v, rfl⟩, hbd, hbl⟩
  have HB := Lib.hid (show Lib.IsBuilderF 49 5 _ _ (Lib.byteCells [9]) _ from hbd)
  have HL := Lib.hid hbl
  clear hbd hbl
  go_wp2_with fail
  rw [rounds_succ]
  go_wp2_with fail
  have hz : w.heap.size ≤ wx.heap.size := Nat.le_of_lt (Nat.lt_of_lt_of_le (Nat.lt_succ_self _) (by have := HL.out.size; simpa using this))
  have q0 : ¬ (cap = 2) := by omega
  go_region_with (refine (Tryd.Builder_String_any_k w.heap.size w.heap.size [9] wx.drew (bdrew HB.out) hz).mono ?_; rintro e w'' ⟨rfl, _, hb2, _⟩)
  all_goals (go_wp2_with fail)
  all_goals refine bodyPost_ret (v := .tuple #[.string ⟨#[9]⟩, .slice (some ⟨b, 2, none⟩) 0 (cap - 2), .nilIface]) (by simp [results, Tryd.results9, go_sem]) rfl ?_
  all_goals exact ⟨⟨_, _, rfl, ⟨_, _, rfl⟩, .inl ⟨rfl, rfl⟩⟩, ((Below.alloc (Below.refl _ _) (Nat.le_refl _) _).trans (HL.out.mono (by simp))).drew.trans hb2⟩
theorem unq_ok_48_false_two (b : Nat) (w : World) (h0 : w.cell? ⟨b, 0, none⟩ = some (.int .u8 92)) (h1 : w.cell? ⟨b, 1, none⟩ = some (.int .u8 48)) :
    Calls Tryd.prog 9 #[.slice (some ⟨b, 0, none⟩) 2 2, .bool false] w fun e w' => UnqR ⟨#[0]⟩ true e ∧ Below w.heap.size w w' := by
  have k0 := cell_later (Below.alloc (Below.refl w.heap.size w) (Nat.le_refl _) (Obj.cells #[Value.pointer none, Value.slice none 0 0] 49)) h0
  have k1 := cell_later (Below.alloc (Below.refl w.heap.size w) (Nat.le_refl _) (Obj.cells #[Value.pointer none, Value.slice none 0 0] 49)) h1
  have c0 := Lib.hid (fun w h => nextOne b 2 2 0 92 1 w rfl (by omega) (by omega) (by omega) h (by omega))
  have c1 := Lib.hid (fun w h => nextOne b 2 2 1 48 2 w rfl (by omega) (by omega) (by omega) h (by omega))
  have c2 := Lib.hid (wFirst w.heap.size 0 (by omega) (by omega) _ (builder_new w) (by simp))
  go_enter Tryd.func9, Tryd.ntmps9
  go_wp2
  refine wp_loop_rounds 2 ?_
  rw [rounds_succ]
  go_wp2_with fail
  refine (c0.out _ k0).mono ?_
  rintro e w' ⟨rfl, rfl⟩
  go_wp2_with fail
  refine (c1.out _ k1).mono ?_
  rintro e w' ⟨rfl, rfl⟩
  go_wp2_with fail
  refine c2.out.mono ?_
  rintro e wx ⟨⟨v, rfl⟩, hbd, hbl⟩
  have HB := Lib.hid (show Lib.IsBuilderF 49 5 _ _ (Lib.byteCells [0]) _ from hbd)
  have HL := Lib.hid hbl
  clear hbd hbl
  go_wp2_with fail
  rw [rounds_succ]
  go_wp2_with fail
  have hz : w.heap.size ≤ wx.heap.size := Nat.le_of_lt (Nat.lt_of_lt_of_le (Nat.lt_succ_self _) (by have := HL.out.size; simpa using this))
  go_region_with (refine (Tryd.Builder_String_any_k w.heap.size w.heap.size [0] wx.drew (bdrew HB.out) hz).mono ?_; rintro e w'' ⟨rfl, _, hb2, _⟩)
  all_goals (go_wp2_with fail)
  all_goals refine bodyPost_ret (v := .tuple #[.string ⟨#[0]⟩, .slice (some ⟨b, 0, none⟩) 0 0, .nilIface]) (by simp [results, Tryd.results9, go_sem]) rfl ?_
  all_goals exact ⟨⟨_, _, rfl, ⟨_, _, rfl⟩, .inl ⟨rfl, rfl⟩⟩, ((Below.alloc (Below.refl _ _) (Nat.le_refl _) _).trans (HL.out.mono (by simp))).drew.trans hb2⟩
theorem unq_ok_48_false_big (b cap : Nat) (w : World) (hcap : 2 < cap) (h0 : w.cell? ⟨b, 0, none⟩ = some (.int .u8 92)) (h1 : w.cell? ⟨b, 1, none⟩ = some (.int .u8 48)) :
    Calls Tryd.prog 9 #[.slice (some ⟨b, 0, none⟩) 2 cap, .bool false] w fun e w' => UnqR ⟨#[0]⟩ true e ∧ Below w.heap.size w w' := by
  have k0 := cell_later (Below.alloc (Below.refl w.heap.size w) (Nat.le_refl _) (Obj.cells #[Value.pointer none, Value.slice none 0 0] 49)) h0
  have k1 := cell_later (Below.alloc (Below.refl w.heap.size w) (Nat.le_refl _) (Obj.cells #[Value.pointer none, Value.slice none 0 0] 49)) h1
  have c0 := Lib.hid (fun w h => nextOne b 2 cap 0 92 1 w rfl (by omega) (by omega) (by omega) h (by omega))
  have c1 := Lib.hid (fun w h => nextOne b 2 cap 1 48 2 w rfl (by omega) (by omega) (by omega) h (by omega))
  have c2 := Lib.hid (wFirst w.heap.size 0 (by omega) (by omega) _ (builder_new w) (by simp))
  go_enter Tryd.func9, Tryd.ntmps9
  go_wp2
  refine wp_loop_rounds 2 ?_
  rw [rounds_succ]
  go_wp2_with fail
  refine (c0.out _ k0).mono ?_
  rintro e w' ⟨rfl, rfl⟩
  go_wp2_with fail
  refine (c1.out _ k1).mono ?_
  rintro e w' ⟨rfl, rfl⟩
  go_wp2_with fail
  refine c2.out.mono ?_
  rintro e wx ⟨⟨v, rfl⟩, hbd, hbl⟩
  have HB := Lib.hid (show Lib.IsBuilderF 49 5 _ _ (Lib.byteCells [0]) _ from hbd)
  have HL := Lib.hid hbl
  clear hbd hbl
  go_wp2_with fail
  rw [rounds_succ]
  go_wp2_with fail
  have hz : w.heap.size ≤ wx.heap.size := Nat.le_of_lt (Nat.lt_of_lt_of_le (Nat.lt_succ_self _) (by have := HL.out.size; simpa using this))
  have q0 : ¬ (cap = 2) := by omega
  go_region_with (refine (Tryd.Builder_String_any_k w.heap.size w.heap.size [0] wx.drew (bdrew HB.out) hz).mono ?_; rintro e w'' ⟨rfl, _, hb2, _⟩)
  all_goals (go_wp2_with fail)
  all_goals refine bodyPost_ret (v := .tuple #[.string ⟨#[0]⟩, .slice (some ⟨b, 2, none⟩) 0 (cap - 2), .nilIface]) (by simp [results, Tryd.results9, go_sem]) rfl ?_
  all_goals exact ⟨⟨_, _, rfl, ⟨_, _, rfl⟩, .inl ⟨rfl, rfl⟩⟩, ((Below.alloc (Below.refl _ _) (Nat.le_refl _) _).trans (HL.out.mono (by simp))).drew.trans hb2⟩
theorem unq_ok_48_true_two (b : Nat) (w : World) (h0 : w.cell? ⟨b, 0, none⟩ = some (.int .u8 92)) (h1 : w.cell? ⟨b, 1, none⟩ = some (.int .u8 48)) :
    Calls Tryd.prog 9 #[.slice (some ⟨b, 0, none⟩) 2 2, .bool true] w fun e w' => UnqR ⟨#[0]⟩ true e ∧ Below w.heap.size w w' := by
  have k0 := cell_later (Below.alloc (Below.refl w.heap.size w) (Nat.le_refl _) (Obj.cells #[Value.pointer none, Value.slice none 0 0] 49)) h0
  have k1 := cell_later (Below.alloc (Below.refl w.heap.size w) (Nat.le_refl _) (Obj.cells #[Value.pointer none, Value.slice none 0 0] 49)) h1
  have c0 := Lib.hid (fun w h => nextOne b 2 2 0 92 1 w rfl (by omega) (by omega) (by omega) h (by omega))
  have c1 := Lib.hid (fun w h => nextOne b 2 2 1 48 2 w rfl (by omega) (by omega) (by omega) h (by omega))
  have c2 := Lib.hid (wFirst w.heap.size 0 (by omega) (by omega) _ (builder_new w) (by simp))
  go_enter Tryd.func9, Tryd.ntmps9
  go_wp2
  refine wp_loop_rounds 2 ?_
  rw [rounds_succ]
  go_wp2_with fail
  refine (c0.out _ k0).mono ?_
  rintro e w' ⟨rfl, rfl⟩
  go_wp2_with fail
  refine (c1.out _ k1).mono ?_
  rintro e w' ⟨rfl, rfl⟩
  go_wp2_with fail
  refine c2.out.mono ?_
  rintro e wx ⟨⟨v, rfl⟩, hbd, hbl⟩
  have HB := Lib.hid (show Lib.IsBuilderF 49 5 _ _ (Lib.byteCells [0]) _ from hbd)
  have HL := Lib.hid hbl
  clear hbd hbl
  go_wp2_with fail
  rw [rounds_succ]
  go_wp2_with fail
  have hz : w.heap.size ≤ wx.heap.size := Nat.le_of_lt (Nat.lt_of_lt_of_le (Nat.lt_succ_self _) (by have := HL.out.size; simpa using this))
  go_region_with (refine (Tryd.Builder_String_any_k w.heap.size w.heap.size [0] wx.drew (bdrew HB.out) hz).mono ?_; rintro e w'' ⟨rfl, _, hb2, _⟩)
  all_goals (go_wp2_with fail)
  all_goals refine bodyPost_ret (v := .tuple #[.string ⟨#[0]⟩, .slice (some ⟨b, 0, none⟩) 0 0, .nilIface]) (by simp [results, Tryd.results9, go_sem]) rfl ?_
  all_goals exact ⟨⟨_, _, rfl, ⟨_, _, rfl⟩, .inl ⟨rfl, rfl⟩⟩, ((Below.alloc (Below.refl _ _) (Nat.le_refl _) _).trans (HL.out.mono (by simp))).drew.trans hb2⟩
theorem unq_ok_48_true_big (b cap : Nat) (w : World) (hcap : 2 < cap) (h0 : w.cell? ⟨b, 0, none⟩ = some (.int .u8 92)) (h1 : w.cell? ⟨b, 1, none⟩ = some (.int .u8 48)) :
    Calls Tryd.prog 9 #[.slice (some ⟨b, 0, none⟩) 2 cap, .bool true] w fun e w' => UnqR ⟨#[0]⟩ true e ∧ Below w.heap.size w w' := by
  have k0 := cell_later (Below.alloc (Below.refl w.heap.size w) (Nat.le_refl _) (Obj.cells #[Value.pointer none, Value.slice none 0 0] 49)) h0
  have k1 := cell_later (Below.alloc (Below.refl w.heap.size w) (Nat.le_refl _) (Obj.cells #[Value.pointer none, Value.slice none 0 0] 49)) h1
  have c0 := Lib.hid (fun w h => nextOne b 2 cap 0 92 1 w rfl (by omega) (by omega) (by omega) h (by omega))
  have c1 := Lib.hid (fun w h => nextOne b 2 cap 1 48 2 w rfl (by omega) (by omega) (by omega) h (by omega))
  have c2 := Lib.hid (wFirst w.heap.size 0 (by omega) (by omega) _ (builder_new w) (by simp))
  go_enter Tryd.func9, Tryd.ntmps9
  go_wp2
  refine wp_loop_rounds 2 ?_
  rw [rounds_succ]
  go_wp2_with fail
  refine (c0.out _ k0).mono ?_
  rintro e w' ⟨rfl, rfl⟩
  go_wp2_with fail
  refine (c1.out _ k1).mono ?_
  rintro e w' ⟨rfl, rfl⟩
  go_wp2_with fail
  refine c2.out.mono ?_
  rintro e wx ⟨⟨v, rfl⟩, hbd, hbl⟩
  have HB := Lib.hid (show Lib.IsBuilderF 49 5 _ _ (Lib.byteCells [0]) _ from hbd)
  have HL := Lib.hid hbl
  clear hbd hbl
  go_wp2_with fail
  rw [rounds_succ]
  go_wp2_with fail
  have hz : w.heap.size ≤ wx.heap.size := Nat.le_of_lt (Nat.lt_of_lt_of_le (Nat.lt_succ_self _) (by have := HL.out.size; simpa using this))
  have q0 : ¬ (cap = 2) := by omega
  go_region_with (refine (Tryd.Builder_String_any_k w.heap.size w.heap.size [0] wx.drew (bdrew HB.out) hz).mono ?_; rintro e w'' ⟨rfl, _, hb2, _⟩)
  all_goals (go_wp2_with fail)
  all_goals refine bodyPost_ret (v := .tuple #[.string ⟨#[0]⟩, .slice (some ⟨b, 2, none⟩) 0 (cap - 2), .nilIface]) (by simp [results, Tryd.results9, go_sem]) rfl ?_
  all_goals exact ⟨⟨_, _, rfl, ⟨_, _, rfl⟩, .inl ⟨rfl, rfl⟩⟩, ((Below.alloc (Below.refl _ _) (Nat.le_refl _) _).trans (HL.out.mono (by simp))).drew.trans hb2⟩
theorem unq_ok_92_false_two (b : Nat) (w : World) (h0 : w.cell? ⟨b, 0, none⟩ = some (.int .u8 92)) (h1 : w.cell? ⟨b, 1, none⟩ = some (.int .u8 92)) :
    Calls Tryd.prog 9 #[.slice (some ⟨b, 0, none⟩) 2 2, .bool false] w fun e w' => UnqR ⟨#[92]⟩ true e ∧ Below w.heap.size w w' := by
  have k0 := cell_later (Below.alloc (Below.refl w.heap.size w) (Nat.le_refl _) (Obj.cells #[Value.pointer none, Value.slice none 0 0] 49)) h0
  have k1 := cell_later (Below.alloc (Below.refl w.heap.size w) (Nat.le_refl _) (Obj.cells #[Value.pointer none, Value.slice none 0 0] 49)) h1
  have c0 := Lib.hid (fun w h => nextOne b 2 2 0 92 1 w rfl (by omega) (by omega) (by omega) h (by omega))
  have c1 := Lib.hid (fun w h => nextOne b 2 2 1 92 2 w rfl (by omega) (by omega) (by omega) h (by omega))
  have c2 := Lib.hid (wFirst w.heap.size 92 (by omega) (by omega) _ (builder_new w) (by simp))
  go_enter Tryd.func9, Tryd.ntmps9
  go_wp2
  refine wp_loop_rounds 2 ?_
  rw [rounds_succ]
  go_wp2_with fail
  refine (c0.out _ k0).mono ?_
  rintro e w' ⟨rfl, rfl⟩
  go_wp2_with fail
  refine (c1.out _ k1).mono ?_
  rintro e w' ⟨rfl, rfl⟩
  go_wp2_with fail
  refine c2.out.mono ?_
  rintro e wx ⟨⟨v, rfl⟩, hbd, hbl⟩
  have HB := Lib.hid (show Lib.IsBuilderF 49 5 _ _ (Lib.byteCells [92]) _ from hbd)
  have HL := Lib.hid hbl
  clear hbd hbl
  go_wp2_with fail
  rw [rounds_succ]
  go_wp2_with fail
  have hz : w.heap.size ≤ wx.heap.size := Nat.le_of_lt (Nat.lt_of_lt_of_le (Nat.lt_succ_self _) (by have := HL.out.size; simpa using this))
  go_region_with (refine (Tryd.Builder_String_any_k w.heap.size w.heap.size [92] wx.drew (bdrew HB.out) hz).mono ?_; rintro e w'' ⟨rfl, _, hb2, _⟩)
  all_goals (go_wp2_with fail)
  all_goals refine bodyPost_ret (v := .tuple #[.string ⟨#[92]⟩, .slice (some ⟨b, 0, none⟩) 0 0, .nilIface]) (by simp [results, Tryd.results9, go_sem]) rfl ?_
  all_goals exact ⟨⟨_, _, rfl, ⟨_, _, rfl⟩, .inl ⟨rfl, rfl⟩⟩, ((Below.alloc (Below.refl _ _) (Nat.le_refl _) _).trans (HL.out.mono (by simp))).drew.trans hb2⟩
theorem unq_ok_92_false_big (b cap : Nat) (w : World) (hcap : 2 < cap) (h0 : w.cell? ⟨b, 0, none⟩ = some (.int .u8 92)) (h1 : w.cell? ⟨b, 1, none⟩ = some (.int .u8 92)) :
    Calls Tryd.prog 9 #[.slice (some ⟨b, 0, none⟩) 2 cap, .bool false] w fun e w' => UnqR ⟨#[92]⟩ true e ∧ Below w.heap.size w w' := by
  have k0 := cell_later (Below.alloc (Below.refl w.heap.size w) (Nat.le_refl _) (Obj.cells #[Value.pointer none, Value.slice none 0 0] 49)) h0
  have k1 := cell_later (Below.alloc (Below.refl w.heap.size w) (Nat.le_refl _) (Obj.cells #[Value.pointer none, Value.slice none 0 0] 49)) h1
  have c0 := Lib.hid (fun w h => nextOne b 2 cap 0 92 1 w rfl (by omega) (by omega) (by omega) h (by omega))
  have c1 := Lib.hid (fun w h => nextOne b 2 cap 1 92 2 w rfl (by omega) (by omega) (by omega) h (by omega))
  have c2 := Lib.hid (wFirst w.heap.size 92 (by omega) (by omega) _ (builder_new w) (by simp))
  go_enter Tryd.func9, Tryd.ntmps9
  go_wp2
  refine wp_loop_rounds 2 ?_
  rw [rounds_succ]
  go_wp2_with fail
  refine (c0.out _ k0).mono ?_
  rintro e w' ⟨rfl, rfl⟩
  go_wp2_with fail
  refine (c1.out _ k1).mono ?_
  rintro e w' ⟨rfl, rfl⟩
  go_wp2_with fail
  refine c2.out.mono ?_
  rintro e wx ⟨⟨v, rfl⟩, hbd, hbl⟩
  have HB := Lib.hid (show Lib.IsBuilderF 49 5 _ _ (Lib.byteCells [92]) _ from hbd)
  have HL := Lib.hid hbl
  clear hbd hbl
  go_wp2_with fail
  rw [rounds_succ]
  go_wp2_with fail
  have hz : w.heap.size ≤ wx.heap.size := Nat.le_of_lt (Nat.lt_of_lt_of_le (Nat.lt_succ_self _) (by have := HL.out.size; simpa using this))
  have q0 : ¬ (cap = 2) := by omega
  go_region_with (refine (Tryd.Builder_String_any_k w.heap.size w.heap.size [92] wx.drew (bdrew HB.out) hz).mono ?_; rintro e w'' ⟨rfl, _, hb2, _⟩)
  all_goals (go_wp2_with fail)
  all_goals refine bodyPost_ret (v := .tuple #[.string ⟨#[92]⟩, .slice (some ⟨b, 2, none⟩) 0 (cap - 2), .nilIface]) (by simp [results, Tryd.results9, go_sem]) rfl ?_
  all_goals exact ⟨⟨_, _, rfl, ⟨_, _, rfl⟩, .inl ⟨rfl, rfl⟩⟩, ((Below.alloc (Below.refl _ _) (Nat.le_refl _) _).trans (HL.out.mono (by simp))).drew.trans hb2⟩
theorem unq_ok_92_true_two (b : Nat) (w : World) (h0 : w.cell? ⟨b, 0, none⟩ = some (.int .u8 92)) (h1 : w.cell? ⟨b, 1, none⟩ = some (.int .u8 92)) :
    Calls Tryd.prog 9 #[.slice (some ⟨b, 0, none⟩) 2 2, .bool true] w fun e w' => UnqR ⟨#[92]⟩ true e ∧ Below w.heap.size w w' := by
  have k0 := cell_later (Below.alloc (Below.refl w.heap.size w) (Nat.le_refl _) (Obj.cells #[Value.pointer none, Value.slice none 0 0] 49)) h0
  have k1 := cell_later (Below.alloc (Below.refl w.heap.size w) (Nat.le_refl _) (Obj.cells #[Value.pointer none, Value.slice none 0 0] 49)) h1
  have c0 := Lib.hid (fun w h => nextOne b 2 2 0 92 1 w rfl (by omega) (by omega) (by omega) h (by omega))
  have c1 := Lib.hid (fun w h => nextOne b 2 2 1 92 2 w rfl (by omega) (by omega) (by omega) h (by omega))
  have c2 := Lib.hid (wFirst w.heap.size 92 (by omega) (by omega) _ (builder_new w) (by simp))
  go_enter Tryd.func9, Tryd.ntmps9
  go_wp2
  refine wp_loop_rounds 2 ?_
  rw [rounds_succ]
  go_wp2_with fail
  refine (c0.out _ k0).mono ?_
  rintro e w' ⟨rfl, rfl⟩
  go_wp2_with fail
  refine (c1.out _ k1).mono ?_
  rintro e w' ⟨rfl, rfl⟩
  go_wp2_with fail
  refine c2.out.mono ?_
  rintro e wx ⟨⟨v, rfl⟩, hbd, hbl⟩
  have HB := Lib.hid (show Lib.IsBuilderF 49 5 _ _ (Lib.byteCells [92]) _ from hbd)
  have HL := Lib.hid hbl
  clear hbd hbl
  go_wp2_with fail
  rw [rounds_succ]
  go_wp2_with fail
  have hz : w.heap.size ≤ wx.heap.size := Nat.le_of_lt (Nat.lt_of_lt_of_le (Nat.lt_succ_self _) (by have := HL.out.size; simpa using this))
  go_region_with (refine (Tryd.Builder_String_any_k w.heap.size w.heap.size [92] wx.drew (bdrew HB.out) hz).mono ?_; rintro e w'' ⟨rfl, _, hb2, _⟩)
  all_goals (go_wp2_with fail)
  all_goals refine bodyPost_ret (v := .tuple #[.string ⟨#[92]⟩, .slice (some ⟨b, 0, none⟩) 0 0, .nilIface]) (by simp [results, Tryd.results9, go_sem]) rfl ?_
  all_goals exact ⟨⟨_, _, rfl, ⟨_, _, rfl⟩, .inl ⟨rfl, rfl⟩⟩, ((Below.alloc (Below.refl _ _) (Nat.le_refl _) _).trans (HL.out.mono (by simp))).drew.trans hb2⟩
theorem unq_ok_92_true_big (b cap : Nat) (w : World) (hcap : 2 < cap) (h0 : w.cell? ⟨b, 0, none⟩ = some (.int .u8 92)) (h1 : w.cell? ⟨b, 1, none⟩ = some (.int .u8 92)) :
    Calls Tryd.prog 9 #[.slice (some ⟨b, 0, none⟩) 2 cap, .bool true] w fun e w' => UnqR ⟨#[92]⟩ true e ∧ Below w.heap.size w w' := by
  have k0 := cell_later (Below.alloc (Below.refl w.heap.size w) (Nat.le_refl _) (Obj.cells #[Value.pointer none, Value.slice none 0 0] 49)) h0
  have k1 := cell_later (Below.alloc (Below.refl w.heap.size w) (Nat.le_refl _) (Obj.cells #[Value.pointer none, Value.slice none 0 0] 49)) h1
  have c0 := Lib.hid (fun w h => nextOne b 2 cap 0 92 1 w rfl (by omega) (by omega) (by omega) h (by omega))
  have c1 := Lib.hid (fun w h => nextOne b 2 cap 1 92 2 w rfl (by omega) (by omega) (by omega) h (by omega))
  have c2 := Lib.hid (wFirst w.heap.size 92 (by omega) (by omega) _ (builder_new w) (by simp))
  go_enter Tryd.func9, Tryd.ntmps9
  go_wp2
  refine wp_loop_rounds 2 ?_
  rw [rounds_succ]
  go_wp2_with fail
  refine (c0.out _ k0).mono ?_
  rintro e w' ⟨rfl, rfl⟩
  go_wp2_with fail
  refine (c1.out _ k1).mono ?_
  rintro e w' ⟨rfl, rfl⟩
  go_wp2_with fail
  refine c2.out.mono ?_
  rintro e wx ⟨⟨v, rfl⟩, hbd, hbl⟩
  have HB := Lib.hid (show Lib.IsBuilderF 49 5 _ _ (Lib.byteCells [92]) _ from hbd)
  have HL := Lib.hid hbl
  clear hbd hbl
  go_wp2_with fail
  rw [rounds_succ]
  go_wp2_with fail
  have hz : w.heap.size ≤ wx.heap.size := Nat.le_of_lt (Nat.lt_of_lt_of_le (Nat.lt_succ_self _) (by have := HL.out.size; simpa using this))
  have q0 : ¬ (cap = 2) := by omega
  go_region_with (refine (Tryd.Builder_String_any_k w.heap.size w.heap.size [92] wx.drew (bdrew HB.out) hz).mono ?_; rintro e w'' ⟨rfl, _, hb2, _⟩)
  all_goals (go_wp2_with fail)
  all_goals refine bodyPost_ret (v := .tuple #[.string ⟨#[92]⟩, .slice (some ⟨b, 2, none⟩) 0 (cap - 2), .nilIface]) (by simp [results, Tryd.results9, go_sem]) rfl ?_
  all_goals exact ⟨⟨_, _, rfl, ⟨_, _, rfl⟩, .inl ⟨rfl, rfl⟩⟩, ((Below.alloc (Below.refl _ _) (Nat.le_refl _) _).trans (HL.out.mono (by simp))).drew.trans hb2⟩
theorem unq_ok_39_false_two (b : Nat) (w : World) (h0 : w.cell? ⟨b, 0, none⟩ = some (.int .u8 92)) (h1 : w.cell? ⟨b, 1, none⟩ = some (.int .u8 39)) :
    Calls Tryd.prog 9 #[.slice (some ⟨b, 0, none⟩) 2 2, .bool false] w fun e w' => UnqR ⟨#[39]⟩ true e ∧ Below w.heap.size w w' := by
  have k0 := cell_later (Below.alloc (Below.refl w.heap.size w) (Nat.le_refl _) (Obj.cells #[Value.pointer none, Value.slice none 0 0] 49)) h0
  have k1 := cell_later (Below.alloc (Below.refl w.heap.size w) (Nat.le_refl _) (Obj.cells #[Value.pointer none, Value.slice none 0 0] 49)) h1
  have c0 := Lib.hid (fun w h => nextOne b 2 2 0 92 1 w rfl (by omega) (by omega) (by omega) h (by omega))
  have c1 := Lib.hid (fun w h => nextOne b 2 2 1 39 2 w rfl (by omega) (by omega) (by omega) h (by omega))
  have c2 := Lib.hid (wFirst w.heap.size 39 (by omega) (by omega) _ (builder_new w) (by simp))
  go_enter Tryd.func9, Tryd.ntmps9
  go_wp2
  refine wp_loop_rounds 2 ?_
  rw [rounds_succ]
  go_wp2_with fail
  refine (c0.out _ k0).mono ?_
  rintro e w' ⟨rfl, rfl⟩
  go_wp2_with fail
  refine (c1.out _ k1).mono ?_
  rintro e w' ⟨rfl, rfl⟩
  go_wp2_with fail
  refine c2.out.mono ?_
  rintro e wx ⟨⟨v, rfl⟩, hbd, hbl⟩
  have HB := Lib.hid (show Lib.IsBuilderF 49 5 _ _ (Lib.byteCells [39]) _ from hbd)
  have HL := Lib.hid hbl
  clear hbd hbl
  go_wp2_with fail
  rw [rounds_succ]
  go_wp2_with fail
  have hz : w.heap.size ≤ wx.heap.size := Nat.le_of_lt (Nat.lt_of_lt_of_le (Nat.lt_succ_self _) (by have := HL.out.size; simpa using this))
  go_region_with (refine (Tryd.Builder_String_any_k w.heap.size w.heap.size [39] wx.drew (bdrew HB.out) hz).mono ?_; rintro e w'' ⟨rfl, _, hb2, _⟩)
  all_goals (go_wp2_with fail)
  all_goals refine bodyPost_ret (v := .tuple #[.string ⟨#[39]⟩, .slice (some ⟨b, 0, none⟩) 0 0, .nilIface]) (by simp [results, Tryd.results9, go_sem]) rfl ?_
  all_goals exact ⟨⟨_, _, rfl, ⟨_, _, rfl⟩, .inl ⟨rfl, rfl⟩⟩, ((Below.alloc (Below.refl _ _) (Nat.le_refl _) _).trans (HL.out.mono (by simp))).drew.trans hb2⟩
theorem unq_ok_39_false_big (b cap : Nat) (w : World) (hcap : 2 < cap) (h0 : w.cell? ⟨b, 0, none⟩ = some (.int .u8 92)) (h1 : w.cell? ⟨b, 1, none⟩ = some (.int .u8 39)) :
    Calls Tryd.prog 9 #[.slice (some ⟨b, 0, none⟩) 2 cap, .bool false] w fun e w' => UnqR ⟨#[39]⟩ true e ∧ Below w.heap.size w w' := by
  have k0 := cell_later (Below.alloc (Below.refl w.heap.size w) (Nat.le_refl _) (Obj.cells #[Value.pointer none, Value.slice none 0 0] 49)) h0
  have k1 := cell_later (Below.alloc (Below.refl w.heap.size w) (Nat.le_refl _) (Obj.cells #[Value.pointer none, Value.slice none 0 0] 49)) h1
  have c0 := Lib.hid (fun w h => nextOne b 2 cap 0 92 1 w rfl (by omega) (by omega) (by omega) h (by omega))
  have c1 := Lib.hid (fun w h => nextOne b 2 cap 1 39 2 w rfl (by omega) (by omega) (by omega) h (by omega))
  have c2 := Lib.hid (wFirst w.heap.size 39 (by omega) (by omega) _ (builder_new w) (by simp))
  go_enter Tryd.func9, Tryd.ntmps9
  go_wp2
  refine wp_loop_rounds 2 ?_
  rw [rounds_succ]
  go_wp2_with fail
  refine (c0.out _ k0).mono ?_
  rintro e w' ⟨rfl, rfl⟩
  go_wp2_with fail
  refine (c1.out _ k1).mono ?_
  rintro e w' ⟨rfl, rfl⟩
  go_wp2_with fail
  refine c2.out.mono ?_
  rintro e wx ⟨⟨v, rfl⟩, hbd, hbl⟩
  have HB := Lib.hid (show Lib.IsBuilderF 49 5 _ _ (Lib.byteCells [39]) _ from hbd)
  have HL := Lib.hid hbl
  clear hbd hbl
  go_wp2_with fail
  rw [rounds_succ]
  go_wp2_with fail
  have hz : w.heap.size ≤ wx.heap.size := Nat.le_of_lt (Nat.lt_of_lt_of_le (Nat.lt_succ_self _) (by have := HL.out.size; simpa using this))
  have q0 : ¬ (cap = 2) := by omega
  go_region_with (refine (Tryd.Builder_String_any_k w.heap.size w.heap.size [39] wx.drew (bdrew HB.out) hz).mono ?_; rintro e w'' ⟨rfl, _, hb2, _⟩)
  all_goals (go_wp2_with fail)
  all_goals refine bodyPost_ret (v := .tuple #[.string ⟨#[39]⟩, .slice (some ⟨b, 2, none⟩) 0 (cap - 2), .nilIface]) (by simp [results, Tryd.results9, go_sem]) rfl ?_
  all_goals exact ⟨⟨_, _, rfl, ⟨_, _, rfl⟩, .inl ⟨rfl, rfl⟩⟩, ((Below.alloc (Below.refl _ _) (Nat.le_refl _) _).trans (HL.out.mono (by simp))).drew.trans hb2⟩
theorem unq_ok_39_true_two (b : Nat) (w : World) (h0 : w.cell? ⟨b, 0, none⟩ = some (.int .u8 92)) (h1 : w.cell? ⟨b, 1, none⟩ = some (.int .u8 39)) :
    Calls Tryd.prog 9 #[.slice (some ⟨b, 0, none⟩) 2 2, .bool true] w fun e w' => UnqR ⟨#[39]⟩ true e ∧ Below w.heap.size w w' := by
  have k0 := cell_later (Below.alloc (Below.refl w.heap.size w) (Nat.le_refl _) (Obj.cells #[Value.pointer none, Value.slice none 0 0] 49)) h0
  have k1 := cell_later (Below.alloc (Below.refl w.heap.size w) (Nat.le_refl _) (Obj.cells #[Value.pointer none, Value.slice none 0 0] 49)) h1
  have c0 := Lib.hid (fun w h => nextOne b 2 2 0 92 1 w rfl (by omega) (by omega) (by omega) h (by omega))
  have c1 := Lib.hid (fun w h => nextOne b 2 2 1 39 2 w rfl (by omega) (by omega) (by omega) h (by omega))
  have c2 := Lib.hid (wFirst w.heap.size 39 (by omega) (by omega) _ (builder_new w) (by simp))
  go_enter Tryd.func9, Tryd.ntmps9
  go_wp2
  refine wp_loop_rounds 2 ?_
  rw [rounds_succ]
  go_wp2_with fail
  refine (c0.out _ k0).mono ?_
  rintro e w' ⟨rfl, rfl⟩
  go_wp2_with fail
  refine (c1.out _ k1).mono ?_
  rintro e w' ⟨rfl, rfl⟩
  go_wp2_with fail
  refine c2.out.mono ?_
  rintro e wx ⟨⟨v, rfl⟩, hbd, hbl⟩
  have HB := Lib.hid (show Lib.IsBuilderF 49 5 _ _ (Lib.byteCells [39]) _ from hbd)
  have HL := Lib.hid hbl
  clear hbd hbl
  go_wp2_with fail
  rw [rounds_succ]
  go_wp2_with fail
  have hz : w.heap.size ≤ wx.heap.size := Nat.le_of_lt (Nat.lt_of_lt_of_le (Nat.lt_succ_self _) (by have := HL.out.size; simpa using this))
  go_region_with (refine (Tryd.Builder_String_any_k w.heap.size w.heap.size [39] wx.drew (bdrew HB.out) hz).mono ?_; rintro e w'' ⟨rfl, _, hb2, _⟩)
  all_goals (go_wp2_with fail)
  all_goals refine bodyPost_ret (v := .tuple #[.string ⟨#[39]⟩, .slice (some ⟨b, 0, none⟩) 0 0, .nilIface]) (by simp [results, Tryd.results9, go_sem]) rfl ?_
  all_goals exact ⟨⟨_, _, rfl, ⟨_, _, rfl⟩, .inl ⟨rfl, rfl⟩⟩, ((Below.alloc (Below.refl _ _) (Nat.le_refl _) _).trans (HL.out.mono (by simp))).drew.trans hb2⟩
theorem unq_ok_39_true_big (b cap : Nat) (w : World) (hcap : 2 < cap) (h0 : w.cell? ⟨b, 0, none⟩ = some (.int .u8 92)) (h1 : w.cell? ⟨b, 1, none⟩ = some (.int .u8 39)) :
    Calls Tryd.prog 9 #[.slice (some ⟨b, 0, none⟩) 2 cap, .bool true] w fun e w' => UnqR ⟨#[39]⟩ true e ∧ Below w.heap.size w w' := by
  have k0 := cell_later (Below.alloc (Below.refl w.heap.size w) (Nat.le_refl _) (Obj.cells #[Value.pointer none, Value.slice none 0 0] 49)) h0
  have k1 := cell_later (Below.alloc (Below.refl w.heap.size w) (Nat.le_refl _) (Obj.cells #[Value.pointer none, Value.slice none 0 0] 49)) h1
  have c0 := Lib.hid (fun w h => nextOne b 2 cap 0 92 1 w rfl (by omega) (by omega) (by omega) h (by omega))
  have c1 := Lib.hid (fun w h => nextOne b 2 cap 1 39 2 w rfl (by omega) (by omega) (by omega) h (by omega))
  have c2 := Lib.hid (wFirst w.heap.size 39 (by omega) (by omega) _ (builder_new w) (by simp))
  go_enter Tryd.func9, Tryd.ntmps9
  go_wp2
  refine wp_loop_rounds 2 ?_
  rw [rounds_succ]
  go_wp2_with fail
  refine (c0.out _ k0).mono ?_
  rintro e w' ⟨rfl, rfl⟩
  go_wp2_with fail
  refine (c1.out _ k1).mono ?_
  rintro e w' ⟨rfl, rfl⟩
  go_wp2_with fail
  refine c2.out.mono ?_
  rintro e wx ⟨⟨v, rfl⟩, hbd, hbl⟩
  have HB := Lib.hid (show Lib.IsBuilderF 49 5 _ _ (Lib.byteCells [39]) _ from hbd)
  have HL := Lib.hid hbl
  clear hbd hbl
  go_wp2_with fail
  rw [rounds_succ]
  go_wp2_with fail
  have hz : w.heap.size ≤ wx.heap.size := Nat.le_of_lt (Nat.lt_of_lt_of_le (Nat.lt_succ_self _) (by have := HL.out.size; simpa using this))
  have q0 : ¬ (cap = 2) := by omega
  go_region_with (refine (Tryd.Builder_String_any_k w.heap.size w.heap.size [39] wx.drew (bdrew HB.out) hz).mono ?_; rintro e w'' ⟨rfl, _, hb2, _⟩)
  all_goals (go_wp2_with fail)
  all_goals refine bodyPost_ret (v := .tuple #[.string ⟨#[39]⟩, .slice (some ⟨b, 2, none⟩) 0 (cap - 2), .nilIface]) (by simp [results, Tryd.results9, go_sem]) rfl ?_
  all_goals exact ⟨⟨_, _, rfl, ⟨_, _, rfl⟩, .inl ⟨rfl, rfl⟩⟩, ((Below.alloc (Below.refl _ _) (Nat.le_refl _) _).trans (HL.out.mono (by simp))).drew.trans hb2⟩
theorem unq_ok_34_false_two (b : Nat) (w : World) (h0 : w.cell? ⟨b, 0, none⟩ = some (.int .u8 92)) (h1 : w.cell? ⟨b, 1, none⟩ = some (.int .u8 34)) :
    Calls Tryd.prog 9 #[.slice (some ⟨b, 0, none⟩) 2 2, .bool false] w fun e w' => UnqR ⟨#[34]⟩ true e ∧ Below w.heap.size w w' := by
  have k0 := cell_later (Below.alloc (Below.refl w.heap.size w) (Nat.le_refl _) (Obj.cells #[Value.pointer none, Value.slice none 0 0] 49)) h0
  have k1 := cell_later (Below.alloc (Below.refl w.heap.size w) (Nat.le_refl _) (Obj.cells #[Value.pointer none, Value.slice none 0 0] 49)) h1
  have c0 := Lib.hid (fun w h => nextOne b 2 2 0 92 1 w rfl (by omega) (by omega) (by omega) h (by omega))
  have c1 := Lib.hid (fun w h => nextOne b 2 2 1 34 2 w rfl (by omega) (by omega) (by omega) h (by omega))
  have c2 := Lib.hid (wFirst w.heap.size 34 (by omega) (by omega) _ (builder_new w) (by simp))
  go_enter Tryd.func9, Tryd.ntmps9
  go_wp2
  refine wp_loop_rounds 2 ?_
  rw [rounds_succ]
  go_wp2_with fail
  refine (c0.out _ k0).mono ?_
  rintro e w' ⟨rfl, rfl⟩
  go_wp2_with fail
  refine (c1.out _ k1).mono ?_
  rintro e w' ⟨rfl, rfl⟩
  go_wp2_with fail
  refine c2.out.mono ?_
  rintro e wx ⟨⟨v, rfl⟩, hbd, hbl⟩
  have HB := Lib.hid (show Lib.IsBuilderF 49 5 _ _ (Lib.byteCells [34]) _ from hbd)
  have HL := Lib.hid hbl
  clear hbd hbl
  go_wp2_with fail
  rw [rounds_succ]
  go_wp2_with fail
  have hz : w.heap.size ≤ wx.heap.size := Nat.le_of_lt (Nat.lt_of_lt_of_le (Nat.lt_succ_self _) (by have := HL.out.size; simpa using this))
  go_region_with (refine (Tryd.Builder_String_any_k w.heap.size w.heap.size [34] wx.drew (bdrew HB.out) hz).mono ?_; rintro e w'' ⟨rfl, _, hb2, _⟩)
  all_goals (go_wp2_with fail)
  all_goals refine bodyPost_ret (v := .tuple #[.string ⟨#[34]⟩, .slice (some ⟨b, 0, none⟩) 0 0, .nilIface]) (by simp [results, Tryd.results9, go_sem]) rfl ?_
  all_goals exact ⟨⟨_, _, rfl, ⟨_, _, rfl⟩, .inl ⟨rfl, rfl⟩⟩, ((Below.alloc (Below.refl _ _) (Nat.le_refl _) _).trans (HL.out.mono (by simp))).drew.trans hb2⟩
theorem unq_ok_34_false_big (b cap : Nat) (w : World) (hcap : 2 < cap) (h0 : w.cell? ⟨b, 0, none⟩ = some (.int .u8 92)) (h1 : w.cell? ⟨b, 1, none⟩ = some (.int .u8 34)) :
    Calls Tryd.prog 9 #[.slice (some ⟨b, 0, none⟩) 2 cap, .bool false] w fun e w' => UnqR ⟨#[34]⟩ true e ∧ Below w.heap.size w w' := by
  have k0 := cell_later (Below.alloc (Below.refl w.heap.size w) (Nat.le_refl _) (Obj.cells #[Value.pointer none, Value.slice none 0 0] 49)) h0
  have k1 := cell_later (Below.alloc (Below.refl w.heap.size w) (Nat.le_refl _) (Obj.cells #[Value.pointer none, Value.slice none 0 0] 49)) h1
  have c0 := Lib.hid (fun w h => nextOne b 2 cap 0 92 1 w rfl (by omega) (by omega) (by omega) h (by omega))
  have c1 := Lib.hid (fun w h => nextOne b 2 cap 1 34 2 w rfl (by omega) (by omega) (by omega) h (by omega))
  have c2 := Lib.hid (wFirst w.heap.size 34 (by omega) (by omega) _ (builder_new w) (by simp))
  go_enter Tryd.func9, Tryd.ntmps9
  go_wp2
  refine wp_loop_rounds 2 ?_
  rw [rounds_succ]
  go_wp2_with fail
  refine (c0.out _ k0).mono ?_
  rintro e w' ⟨rfl, rfl⟩
  go_wp2_with fail
  refine (c1.out _ k1).mono ?_
  rintro e w' ⟨rfl, rfl⟩
  go_wp2_with fail
  refine c2.out.mono ?_
  rintro e wx ⟨⟨v, rfl⟩, hbd, hbl⟩
  have HB := Lib.hid (show Lib.IsBuilderF 49 5 _ _ (Lib.byteCells [34]) _ from hbd)
  have HL := Lib.hid hbl
  clear hbd hbl
  go_wp2_with fail
  rw [rounds_succ]
  go_wp2_with fail
  have hz : w.heap.size ≤ wx.heap.size := Nat.le_of_lt (Nat.lt_of_lt_of_le (Nat.lt_succ_self _) (by have := HL.out.size; simpa using this))
  have q0 : ¬ (cap = 2) := by omega
  go_region_with (refine (Tryd.Builder_String_any_k w.heap.size w.heap.size [34] wx.drew (bdrew HB.out) hz).mono ?_; rintro e w'' ⟨rfl, _, hb2, _⟩)
  all_goals (go_wp2_with fail)
  all_goals refine bodyPost_ret (v := .tuple #[.string ⟨#[34]⟩, .slice (some ⟨b, 2, none⟩) 0 (cap - 2), .nilIface]) (by simp [results, Tryd.results9, go_sem]) rfl ?_
  all_goals exact ⟨⟨_, _, rfl, ⟨_, _, rfl⟩, .inl ⟨rfl, rfl⟩⟩, ((Below.alloc (Below.refl _ _) (Nat.le_refl _) _).trans (HL.out.mono (by simp))).drew.trans hb2⟩
theorem unq_ok_34_true_two (b : Nat) (w : World) (h0 : w.cell? ⟨b, 0, none⟩ = some (.int .u8 92)) (h1 : w.cell? ⟨b, 1, none⟩ = some (.int .u8 34)) :
    Calls Tryd.prog 9 #[.slice (some ⟨b, 0, none⟩) 2 2, .bool true] w fun e w' => UnqR ⟨#[34]⟩ true e ∧ Below w.heap.size w w' := by
  have k0 := cell_later (Below.alloc (Below.refl w.heap.size w) (Nat.le_refl _) (Obj.cells #[Value.pointer none, Value.slice none 0 0] 49)) h0
  have k1 := cell_later (Below.alloc (Below.refl w.heap.size w) (Nat.le_refl _) (Obj.cells #[Value.pointer none, Value.slice none 0 0] 49)) h1
  have c0 := Lib.hid (fun w h => nextOne b 2 2 0 92 1 w rfl (by omega) (by omega) (by omega) h (by omega))
  have c1 := Lib.hid (fun w h => nextOne b 2 2 1 34 2 w rfl (by omega) (by omega) (by omega) h (by omega))
  have c2 := Lib.hid (wFirst w.heap.size 34 (by omega) (by omega) _ (builder_new w) (by simp))
  go_enter Tryd.func9, Tryd.ntmps9
  go_wp2
  refine wp_loop_rounds 2 ?_
  rw [rounds_succ]
  go_wp2_with fail
  refine (c0.out _ k0).mono ?_
  rintro e w' ⟨rfl, rfl⟩
  go_wp2_with fail
  refine (c1.out _ k1).mono ?_
  rintro e w' ⟨rfl, rfl⟩
  go_wp2_with fail
  refine c2.out.mono ?_
  rintro e wx ⟨⟨v, rfl⟩, hbd, hbl⟩
  have HB := Lib.hid (show Lib.IsBuilderF 49 5 _ _ (Lib.byteCells [34]) _ from hbd)
  have HL := Lib.hid hbl
  clear hbd hbl
  go_wp2_with fail
  rw [rounds_succ]
  go_wp2_with fail
  have hz : w.heap.size ≤ wx.heap.size := Nat.le_of_lt (Nat.lt_of_lt_of_le (Nat.lt_succ_self _) (by have := HL.out.size; simpa using this))
  go_region_with (refine (Tryd.Builder_String_any_k w.heap.size w.heap.size [34] wx.drew (bdrew HB.out) hz).mono ?_; rintro e w'' ⟨rfl, _, hb2, _⟩)
  all_goals (go_wp2_with fail)
  all_goals refine bodyPost_ret (v := .tuple #[.string ⟨#[34]⟩, .slice (some ⟨b, 0, none⟩) 0 0, .nilIface]) (by simp [results, Tryd.results9, go_sem]) rfl ?_
  all_goals exact ⟨⟨_, _, rfl, ⟨_, _, rfl⟩, .inl ⟨rfl, rfl⟩⟩, ((Below.alloc (Below.refl _ _) (Nat.le_refl _) _).trans (HL.out.mono (by simp))).drew.trans hb2⟩
theorem unq_ok_34_true_big (b cap : Nat) (w : World) (hcap : 2 < cap) (h0 : w.cell? ⟨b, 0, none⟩ = some (.int .u8 92)) (h1 : w.cell? ⟨b, 1, none⟩ = some (.int .u8 34)) :
    Calls Tryd.prog 9 #[.slice (some ⟨b, 0, none⟩) 2 cap, .bool true] w fun e w' => UnqR ⟨#[34]⟩ true e ∧ Below w.heap.size w w' := by
  have k0 := cell_later (Below.alloc (Below.refl w.heap.size w) (Nat.le_refl _) (Obj.cells #[Value.pointer none, Value.slice none 0 0] 49)) h0
  have k1 := cell_later (Below.alloc (Below.refl w.heap.size w) (Nat.le_refl _) (Obj.cells #[Value.pointer none, Value.slice none 0 0] 49)) h1
  have c0 := Lib.hid (fun w h => nextOne b 2 cap 0 92 1 w rfl (by omega) (by omega) (by omega) h (by omega))
  have c1 := Lib.hid (fun w h => nextOne b 2 cap 1 34 2 w rfl (by omega) (by omega) (by omega) h (by omega))
  have c2 := Lib.hid (wFirst w.heap.size 34 (by omega) (by omega) _ (builder_new w) (by simp))
  go_enter Tryd.func9, Tryd.ntmps9
  go_wp2
  refine wp_loop_rounds 2 ?_
  rw [rounds_succ]
  go_wp2_with fail
  refine (c0.out _ k0).mono ?_
  rintro e w' ⟨rfl, rfl⟩
  go_wp2_with fail
  refine (c1.out _ k1).mono ?_
  rintro e w' ⟨rfl, rfl⟩
  go_wp2_with fail
  refine c2.out.mono ?_
  rintro e wx ⟨⟨v, rfl⟩, hbd, hbl⟩
  have HB := Lib.hid (show Lib.IsBuilderF 49 5 _ _ (Lib.byteCells [34]) _ from hbd)
  have HL := Lib.hid hbl
  clear hbd hbl
  go_wp2_with fail
  rw [rounds_succ]
  go_wp2_with fail
  have hz : w.heap.size ≤ wx.heap.size := Nat.le_of_lt (Nat.lt_of_lt_of_le (Nat.lt_succ_self _) (by have := HL.out.size; simpa using this))
  have q0 : ¬ (cap = 2) := by omega
  go_region_with (refine (Tryd.Builder_String_any_k w.heap.size w.heap.size [34] wx.drew (bdrew HB.out) hz).mono ?_; rintro e w'' ⟨rfl, _, hb2, _⟩)
  all_goals (go_wp2_with fail)
  all_goals refine bodyPost_ret (v := .tuple #[.string ⟨#[34]⟩, .slice (some ⟨b, 2, none⟩) 0 (cap - 2), .nilIface]) (by simp [results, Tryd.results9, go_sem]) rfl ?_
  all_goals exact ⟨⟨_, _, rfl, ⟨_, _, rfl⟩, .inl ⟨rfl, rfl⟩⟩, ((Below.alloc (Below.refl _ _) (Nat.le_refl _) _).trans (HL.out.mono (by simp))).drew.trans hb2⟩
theorem unq_a_one (b : Nat) (w : World) (h0 : w.cell? ⟨b, 0, none⟩ = some (.int .u8 97)) :
    Calls Tryd.prog 9 #[.slice (some ⟨b, 0, none⟩) 1 1, .bool false] w fun e w' => UnqR ⟨#[97]⟩ true e ∧ Below w.heap.size w w' := by
  have k0 := cell_later (Below.alloc (Below.refl w.heap.size w) (Nat.le_refl _) (Obj.cells #[Value.pointer none, Value.slice none 0 0] 49)) h0
  have c0 := Lib.hid (fun w h => nextOne b 1 1 0 97 1 w rfl (by omega) (by omega) (by omega) h (by omega))
  have c2 := Lib.hid (wFirst w.heap.size 97 (by omega) (by omega) _ (builder_new w) (by simp))
  go_enter Tryd.func9, Tryd.ntmps9
  go_wp2
  refine wp_loop_rounds 2 ?_
  rw [rounds_succ]
  go_wp2_with fail
  refine (c0.out _ k0).mono ?_
  rintro e w' ⟨rfl, rfl⟩
  go_wp2_with fail
  refine c2.out.mono ?_
  rintro e wx ⟨⟨v, rfl⟩, hbd, hbl⟩
  have HB := Lib.hid (show Lib.IsBuilderF 49 5 _ _ (Lib.byteCells [97]) _ from hbd)
  have HL := Lib.hid hbl
  clear hbd hbl
  go_wp2_with fail
  rw [rounds_succ]
  go_wp2_with fail
  have hz : w.heap.size ≤ wx.heap.size := Nat.le_of_lt (Nat.lt_of_lt_of_le (Nat.lt_succ_self _) (by have := HL.out.size; simpa using this))
  go_region_with (refine (Tryd.Builder_String_any_k w.heap.size w.heap.size [97] wx.drew (bdrew HB.out) hz).mono ?_; rintro e w'' ⟨rfl, _, hb2, _⟩)
  all_goals (go_wp2_with fail)
  all_goals refine bodyPost_ret (v := .tuple #[.string ⟨#[97]⟩, .slice (some ⟨b, 0, none⟩) 0 0, .nilIface]) (by simp [results, Tryd.results9, go_sem]) rfl ?_
  all_goals exact ⟨⟨_, _, rfl, ⟨_, _, rfl⟩, .inl ⟨rfl, rfl⟩⟩, ((Below.alloc (Below.refl _ _) (Nat.le_refl _) _).trans (HL.out.mono (by simp))).drew.trans hb2⟩
theorem unq_a_big (b cap : Nat) (w : World) (hcap : 1 < cap) (h0 : w.cell? ⟨b, 0, none⟩ = some (.int .u8 97)) :
    Calls Tryd.prog 9 #[.slice (some ⟨b, 0, none⟩) 1 cap, .bool false] w fun e w' => UnqR ⟨#[97]⟩ true e ∧ Below w.heap.size w w' := by
  have k0 := cell_later (Below.alloc (Below.refl w.heap.size w) (Nat.le_refl _) (Obj.cells #[Value.pointer none, Value.slice none 0 0] 49)) h0
  have c0 := Lib.hid (fun w h => nextOne b 1 cap 0 97 1 w rfl (by omega) (by omega) (by omega) h (by omega))
  have c2 := Lib.hid (wFirst w.heap.size 97 (by omega) (by omega) _ (builder_new w) (by simp))
  go_enter Tryd.func9, Tryd.ntmps9
  go_wp2
  refine wp_loop_rounds 2 ?_
  rw [rounds_succ]
  go_wp2_with fail
  refine (c0.out _ k0).mono ?_
  rintro e w' ⟨rfl, rfl⟩
  go_wp2_with fail
  refine c2.out.mono ?_
  rintro e wx ⟨⟨v, rfl⟩, hbd, hbl⟩
  have HB := Lib.hid (show Lib.IsBuilderF 49 5 _ _ (Lib.byteCells [97]) _ from hbd)
  have HL := Lib.hid hbl
  clear hbd hbl
  go_wp2_with fail
  rw [rounds_succ]
  go_wp2_with fail
  have hz : w.heap.size ≤ wx.heap.size := Nat.le_of_lt (Nat.lt_of_lt_of_le (Nat.lt_succ_self _) (by have := HL.out.size; simpa using this))
  have q0 : ¬ (cap = 1) := by omega
  go_region_with (refine (Tryd.Builder_String_any_k w.heap.size w.heap.size [97] wx.drew (bdrew HB.out) hz).mono ?_; rintro e w'' ⟨rfl, _, hb2, _⟩)
  all_goals (go_wp2_with fail)
  all_goals refine bodyPost_ret (v := .tuple #[.string ⟨#[97]⟩, .slice (some ⟨b, 1, none⟩) 0 (cap - 1), .nilIface]) (by simp [results, Tryd.results9, go_sem]) rfl ?_
  all_goals exact ⟨⟨_, _, rfl, ⟨_, _, rfl⟩, .inl ⟨rfl, rfl⟩⟩, ((Below.alloc (Below.refl _ _) (Nat.le_refl _) _).trans (HL.out.mono (by simp))).drew.trans hb2⟩
theorem unq_is_110 (star : Bool) : UnqIs [92, 110] star ⟨#[10]⟩ true := by
  intro g cap W hc hj
  have h0 := hj 0 (by decide)
  have h1 := hj 1 (by decide)
  rcases Nat.lt_or_ge 2 cap with h | h
  · cases star
    · exact unq_ok_110_false_big g cap W h h0 h1
    · exact unq_ok_110_true_big g cap W h h0 h1
  · obtain rfl : cap = 2 := Nat.le_antisymm h hc
    cases star
    · exact unq_ok_110_false_two g W h0 h1
    · exact unq_ok_110_true_two g W h0 h1
theorem unq_is_114 (star : Bool) : UnqIs [92, 114] star ⟨#[13]⟩ true := by
  intro g cap W hc hj
  have h0 := hj 0 (by decide)
  have h1 := hj 1 (by decide)
  rcases Nat.lt_or_ge 2 cap with h | h
  · cases star
    · exact unq_ok_114_false_big g cap W h h0 h1
    · exact unq_ok_114_true_big g cap W h h0 h1
  · obtain rfl : cap = 2 := Nat.le_antisymm h hc
    cases star
    · exact unq_ok_114_false_two g W h0 h1
    · exact unq_ok_114_true_two g W h0 h1
theorem unq_is_116 (star : Bool) : UnqIs [92, 116] star ⟨#[9]⟩ true := by
  intro g cap W hc hj
  have h0 := hj 0 (by decide)
  have h1 := hj 1 (by decide)
  rcases Nat.lt_or_ge 2 cap with h | h
  · cases star
    · exact unq_ok_116_false_big g cap W h h0 h1
    · exact unq_ok_116_true_big g cap W h h0 h1
  · obtain rfl : cap = 2 := Nat.le_antisymm h hc
    cases star
    · exact unq_ok_116_false_two g W h0 h1
    · exact unq_ok_116_true_two g W h0 h1
theorem unq_is_48 (star : Bool) : UnqIs [92, 48] star ⟨#[0]⟩ true := by
  intro g cap W hc hj
  have h0 := hj 0 (by decide)
  have h1 := hj 1 (by decide)
  rcases Nat.lt_or_ge 2 cap with h | h
  · cases star
    · exact unq_ok_48_false_big g cap W h h0 h1
    · exact unq_ok_48_true_big g cap W h h0 h1
  · obtain rfl : cap = 2 := Nat.le_antisymm h hc
    cases star
    · exact unq_ok_48_false_two g W h0 h1
    · exact unq_ok_48_true_two g W h0 h1
theorem unq_is_92 (star : Bool) : UnqIs [92, 92] star ⟨#[92]⟩ true := by
  intro g cap W hc hj
  have h0 := hj 0 (by decide)
  have h1 := hj 1 (by decide)
  rcases Nat.lt_or_ge 2 cap with h | h
  · cases star
    · exact unq_ok_92_false_big g cap W h h0 h1
    · exact unq_ok_92_true_big g cap W h h0 h1
  · obtain rfl : cap = 2 := Nat.le_antisymm h hc
    cases star
    · exact unq_ok_92_false_two g W h0 h1
    · exact unq_ok_92_true_two g W h0 h1
theorem unq_is_39 (star : Bool) : UnqIs [92, 39] star ⟨#[39]⟩ true := by
  intro g cap W hc hj
  have h0 := hj 0 (by decide)
  have h1 := hj 1 (by decide)
  rcases Nat.lt_or_ge 2 cap with h | h
  · cases star
    · exact unq_ok_39_false_big g cap W h h0 h1
    · exact unq_ok_39_true_big g cap W h h0 h1
  · obtain rfl : cap = 2 := Nat.le_antisymm h hc
    cases star
    · exact unq_ok_39_false_two g W h0 h1
    · exact unq_ok_39_true_two g W h0 h1
theorem unq_is_34 (star : Bool) : UnqIs [92, 34] star ⟨#[34]⟩ true := by
  intro g cap W hc hj
  have h0 := hj 0 (by decide)
  have h1 := hj 1 (by decide)
  rcases Nat.lt_or_ge 2 cap with h | h
  · cases star
    · exact unq_ok_34_false_big g cap W h h0 h1
    · exact unq_ok_34_true_big g cap W h h0 h1
  · obtain rfl : cap = 2 := Nat.le_antisymm h hc
    cases star
    · exact unq_ok_34_false_two g W h0 h1
    · exact unq_ok_34_true_two g W h0 h1
theorem unq_is_a : UnqIs [97] false ⟨#[97]⟩ true := by
  intro g cap W hc hj
  have h0 := hj 0 (by decide)
  rcases Nat.lt_or_ge 1 cap with h | h
  · exact unq_a_big g cap W h h0
  · obtain rfl : cap = 1 := Nat.le_antisymm h hc
    exact unq_a_one g W h0
theorem unq_is_err (x : UInt8) (star : Bool) (hc : x.toNat < 128)
    (n1 : ¬ (x.toNat : Int) = 110) (n2 : ¬ (x.toNat : Int) = 114) (n3 : ¬ (x.toNat : Int) = 116) (n4 : ¬ (x.toNat : Int) = 92) (n5 : ¬ (x.toNat : Int) = 48) (n6 : ¬ (x.toNat : Int) = 39) (n7 : ¬ (x.toNat : Int) = 34) (n8 : ¬ (x.toNat : Int) = 120) (n9 : ¬ (x.toNat : Int) = 117) (n10 : ¬ (x.toNat : Int) = 42) :
    UnqIs [92, x] star ⟨#[]⟩ false := by
  intro g cap W hl hj
  have h0 := hj 0 (by simp)
  have h1 := hj 1 (by simp)
  cases star
  · exact unq_err_false g cap x.toNat W hl h0 h1 hc n1 n2 n3 n4 n5 n6 n7 n8 n9 n10
  · exact unq_err_true g cap x.toNat W hl h0 h1 hc n1 n2 n3 n4 n5 n6 n7 n8 n9 n10
end Go.Proofs.YtiidebhepilgiaaDoorR
