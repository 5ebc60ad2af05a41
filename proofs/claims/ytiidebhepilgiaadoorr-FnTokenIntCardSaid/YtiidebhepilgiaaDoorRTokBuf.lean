import Derived.Test.YtiidebhepilgiaaDoorRScan
/-
  The scanner's token buffer.
-/
namespace Go.Proofs.YtiidebhepilgiaaDoorR
open Go.RowKit
set_option maxRecDepth 1000000
theorem bufLen (B o n cap off : Nat) (ao : Option Addr) (t : Int) (w : World) (c0 : w.cell? ⟨B, o, none⟩ = some (.slice ao n cap)) (c1 : w.cell? ⟨B, o + 1, none⟩ = some (.int .i64 off)) (ht : (n : Int) - off = t) (hn : n ≤ 1000) (ho : off ≤ 1000) :
    Calls Tryd.prog 49 #[.pointer (some ⟨B, o, none⟩)] w fun e w' => e = .returned (.int .i64 t) ∧ w' = w.drew := by
  subst ht
  go_enter Tryd.func49, Tryd.ntmps49
  go_wp2
  go_region
  all_goals go_wp2
  all_goals go_ret
  all_goals exact ⟨rfl, rfl⟩
theorem tryNil (B o n : Nat) (w : World) (c0 : w.cell? ⟨B, o, none⟩ = some (.slice none 0 0)) (hn : 1 ≤ n) (hn1 : n ≤ 64) :
    Calls Tryd.prog 53 #[.pointer (some ⟨B, o, none⟩), .int .i64 n] w fun e w' => e = .returned (.tuple #[.int .i64 0, .bool false]) ∧ w' = w := by
  have g1 : ¬ ((n : Int) ≤ 0) := by omega
  go_enter Tryd.func53, Tryd.ntmps53
  go_wp2
  go_ret2
  exact ⟨rfl, rfl⟩
theorem made (n : Nat) (h0 : n ≤ 64) : ∃ M : Array Value, M.size = 64 ∧ ∀ W : World, (Instr.makeSlice 24 (.int .i64 n) (.int .i64 64)).run Tryd.prog W = .ok (.slice (some ⟨W.heap.size, 0, none⟩) n 64) (W.alloc (.cells M 5)) := by
  obtain ⟨i, hi, hz⟩ := Option.map_eq_some_iff.1 (show (Tryd.prog.info? 5).map (fun i => (i.zero, i.size, i.bytes)) = some (some (.int .u8 0), 1, 1) by kernel_rfl)
  simp only [Prod.mk.injEq] at hz
  refine ⟨madeCells (Value.int .u8 0).cells (64 * i.size), by rw [size_madeCells, hz.2.1], fun W => ?_⟩
  have h := run_makeSlice (P := Tryd.prog) W 24 5 i (.int .u8 0) Tryd.underlying24 hi hz.1 .i64 .i64 (n : Int) 64 (by omega) (by omega) (by rw [hz.2.1]; decide) (by rw [hz.2.2]; decide) (by decide)
  simpa using h
theorem size_sets (vs : List Value) : ∀ (b o : Nat) (w : World), (w.setCells b o vs).heap.size = w.heap.size := by
  induction vs with
  | nil => intro b o w; rfl
  | cons v r ih => intro b o w; rw [World.setCells, ih]; simp [World.setCell]
theorem growNil (b n : Nat) (C : Nat → Value) (w : World) (h : Sc b C w) (h1 : C 1033 = .slice none 0 0) (h2 : C 1034 = .int .i64 0) (hn : 1 ≤ n) (hn1 : n ≤ 64) :
    Calls Tryd.prog 54 #[.pointer (some ⟨b, 1033, none⟩), .int .i64 n] w fun e w' => e = .returned (.int .i64 0) ∧ Sc b (upd C 1033 (.slice (some ⟨w.heap.size, 0, none⟩) n 64)) w' ∧ (∃ M : Array Value, M.size = 64 ∧ w'.heap[w.heap.size]? = some (.cells M 5 (0, 0))) ∧ Below b w w' ∧ ∀ k, k ≠ b → k < w.heap.size → w'.heap[k]? = w.heap[k]? := by
  obtain ⟨M, hM, hmk⟩ := made n hn1
  have c0 := h.cell 1033 (by decide)
  have c1 := h.cell 1034 (by decide)
  have f := h.frozen 1033
  rw [h1] at c0
  rw [h2] at c1
  have hB := h.lt
  have H := Lib.hid h
  have E := Lib.hid (bufLen b 1033 0 0 0 none 0 w c0 c1 rfl (by omega) (by omega))
  have T := Lib.hid (tryNil b 1033 n w.drew c0 hn hn1)
  have g1 : (n : Int) ≤ 64 := by omega
  have g2 : (0 : Int) ≤ n := by omega
  have mk := hmk w.drew
  have hnil : ∀ W, (binOp .eql 24 (.slice none 0 0) (.slice none 0 0)).run Tryd.prog W = .ok (.bool true) W := fun W => Lib.run_eql_slice_nil_nil W _ _ Tryd.underlying24
  have c0a : (w.drew.alloc (.cells M 5)).cell? ⟨b, 1033, none⟩ = some (.slice none 0 0) := (World.cell?_of_block (a := ⟨b, 1033, none⟩) (Below.heap_alloc w.drew _ b hB)).trans c0
  have f0a : (w.drew.alloc (.cells M 5)).frozen? ⟨b, 1033, none⟩ = false := (World.frozen?_of_block (a := ⟨b, 1033, none⟩) (Below.heap_alloc w.drew _ b hB)).trans f
  clear hmk h
  go_enter Tryd.func54, Tryd.ntmps54
  go_wp2_with fail
  refine E.out.mono ?_
  rintro e w' ⟨rfl, rfl⟩
  go_wp2_with fail
  refine T.out.mono ?_
  rintro e w' ⟨rfl, rfl⟩
  go_wp2
  go_ret
  refine ⟨rfl, ?_, ⟨M, hM, ?_⟩, ?_, fun k hk hk2 => ?_⟩
  · exact Sc.below (H.out.set 1033 _) (Below.heap_alloc _ _ b (by simpa [World.setCell] using hB))
  · have := heap_alloc_new (w.setCell ⟨b, 1033, none⟩ (.slice (some ⟨w.heap.size, 0, none⟩) n 64)) (.cells M 5)
    have hs : (w.setCell ⟨b, 1033, none⟩ (.slice (some ⟨w.heap.size, 0, none⟩) n 64)).heap.size = w.heap.size := by simp [World.setCell]
    rw [hs] at this
    exact this
  · exact (((Below.refl b w).setCell (p := ⟨b, 1033, none⟩) (Nat.le_refl _) _).alloc (by simp [World.setCell]; omega) _).drew
  · have := Below.heap_alloc (w.setCell ⟨b, 1033, none⟩ (.slice (some ⟨w.heap.size, 0, none⟩) n 64)) (.cells M 5) k (by simpa [World.setCell] using hk2)
    exact this.trans (heap_set_ne _ _ _ _ (Ne.symm hk))
/-- The scanner behind the write of its bytes 1 .. n to its token buffer. -/
def tokC (C : Nat → Value) (g n : Nat) : Nat → Value := upd (upd C 1035 (.int .i8 0)) 1033 (.slice (some ⟨g, 0, none⟩) n 64)
theorem tokWrite (b n cap : Nat) (C : Nat → Value) (l : List UInt8) (lr : Int) (w : World) (h : Sc b C w) (h1 : C 1033 = .slice none 0 0) (h2 : C 1034 = .int .i64 0) (h3 : C 1035 = .int .i8 lr) (hl : l.length = n) (hn : 1 ≤ n) (hn1 : n ≤ 64)
    (hd : ∀ j (hj : j < l.length), C (1 + j) = .int .u8 (l[j].toNat : Int)) :
    Calls Tryd.prog 44 #[.pointer (some ⟨b, 1033, none⟩), .slice (some ⟨b, 1, none⟩) n cap] w fun e w' => e = .returned (.tuple #[.int .i64 n, .nilIface]) ∧ Sc b (tokC C w.heap.size n) w' ∧ (∀ j (hj : j < l.length), w'.cell? ⟨w.heap.size, j, none⟩ = some (.int .u8 (l[j].toNat : Int))) ∧ w.heap.size < w'.heap.size ∧ Below b w w' ∧ ∀ k, k ≠ b → k < w.heap.size → w'.heap[k]? = w.heap[k]? := by
  have c2 := h.cell 1035 (by decide)
  have f := h.frozen
  rw [h3] at c2
  have hw1 := h.set 1035 (.int .i8 0)
  have hsz : (w.setCell ⟨b, 1035, none⟩ (.int .i8 0)).heap.size = w.heap.size := by simp [World.setCell]
  have hb1 : Below b w (w.setCell ⟨b, 1035, none⟩ (.int .i8 0)) := (Below.refl _ _).setCell (p := ⟨b, 1035, none⟩) (Nat.le_refl _) _
  have hkk : ∀ k, k ≠ b → (w.setCell ⟨b, 1035, none⟩ (.int .i8 0)).heap[k]? = w.heap[k]? := fun k hk => heap_set_ne _ _ _ _ (Ne.symm hk)
  generalize hW : w.setCell ⟨b, 1035, none⟩ (.int .i8 0) = W at *
  have d0 : W.cell? ⟨b, 1033, none⟩ = some (.slice none 0 0) := by rw [hw1.cell 1033 (by decide)]; simp [upd, h1]
  have T := Lib.hid (tryNil b 1033 n W d0 hn hn1)
  have G := Lib.hid (growNil b n _ W hw1 (by simp [upd, h1]) (by simp [upd, h2]) hn hn1)
  have H1 := Lib.hid hw1
  have HB := Lib.hid hb1
  have HS := Lib.hid hsz
  have HD := Lib.hid hd
  have HK := Lib.hid hkk
  clear hkk hw1 hb1 hsz h h1 h2 h3 hd d0
  go_enter Tryd.func44, Tryd.ntmps44
  go_wp2_with fail
  refine T.out.mono ?_
  rintro e w' ⟨rfl, hw'⟩
  replace hw' := hw'.symm
  subst hw'
  go_wp2_with fail
  refine G.out.mono ?_
  rintro e W2 ⟨rfl, s2, ⟨M, hM, hN⟩, hb2', hk2'⟩
  rw [HS.out] at s2 hN
  have hb2 : Below b w W2 := HB.out.trans hb2'
  have hsz2 : w.heap.size < W2.heap.size := by
    rcases Nat.lt_or_ge w.heap.size W2.heap.size with h' | h'
    · exact h'
    · rw [Array.getElem?_eq_none h'] at hN; cases hN
  have hcp := run_copy_cells (P := Tryd.prog) W2 24 24 3 5 w.heap.size 0 n 64 ⟨b, 1, none⟩ n cap (Lib.byteCells l) Tryd.underlying24 (by kernel_rfl) (by rw [Lib.byteCells_length, hl]; exact (Nat.min_self n).symm)
    (fun j v hj => by
      have hj' : j < l.length := by have := (List.getElem?_eq_some_iff.1 hj).1; simpa [Lib.byteCells_length] using this
      have := HD.out j hj'
      simp [Lib.byteCells, List.getElem?_eq_getElem hj'] at hj
      rw [← hj]
      have ea : Addr.add ⟨b, 1, none⟩ j = ⟨b, 1 + j, none⟩ := by cases j <;> simp [Addr.add]
      rw [ea, s2.cell _ (by omega)]
      simp only [upd]
      rw [if_neg (by omega), if_neg (by omega), this])
    (fun j hj => by
      rw [Lib.cell_of_heap hN]
      simp [Lib.byteCells_length] at hj
      simp [hM]; omega)
    (fun j hj => Lib.frozen_of_heap hN _) (Lib.byteCells_one _)
  have e0 : (goInt (Lib.byteCells l).length : Value) = .int .i64 n := by rw [Lib.byteCells_length, hl]; rfl
  rw [e0] at hcp
  have D0 : W2.cell? ⟨b, 1033, none⟩ = some (.slice (some ⟨w.heap.size, 0, none⟩) n 64) := by rw [s2.cell 1033 (by decide)]; simp [upd]
  have S2 := Lib.hid s2
  have HB2 := Lib.hid hb2
  clear e0 s2 hb2 hb2'
  go_wp2
  go_ret2
  have hblt : b < w.heap.size := Nat.lt_of_lt_of_le H1.out.lt (Nat.le_of_eq HS.out)
  refine ⟨rfl, ?_, ?_, ?_, ?_, fun k h1 h2 => (heap_sets_ne _ _ _ _ _ (by omega)).trans ((hk2' k h1 (by rw [HS.out]; exact h2)).trans (HK.out k h1))⟩
  · exact Sc.below S2.out (World.heap_setCells_other W2 _ 0 _ (by omega) (by omega))
  · intro j hj
    have := World.cell?_setCells_in w.heap.size (Lib.byteCells l) 0 W2 (fun j hj => by
      rw [Lib.cell_of_heap hN]
      simp [Lib.byteCells_length] at hj
      simp [hM]; omega) j (by simpa [Lib.byteCells_length] using hj)
    rw [Nat.zero_add] at this
    rw [this]
    simp [Lib.byteCells]
  · have : (W2.setCells w.heap.size 0 (Lib.byteCells l)).heap.size = W2.heap.size := size_sets _ _ _ _
    omega
  · exact below_sets _ HB2.out (by omega) _
end Go.Proofs.YtiidebhepilgiaaDoorR
