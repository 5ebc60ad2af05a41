import Derived.Test.YtiidebhepilgiaaDoorRScanInt
import Derived.Test.YtiidebhepilgiaaDoorRUnesc
/-
  The scanner: a token's text.
-/
namespace Go.Proofs.YtiidebhepilgiaaDoorR
open Go.RowKit
set_option maxRecDepth 1000000
theorem tryMore (b g n : Nat) (w : World) (c0 : w.cell? ⟨b, 1033, none⟩ = some (.slice (some ⟨g, 0, none⟩) n 64)) (f : w.frozen? ⟨b, 1033, none⟩ = false) (hn1 : n ≤ 64) :
    Calls Tryd.prog 53 #[.pointer (some ⟨b, 1033, none⟩), .int .i64 0] w fun e w' => e = .returned (.tuple #[.int .i64 n, .bool true]) ∧ w' = w.setCell ⟨b, 1033, none⟩ (.slice (some ⟨g, 0, none⟩) n 64) := by
  have g1 : n ≤ 64 := hn1
  have g2 : (0 : Int) ≤ 64 - n := by omega
  have g3 : (0 : Int) ≤ n := by omega
  have g4 : (n : Int) ≤ 64 := by omega
  go_enter Tryd.func53, Tryd.ntmps53
  go_wp2
  go_ret2
  exact ⟨rfl, rfl⟩
theorem bufText (b g n : Nat) (l : List UInt8) (w : World) (c0 : w.cell? ⟨b, 1033, none⟩ = some (.slice (some ⟨g, 0, none⟩) n 64)) (c1 : w.cell? ⟨b, 1034, none⟩ = some (.int .i64 0)) (hl : l.length = n) (hr : Row g l w) :
    Calls Tryd.prog 50 #[.pointer (some ⟨b, 1033, none⟩)] w fun e w' => e = .returned (.string ⟨l.toArray⟩) ∧ ∃ q, w' = w.drewN q := by
  have g3 : (0 : Int) ≤ n := by omega
  have cv : ∀ q, (convert 24 9 (.slice (some ⟨g, 0, none⟩) n 64)).run Tryd.prog (w.drewN q) = .ok (.string ⟨l.toArray⟩) (w.drewN q) := fun q => by
    rw [← hl]
    refine run_convert_bytes_back (w.drewN q) 24 9 5 ⟨g, 0, none⟩ 64 l Tryd.underlying24 Tryd.underlying5 Tryd.underlying9 (fun j hj => ?_)
    have ea : Addr.add ⟨g, 0, none⟩ j = ⟨g, j, none⟩ := by cases j <;> simp [Addr.add]
    rw [ea]
    exact hr j hj
  clear hr
  go_enter Tryd.func50, Tryd.ntmps50
  go_wp2
  go_quiet (fail)
  go_wp2
  go_ret
  exact ⟨rfl, _, rfl⟩
theorem writeNone (b g n : Nat) (C : Nat → Value) (w : World) (h : Sc b C w) (h1 : C 1033 = .slice (some ⟨g, 0, none⟩) n 64) (hn1 : n ≤ 63) :
    Calls Tryd.prog 44 #[.pointer (some ⟨b, 1033, none⟩), .slice (some ⟨b, 1, none⟩) 0 1025] w fun e w' => e = .returned (.tuple #[.int .i64 0, .nilIface]) ∧ Sc b (upd (upd C 1035 (.int .i8 0)) 1033 (.slice (some ⟨g, 0, none⟩) n 64)) w' ∧ (∀ k, k ≠ b → w'.heap[k]? = w.heap[k]?) ∧ Below b w w' ∧ w'.heap.size = w.heap.size := by
  have c2 := h.cell 1035 (by decide)
  have f := h.frozen
  have hw1 := h.set 1035 (.int .i8 0)
  have hh1 : ∀ k, k ≠ b → (w.setCell ⟨b, 1035, none⟩ (.int .i8 0)).heap[k]? = w.heap[k]? := fun k hk => heap_set_ne _ _ _ _ (Ne.symm hk)
  have hs1 : (w.setCell ⟨b, 1035, none⟩ (.int .i8 0)).heap.size = w.heap.size := by simp [World.setCell]
  have hb1 : Below b w (w.setCell ⟨b, 1035, none⟩ (.int .i8 0)) := (Below.refl _ _).setCell (p := ⟨b, 1035, none⟩) (Nat.le_refl _) _
  generalize hW : w.setCell ⟨b, 1035, none⟩ (.int .i8 0) = W at *
  have d0 : W.cell? ⟨b, 1033, none⟩ = some (.slice (some ⟨g, 0, none⟩) n 64) := by rw [hw1.cell 1033 (by decide)]; simp [upd, h1]
  have T := Lib.hid (tryMore b g n W d0 (hw1.frozen _) (by omega))
  have hw2 := hw1.set 1033 (.slice (some ⟨g, 0, none⟩) n 64)
  have d1 : (W.setCell ⟨b, 1033, none⟩ (.slice (some ⟨g, 0, none⟩) n 64)).cell? ⟨b, 1033, none⟩ = some (.slice (some ⟨g, 0, none⟩) n 64) := by rw [hw2.cell 1033 (by decide)]; simp [upd]
  have H2 := Lib.hid hw2
  have HH := Lib.hid hh1
  have HS := Lib.hid hs1
  have HB := Lib.hid hb1
  clear h hw1 hw2 hh1 hs1 hb1 d0
  have g1 : ¬ (64 = n) := by omega
  have g2 : (0 : Int) ≤ n := by omega
  have g3 : (n : Int) ≤ 64 := by omega
  have hcn : ∀ W, (Builtin.copy_ #[24, 24] 3 #[.slice (some ⟨g, n, none⟩) 0 (64 - n), .slice (some ⟨b, 1, none⟩) 0 1025]).run Tryd.prog W = .ok (goInt 0) W := fun W => run_copy_none W 24 24 3 5 (some ⟨g, n, none⟩) (some ⟨b, 1, none⟩) 0 (64 - n) 0 1025 Tryd.underlying24 (by kernel_rfl) (by simp)
  go_enter Tryd.func44, Tryd.ntmps44
  go_wp2_with fail
  refine T.out.mono ?_
  rintro e w' ⟨rfl, rfl⟩
  go_wp2
  go_ret2
  refine ⟨rfl, H2.out, fun k hk => (heap_set_ne _ _ _ _ (Ne.symm hk)).trans (HH.out k hk), HB.out.setCell (p := ⟨b, 1033, none⟩) (Nat.le_refl _) _, ?_⟩
  rw [← HS.out]
  simp [World.setCell]
theorem textTok (b g n : Nat) (C : Nat → Value) (l : List UInt8) (w : World) (h : Sc b C w) (h1 : C 1033 = .slice (some ⟨g, 0, none⟩) n 64) (h2 : C 1034 = .int .i64 0) (h3 : C 1036 = .int .i64 0) (h4 : C 1037 = .int .i64 0) (hl : l.length = n) (hr : Row g l w) (hn0 : 1 ≤ n) (hn1 : n ≤ 63) (hbg : b < g) :
    Calls Tryd.prog 41 #[.pointer (some ⟨b, 0, none⟩)] w fun e w' => e = .returned (.string ⟨l.toArray⟩) ∧ Sc b (upd (upd (upd C 1035 (.int .i8 0)) 1033 (.slice (some ⟨g, 0, none⟩) n 64)) 1036 (.int .i64 0)) w' ∧ (∀ k, k ≠ b → w'.heap[k]? = w.heap[k]?) ∧ Below b w w' := by
  have c1 : w.cell? ⟨b, 1036, none⟩ = some (.int .i64 0) := by rw [h.cell 1036 (by decide), h3]
  have c2 : w.cell? ⟨b, 1037, none⟩ = some (.int .i64 0) := by rw [h.cell 1037 (by decide), h4]
  have c3 : w.cell? ⟨b, 1033, none⟩ = some (.slice (some ⟨g, 0, none⟩) n 64) := by rw [h.cell 1033 (by decide), h1]
  have c4 : w.cell? ⟨b, 1034, none⟩ = some (.int .i64 0) := by rw [h.cell 1034 (by decide), h2]
  have L := Lib.hid (bufLen b 1033 n 64 0 (some ⟨g, 0, none⟩) n w c3 c4 (by omega) (by omega) (by omega))
  have f := h.frozen
  have H := Lib.hid h
  have HR := Lib.hid hr
  have H1 := Lib.hid h1
  have H2 := Lib.hid h2
  have H4 := Lib.hid h4
  have g1 : ¬ (n : Int) = 0 := by omega
  have WN := Lib.hid (fun W hW => writeNone b g n C W hW h1 hn1)
  clear h hr h1 h2 h3 h4
  go_enter Tryd.func41, Tryd.ntmps41
  go_wp2_with fail
  refine L.out.mono ?_
  rintro e w' ⟨rfl, rfl⟩
  go_upto_region 5 with fail
  go_cut [2] from 12 to 41 (fun _ wx => Sc b (upd (upd C 1035 (.int .i8 0)) 1033 (.slice (some ⟨g, 0, none⟩) n 64)) wx ∧ (∀ k, k ≠ b → wx.heap[k]? = w.heap[k]?) ∧ Below b w wx)
  case first =>
    go_region_with (refine (WN.out _ (by exact H.out)).mono ?_; rintro e W2 ⟨rfl, h2, r2, b2, _⟩)
    all_goals (go_wp2_with fail)
    all_goals go_meet
    all_goals exact ⟨h2, r2, (Below.refl b w).drew.drew.trans b2⟩
  obtain ⟨h2, r2, b2⟩ := hcut
  clear c1 c2 c3 c4 f L WN
  have k1 : wc.cell? ⟨b, 1037, none⟩ = some (.int .i64 0) := by rw [h2.cell 1037 (by decide)]; simp [upd]; exact H4.out
  have k2 := h2.cell 1036 (by decide)
  have f := h2.frozen
  have h3 := h2.set 1036 (.int .i64 0)
  have B := Lib.hid (fun q => bufText b g n l ((wc.setCell ⟨b, 1036, none⟩ (.int .i64 0)).drewN q) (by rw [show ((wc.setCell ⟨b, 1036, none⟩ (.int .i64 0)).drewN q).cell? ⟨b, 1033, none⟩ = _ from h3.cell 1033 (by decide)]; simp [upd]) (by rw [show ((wc.setCell ⟨b, 1036, none⟩ (.int .i64 0)).drewN q).cell? ⟨b, 1034, none⟩ = _ from h3.cell 1034 (by decide)]; simp [upd]; exact H2.out) hl
    (HR.out.of (w' := (wc.setCell ⟨b, 1036, none⟩ (.int .i64 0)).drewN q) ((heap_set_ne _ _ _ _ (by simp; omega)).trans (r2 g (by omega)))))
  have H3 := Lib.hid h3
  have B2 := Lib.hid b2
  have R2 := Lib.hid r2
  clear h2 h3 b2 r2
  go_wp2_with fail
  refine (B.out 0).mono ?_
  rintro e w' ⟨rfl, q, rfl⟩
  go_wp2
  go_ret
  exact ⟨rfl, H3.out, fun k hk => (heap_set_ne _ _ _ _ (Ne.symm hk)).trans (R2.out k hk), below_drewN (B2.out.setCell (p := ⟨b, 1036, none⟩) (Nat.le_refl _) _) _⟩
theorem textNone (b g c : Nat) (C : Nat → Value) (w : World) (h : Sc b C w) (h1 : C 1033 = .slice (some ⟨g, 0, none⟩) 0 c) (h2 : C 1034 = .int .i64 0) (h3 : C 1036 = .int .i64 0) (h4 : C 1037 = .int .i64 0) :
    Calls Tryd.prog 41 #[.pointer (some ⟨b, 0, none⟩)] w fun e w' => e = .returned (.string ⟨#[]⟩) ∧ w'.heap = w.heap ∧ ∀ B, Below B w w' := by
  have c1 : w.cell? ⟨b, 1036, none⟩ = some (.int .i64 0) := by rw [h.cell 1036 (by decide), h3]
  have c2 : w.cell? ⟨b, 1037, none⟩ = some (.int .i64 0) := by rw [h.cell 1037 (by decide), h4]
  have c3 : w.cell? ⟨b, 1033, none⟩ = some (.slice (some ⟨g, 0, none⟩) 0 c) := by rw [h.cell 1033 (by decide), h1]
  have c4 : w.cell? ⟨b, 1034, none⟩ = some (.int .i64 0) := by rw [h.cell 1034 (by decide), h2]
  have L := Lib.hid (bufLen b 1033 0 c 0 (some ⟨g, 0, none⟩) 0 w c3 c4 (by omega) (by omega) (by omega))
  have cv := emptyText (s := .slice (some ⟨b, 1, none⟩) 0 1025) ⟨_, _, rfl⟩
  clear h h1 h2 h3 h4
  go_enter Tryd.func41, Tryd.ntmps41
  go_wp2_with fail
  refine L.out.mono ?_
  rintro e w' ⟨rfl, rfl⟩
  go_wp2
  go_quiet (fail)
  go_wp2
  go_ret
  exact ⟨rfl, rfl, fun B => below_drewN (Below.refl B w).drew _⟩
end Go.Proofs.YtiidebhepilgiaaDoorR
