import Derived.Test.YtiidebhepilgiaaDoorRTok
/-
  The scanner: the end of the tokens.
-/
namespace Go.Proofs.YtiidebhepilgiaaDoorR
open Go.RowKit
set_option maxRecDepth 1000000
set_option maxHeartbeats 16000000 in
theorem tokEnd (b sb g0 n cap g : Nat) (C : Nat → Value) (w : World) (h : Sc b C w) (hs : Src sb g0 0 cap 0 0 w) (A : Aft n g C) (hsb : sb < b) (hn1 : n ≤ 60) :
    Calls Tryd.prog 26 #[.pointer (some ⟨b, 0, none⟩)] w fun e w' => e = .returned (.agg #[.int .i64 0, .string ⟨#[]⟩, .int .i64 n, .int .i64 1, .int .i64 (n + 1), .string ⟨#[]⟩]) ∧
      ∃ D : Nat → Value, (D 1039 = .nilIface ∧ D 1040 = .string ⟨#[]⟩ ∧ D 1041 = .int .i64 n ∧ D 1042 = .int .i64 1 ∧ D 1043 = .int .i64 (n + 1)) ∧ Sc b D w' ∧ Fr b sb w w' := by
  have hlt := h.lt
  have hb0 : Below w.heap.size w (w.alloc ZT) := Below.alloc (Below.refl _ _) (Nat.le_refl _) _
  have hslt := hs.lt
  have P0 : Ph w b sb g0 0 cap 0 0 C (w.alloc ZT) := ⟨h.below (hb0.block b hlt), hs.of (hb0.block sb hslt), ⟨_, heap_alloc_new w _, rfl⟩, ⟨hb0.mono (by omega), fun k _ _ h3 => hb0.block k h3⟩, hsb, hlt⟩
  have c38 := P0.sc.cell 1038 (by decide)
  rw [A.d38] at c38
  have c36 := P0.sc.cell 1036 (by decide)
  have c42 := P0.sc.cell 1042 (by decide)
  have f := P0.sc.frozen
  have HP := Lib.hid P0
  have HA := Lib.hid A
  clear h hs A hb0 P0 hslt
  go_enter Tryd.func26, Tryd.ntmps26
  go_wp2
  go_step3
  go_upto_region 1 with fail
  change Code.wp _ _ _ _ (w.alloc ZT)
  generalize w.alloc ZT = W0 at *
  go_wp2
  go_step3
  have P3 := (HP.out.set 1036 (.int .i64 (-1))).set 1042 (.int .i64 0)
  generalize (W0.setCell ⟨b, 1036, none⟩ (.int .i64 (-1))).setCell ⟨b, 1042, none⟩ (.int .i64 0) = W3 at *
  clear c38 c36 c42 f HP
  have NW := Lib.hid (notWhite (-1) (by omega) (by omega) (by omega) (by omega) W3)
  go_wp2
  refine wp_loop_rounds 1 ?_
  rw [rounds_succ]
  go_wp2_with fail
  refine NW.out.mono ?_
  rintro e w' ⟨rfl, hw⟩
  replace hw := hw.symm
  subst hw
  clear NW
  have k1 : W3.cell? ⟨b, 1033, none⟩ = some (.slice (some ⟨g, 0, none⟩) n 64) := by
    rw [P3.sc.cell 1033 (by decide)]
    simp only [upd]
    rw [if_neg (by omega), if_neg (by omega), HA.out.d33]
  have R := Lib.hid (reset b 1033 n 64 (some ⟨g, 0, none⟩) W3 k1 ⟨_, P3.sc.cell 1034 (by decide)⟩ ⟨_, P3.sc.cell 1035 (by decide)⟩ P3.sc.frozen)
  have P4 := ((P3.set 1033 (.slice (some ⟨g, 0, none⟩) 0 64)).set (1033 + 1) (.int .i64 0)).set (1033 + 2) (.int .i8 0)
  clear P3 k1
  go_wp2_with fail
  refine R.out.mono ?_
  rintro e W4 ⟨rfl, hw⟩
  rw [← hw] at P4
  clear R hw
  have oth : ∀ i, i ≠ 1033 → i ≠ 1034 → i ≠ 1035 → i ≠ 1036 → i ≠ 1042 → upd (upd (upd (upd (upd C 1036 (.int .i64 (-1))) 1042 (.int .i64 0)) 1033 (.slice (some ⟨g, 0, none⟩) 0 64)) (1033 + 1) (.int .i64 0)) (1033 + 2) (.int .i8 0) i = C i := fun i h1 h2 h3 h4 h5 => by
    simp only [upd]; rw [if_neg h3, if_neg h2, if_neg h1, if_neg h5, if_neg h4]
  have p33 : upd (upd (upd (upd (upd C 1036 (.int .i64 (-1))) 1042 (.int .i64 0)) 1033 (.slice (some ⟨g, 0, none⟩) 0 64)) (1033 + 1) (.int .i64 0)) (1033 + 2) (.int .i8 0) 1033 = .slice (some ⟨g, 0, none⟩) 0 64 := by simp [upd]
  have p34 : upd (upd (upd (upd (upd C 1036 (.int .i64 (-1))) 1042 (.int .i64 0)) 1033 (.slice (some ⟨g, 0, none⟩) 0 64)) (1033 + 1) (.int .i64 0)) (1033 + 2) (.int .i8 0) 1034 = .int .i64 0 := by simp [upd]
  generalize upd (upd (upd (upd (upd C 1036 (.int .i64 (-1))) 1042 (.int .i64 0)) 1033 (.slice (some ⟨g, 0, none⟩) 0 64)) (1033 + 1) (.int .i64 0)) (1033 + 2) (.int .i8 0) = C4 at *
  have q26 : C4 1026 = .int .i64 0 := by rw [oth _ (by omega) (by omega) (by omega) (by omega) (by omega), HA.out.d26]
  have q28 : C4 1028 = .int .i64 n := by rw [oth _ (by omega) (by omega) (by omega) (by omega) (by omega), HA.out.d28]
  have q29 : C4 1029 = .int .i64 1 := by rw [oth _ (by omega) (by omega) (by omega) (by omega) (by omega), HA.out.d29]
  have q30 : C4 1030 = .int .i64 (n + 1) := by rw [oth _ (by omega) (by omega) (by omega) (by omega) (by omega), HA.out.d30]
  have q32 : C4 1032 = .int .i64 0 := by rw [oth _ (by omega) (by omega) (by omega) (by omega) (by omega), HA.out.d32]
  have q39 : C4 1039 = .nilIface := by rw [oth _ (by omega) (by omega) (by omega) (by omega) (by omega), HA.out.d39]
  have q40 : C4 1040 = .string ⟨#[]⟩ := by rw [oth _ (by omega) (by omega) (by omega) (by omega) (by omega), HA.out.d40]
  have k1 : W4.cell? ⟨b, 1026, none⟩ = some (.int .i64 0) := by rw [P4.sc.cell 1026 (by decide), q26]
  have k2 : W4.cell? ⟨b, 1032, none⟩ = some (.int .i64 0) := by rw [P4.sc.cell 1032 (by decide), q32]
  have k3 := P4.sc.cell 1036 (by decide)
  have f := P4.sc.frozen
  have HP4 := Lib.hid P4
  clear P4
  go_upto_region 9 with fail
  go_cut [6] from 36 to 47 (fun _ wx => Ph w b sb g0 0 cap 0 0 (upd C4 1036 (.int .i64 0)) wx)
  case first =>
    go_region
    all_goals (go_wp2_with fail)
    all_goals go_meet
    all_goals exact HP4.out.drew.set 1036 _
  clear k1 k2 k3 f HP4
  have k1 : wc.cell? ⟨b, 1028, none⟩ = some (.int .i64 n) := by rw [hcut.sc.cell 1028 (by decide)]; simp [upd, q28]
  have k2 : wc.cell? ⟨b, 1036, none⟩ = some (.int .i64 0) := by rw [hcut.sc.cell 1036 (by decide)]; simp [upd]
  have k3 := hcut.sc.cell 1041 (by decide)
  have f := hcut.sc.frozen
  have HP4 := Lib.hid hcut
  clear hcut
  go_upto_region 10 with fail
  go_cut [6] from 48 to 60 (fun _ wx => Ph w b sb g0 0 cap 0 0 (upd (upd C4 1036 (.int .i64 0)) 1041 (.int .i64 n)) wx)
  case first =>
    go_region
    all_goals (go_wp2_with fail)
    all_goals go_meet
    all_goals exact HP4.out.drew.set 1041 _
  clear k1 k2 k3 f HP4
  have k1 : wc.cell? ⟨b, 1030, none⟩ = some (.int .i64 (n + 1)) := by rw [hcut.sc.cell 1030 (by decide)]; simp [upd, q30]
  have k2 : wc.cell? ⟨b, 1029, none⟩ = some (.int .i64 1) := by rw [hcut.sc.cell 1029 (by decide)]; simp [upd, q29]
  have k3 := hcut.sc.cell 1042 (by decide)
  have k4 := hcut.sc.cell 1043 (by decide)
  have f := hcut.sc.frozen
  have P5 := (hcut.set 1042 (.int .i64 1)).set 1043 (.int .i64 (n + 1))
  clear hcut
  have g1 : (0 : Int) < (n : Int) + 1 := by omega
  go_upto_region 16 with fail
  clear k1 k2 k3 k4 f
  generalize (wc.setCell ⟨b, 1042, none⟩ (.int .i64 1)).setCell ⟨b, 1043, none⟩ (.int .i64 (n + 1)) = W5 at *
  have ot5 : ∀ i, i ≠ 1036 → i ≠ 1041 → i ≠ 1042 → i ≠ 1043 → upd (upd (upd (upd C4 1036 (.int .i64 0)) 1041 (.int .i64 n)) 1042 (.int .i64 1)) 1043 (.int .i64 (n + 1)) i = C4 i := fun i h1 h2 h3 h4 => by
    simp only [upd]; rw [if_neg h4, if_neg h3, if_neg h2, if_neg h1]
  have p36 : upd (upd (upd (upd C4 1036 (.int .i64 0)) 1041 (.int .i64 n)) 1042 (.int .i64 1)) 1043 (.int .i64 (n + 1)) 1036 = .int .i64 0 := by simp [upd]
  have p41 : upd (upd (upd (upd C4 1036 (.int .i64 0)) 1041 (.int .i64 n)) 1042 (.int .i64 1)) 1043 (.int .i64 (n + 1)) 1041 = .int .i64 n := by simp [upd]
  have p42 : upd (upd (upd (upd C4 1036 (.int .i64 0)) 1041 (.int .i64 n)) 1042 (.int .i64 1)) 1043 (.int .i64 (n + 1)) 1042 = .int .i64 1 := by simp [upd]
  have p43 : upd (upd (upd (upd C4 1036 (.int .i64 0)) 1041 (.int .i64 n)) 1042 (.int .i64 1)) 1043 (.int .i64 (n + 1)) 1043 = .int .i64 (n + 1) := by simp [upd]
  generalize upd (upd (upd (upd C4 1036 (.int .i64 0)) 1041 (.int .i64 n)) 1042 (.int .i64 1)) 1043 (.int .i64 (n + 1)) = C5 at *
  have k1 : W5.cell? ⟨b, 1026, none⟩ = some (.int .i64 0) := by rw [P5.sc.cell 1026 (by decide), ot5 _ (by omega) (by omega) (by omega) (by omega), q26]
  have k2 : W5.cell? ⟨b, 1032, none⟩ = some (.int .i64 0) := by rw [P5.sc.cell 1032 (by decide), ot5 _ (by omega) (by omega) (by omega) (by omega), q32]
  have k3 := P5.sc.cell 1037 (by decide)
  have f := P5.sc.frozen
  have HP6 := Lib.hid P5
  clear P5
  go_upto_region 37 with fail
  go_cut [6] from 153 to 164 (fun _ wx => Ph w b sb g0 0 cap 0 0 (upd C5 1037 (.int .i64 0)) wx)
  case first =>
    go_region
    all_goals (go_wp2_with fail)
    all_goals go_meet
    all_goals exact HP6.out.drew.set 1037 _
  clear k1 k2 k3 f HP6
  have k1 := hcut.sc.cell 1038 (by decide)
  have f := hcut.sc.frozen
  go_upto_region 39 with fail
  have P8 := hcut.set 1038 (.int .i32 (-1))
  clear k1 f hcut
  generalize wc.setCell ⟨b, 1038, none⟩ (.int .i32 (-1)) = W7 at *
  have ot7 : ∀ i, i ≠ 1037 → i ≠ 1038 → upd (upd C5 1037 (.int .i64 0)) 1038 (.int .i32 (-1)) i = C5 i := fun i h1 h2 => by
    simp only [upd]; rw [if_neg h2, if_neg h1]
  have p37 : upd (upd C5 1037 (.int .i64 0)) 1038 (.int .i32 (-1)) 1037 = .int .i64 0 := by simp [upd]
  generalize upd (upd C5 1037 (.int .i64 0)) 1038 (.int .i32 (-1)) = D2 at *
  have o3 : ∀ i, i ≠ 1036 → i ≠ 1037 → i ≠ 1038 → i ≠ 1041 → i ≠ 1042 → i ≠ 1043 → D2 i = C4 i := fun i h1 h2 h3 h4 h5 h6 => (ot7 i h2 h3).trans (ot5 i h1 h4 h5 h6)
  have r39 : D2 1039 = .nilIface := (o3 _ (by omega) (by omega) (by omega) (by omega) (by omega) (by omega)).trans q39
  have r40 : D2 1040 = .string ⟨#[]⟩ := (o3 _ (by omega) (by omega) (by omega) (by omega) (by omega) (by omega)).trans q40
  have r41 : D2 1041 = .int .i64 n := (ot7 _ (by omega) (by omega)).trans p41
  have r42 : D2 1042 = .int .i64 1 := (ot7 _ (by omega) (by omega)).trans p42
  have r43 : D2 1043 = .int .i64 (n + 1) := (ot7 _ (by omega) (by omega)).trans p43
  have TT := Lib.hid (textNone b g 64 D2 W7 P8.sc ((o3 _ (by omega) (by omega) (by omega) (by omega) (by omega) (by omega)).trans p33) ((o3 _ (by omega) (by omega) (by omega) (by omega) (by omega) (by omega)).trans p34) ((ot7 _ (by omega) (by omega)).trans p36) p37)
  have HP8 := Lib.hid P8
  clear P8
  go_wp2_with fail
  refine TT.out.mono ?_
  rintro e W8 ⟨rfl, hh8, hb8⟩
  have P9 := HP8.out.step (HP8.out.sc.below (w' := W8) (by rw [hh8])) (HP8.out.src.of (w' := W8) (by rw [hh8])) (⟨hb8 _, fun k _ _ _ => by rw [hh8]⟩ : Fr b sb W7 W8)
  clear TT HP8 hh8 hb8
  have k1 : W8.cell? ⟨b, 1040, none⟩ = some (.string ⟨#[]⟩) := by rw [P9.sc.cell 1040 (by decide), r40]
  have k2 : W8.cell? ⟨b, 1041, none⟩ = some (.int .i64 n) := by rw [P9.sc.cell 1041 (by decide), r41]
  have k3 : W8.cell? ⟨b, 1042, none⟩ = some (.int .i64 1) := by rw [P9.sc.cell 1042 (by decide), r42]
  have k4 : W8.cell? ⟨b, 1043, none⟩ = some (.int .i64 (n + 1)) := by rw [P9.sc.cell 1043 (by decide), r43]
  obtain ⟨t0, e0⟩ := P9.tk.cell 0 (by omega)
  obtain ⟨t1, e1⟩ := P9.tk.cell 1 (by omega)
  obtain ⟨t2, e2⟩ := P9.tk.cell 2 (by omega)
  obtain ⟨t3, e3⟩ := P9.tk.cell 3 (by omega)
  obtain ⟨t4, e4⟩ := P9.tk.cell 4 (by omega)
  obtain ⟨t5, e5⟩ := P9.tk.cell 5 (by omega)
  have f := P9.tk.frozen
  have HP9 := Lib.hid P9
  clear P9
  go_wp2_with fail
  rw [Exit.noGoto_ret]
  refine bodyPost_ret (v := .agg #[.int .i64 0, .string ⟨#[]⟩, .int .i64 n, .int .i64 1, .int .i64 (n + 1), .string ⟨#[]⟩]) (by simp [results, Tryd.results26, go_sem, e0, e1, e2, e3, e4, e5]) rfl ?_
  have hb := HP9.out.b
  have hsb := HP9.out.sb
  refine ⟨rfl, D2, ⟨r39, r40, r41, r42, r43⟩, HP9.out.sc.below ?_, ((((((HP9.out.fr.setT (by omega) 0 _).setT (by omega) 1 _).setT (by omega) 2 _).setT (by omega) 3 _).setT (by omega) 4 _).setT (by omega) 5 _)⟩
  rw [heap_set_ne _ _ _ _ (by simp; omega), heap_set_ne _ _ _ _ (by simp; omega), heap_set_ne _ _ _ _ (by simp; omega), heap_set_ne _ _ _ _ (by simp; omega), heap_set_ne _ _ _ _ (by simp; omega), heap_set_ne _ _ _ _ (by simp; omega)]
end Go.Proofs.YtiidebhepilgiaaDoorR
