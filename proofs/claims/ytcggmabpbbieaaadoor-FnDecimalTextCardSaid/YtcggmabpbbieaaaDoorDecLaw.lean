import Derived.Test.YtcggmabpbbieaaaDoorDecSpec
/-
  FnDecimalText: the walk.
-/
namespace Go.Proofs.YtcggmabpbbieaaaDoor
open Go.RowKit Go.Sort
theorem decString (n : Int) (h0 : -9223372036854775808 ≤ n) (h1 : n ≤ 9223372036854775807) (w : World) (ht : Tab w) :
    Calls Tryd.prog 16 #[.agg #[.int .i64 n]] w fun e w' => e = .returned (.string ⟨(decText n).toArray⟩) ∧ Below w.heap.size w w' := by
  rcases Int.lt_or_le n 0 with h | h
  · exact str_neg n h0 h1 h w ht
  · exact str_pos n h0 h1 h w ht
theorem zzDec (n : Int) (w : World) : Calls Tryd.prog 15 #[.int .i64 n] w fun e w' => e = .returned (.agg #[.int .i64 n]) ∧ Below w.heap.size w w' := by
  have hc : (w.alloc (Obj.cells #[Value.int IntKind.i64 n] 41)).cell? ⟨w.heap.size, 0, none⟩ = some (.int .i64 n) := alloc_cell w _ 41 0
  go_enter Tryd.func15, Tryd.ntmps15
  go_wp2
  exact bodyPost_ret (v := .agg #[.int .i64 n]) (by simp [results, Tryd.results15, go_sem, hc]) rfl ⟨rfl, (Below.refl _ _).alloc (Nat.le_refl _) _⟩
theorem implText (n : Int) (h0 : -9223372036854775808 ≤ n) (h1 : n ≤ 9223372036854775807) (w : World) (ht : Tab w) :
    Calls Tryd.prog 9 #[.int .i64 n] w fun e w' => e = .returned (.string ⟨(decText n).toArray⟩) ∧ Below w.heap.size w w' := by
  have cZ := Lib.hid (zzDec n)
  have cS := Lib.hid (decString n h0 h1)
  have HT := Lib.hid ht
  clear ht
  go_enter Tryd.func9, Tryd.ntmps9
  go_wp2_with fail
  refine (cZ.out _).mono ?_
  rintro e w1 ⟨rfl, hb1⟩
  have HB1 := Lib.hid hb1
  clear hb1
  go_wp2_with fail
  refine (cS.out _ (tab_below HT.out HB1.out)).mono ?_
  rintro e w2 ⟨rfl, hb2⟩
  have HB2 := Lib.hid (HB1.out.trans (hb2.mono HB1.out.size))
  clear hb2
  go_wp2
  go_ret
  exact ⟨rfl, HB2.out⟩
theorem law (n : Int) (h0 : -9223372036854775808 ≤ n) (h1 : n ≤ 9223372036854775807) (w : World) (ht : Tab w) :
    Calls Tryd.prog 4 #[.int .i64 n] w fun e w' => e = .returned (.bool true) ∧ Below w.heap.size w w' := by
  have cI := Lib.hid (implText n h0 h1)
  have cS := Lib.hid (specText n h0 h1)
  have HT := Lib.hid ht
  clear ht
  go_enter Tryd.func4, Tryd.ntmps4
  go_wp2_with fail
  refine (cI.out _ HT.out).mono ?_
  rintro e w1 ⟨rfl, hb1⟩
  have HB1 := Lib.hid hb1
  clear hb1
  go_wp2_with fail
  refine (cS.out _).mono ?_
  rintro e w2 ⟨rfl, q, rfl⟩
  go_wp2
  all_goals go_ret
  exact ⟨rfl, below_drewN HB1.out q⟩
end Go.Proofs.YtcggmabpbbieaaaDoor
