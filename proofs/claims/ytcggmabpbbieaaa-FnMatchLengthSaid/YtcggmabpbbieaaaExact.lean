/-
  FnMatchExact: a pattern without a wildcard matches just the text that it is; wildcards alone match every text of at most 1000 bytes. No condition but the law's own.
-/
import Derived.Test.YtcggmabpbbieaaaPattern
import Derived.Deep.OwnRows
namespace Go.Proofs.Ytcggmabpbbieaaa
open Go.RowKit
theorem beq_lists (s t : ByteArray) : (s.data.toList == t.data.toList) = (s.toList == t.toList) := by rw [Lib.toList_data, Lib.toList_data]
theorem impl_one (g : Nat) (s t : ByteArray) (w : World) (hs : s.size ≤ 1000) (ht : t.size ≤ 1000) (hg : g < w.heap.size) (hc : w.cell? ⟨g, 0, none⟩ = some (.string s)) :
    Calls Try.prog 5 #[.slice (some ⟨g, 0, none⟩) 1 1, .string t] w fun e w' => e = .returned (.bool (s.toList == t.toList)) ∧ Below w.heap.size w w' := by
  refine (impl_any g 0 1 [s] t w (by simp) hg (by intro x hx; simp at hx; subst hx; exact hs) (by omega) (by
    intro i x hx
    cases i with
    | zero => simp at hx; subst hx; exact hc
    | succ i => simp at hx)).mono ?_
  rintro e w' ⟨he, hb⟩
  refine ⟨?_, hb⟩
  rw [he]
  simp only [List.map_cons, List.map_nil, Pat.match_one, beq_lists]
theorem impl_stars (g k : Nat) (t : ByteArray) (w : World) (hk : k ≤ 7) (ht : t.size ≤ 1000) (hg : g < w.heap.size) (hc : ∀ i, i < 2 + k → w.cell? ⟨g, i, none⟩ = some (.string ByteArray.empty)) :
    Calls Try.prog 5 #[.slice (some ⟨g, 0, none⟩) (2 + k) (2 + k), .string t] w fun e w' => e = .returned (.bool true) ∧ Below w.heap.size w w' := by
  rw [Nat.add_comm] at hc ⊢
  have h := impl_any g 0 (k + 2) (List.replicate (k + 2) ByteArray.empty) t w (by simp; omega) hg (by intro x hx; rw [List.eq_of_mem_replicate hx]; decide) (by omega) (by
    intro i x hx
    obtain ⟨hi, rfl⟩ := List.getElem?_eq_some_iff.1 hx
    simp at hi
    simpa using hc i hi)
  rw [List.length_replicate] at h
  refine h.mono ?_
  rintro e w' ⟨he, hb⟩
  refine ⟨?_, hb⟩
  rw [he, List.map_replicate]
  rw [show ByteArray.empty.data.toList = [] from rfl, Pat.match_stars]
theorem info9 : (Try.prog.info? 9).map (fun i => (i.zero, i.size, i.bytes)) = some (some (.string ByteArray.empty), 1, 16) := by kernel_rfl
theorem made_cell (w : World) (n i : Nat) (h : i < n) : (w.alloc (.cells (madeCells #[.string ByteArray.empty] n) 9)).cell? ⟨w.heap.size, i, none⟩ = some (.string ByteArray.empty) := by
  rw [World.cell?_alloc_new]
  have := toList_madeCells_one (.string ByteArray.empty) n
  rw [← Array.getElem?_toList, this]
  simp [h]
set_option maxHeartbeats 1000000 in
theorem law_exact (s t : ByteArray) (n : Int) (w : World) (h1 : 0 ≤ n) (h2 : n ≤ 255) : Calls Try.prog 3 #[.string s, .string t, .int .u8 n] w fun e w' => e = .returned (.bool true) ∧ Below w.heap.size w w' := by
  by_cases hs : s.size ≤ 1000
  · by_cases ht : t.size ≤ 1000
    · obtain ⟨k, hk⟩ := Int.eq_ofNat_of_zero_le (show 0 ≤ n % 8 by omega)
      have hk7 : k ≤ 7 := by omega
      have hmk := fun W => run_make_row' (P := Try.prog) 22 9 (.string ByteArray.empty) 16 Try.underlying22 info9 rfl .i64 .i64 (2 + k) (by omega) (by omega) W
      have e2 : (((2 + k : Nat)) : Int) = 2 + (k : Int) := by omega
      rw [e2] at hmk
      clear e2
      have hcs := made_cell w (2 + k)
      obtain ⟨w0, hw0⟩ : ∃ w0, w0 = w.alloc (.cells (madeCells #[.string ByteArray.empty] (2 + k)) 9) := ⟨_, rfl⟩
      have hb0 : Below w.heap.size w w0 := by rw [hw0]; exact (Below.refl _ _).alloc (Nat.le_refl _) _
      have hz0 : w.heap.size < w0.heap.size := by rw [hw0]; simp
      have hmk' := hmk w
      rw [← hw0] at hmk' hcs
      have HW0 := Lib.hid hw0
      clear hmk hw0
      have hee : (s.toList == s.toList) = true := by simp
      go_enter Try.func3, Try.ntmps3
      go_wp2_with fail
      refine (impl_one w0.heap.size s t (w0.alloc (.cells #[.string s] 9)) hs ht (by simp) (by simp)).mono ?_
      rintro e w1 ⟨rfl, hb1⟩
      go_wp2_with fail
      refine (impl_one w1.heap.size s s (w1.alloc (.cells #[.string s] 9)) hs hs (by simp) (by simp)).mono ?_
      rintro e w2 ⟨rfl, hb2⟩
      have hb02 : Below w0.heap.size w0 w2 := (((Below.refl _ _).alloc (Nat.le_refl _) _).trans (hb1.mono (by simp))).trans (((Below.refl _ w1).alloc (Nat.le_refl _) _).trans (hb2.mono (by simp)) |>.mono (by have := hb1.size; simp at this; omega))
      have hcs2 : ∀ i, i < 2 + k → w2.cell? ⟨w.heap.size, i, none⟩ = some (.string ByteArray.empty) := fun i hi => (hb02.cell (p := ⟨w.heap.size, i, none⟩) hz0).trans (hcs i hi)
      have cS := Lib.hid (impl_stars w.heap.size k t w2 hk7 ht (Nat.lt_of_lt_of_le hz0 hb02.size) hcs2)
      clear hcs2 hcs
      go_wp2_with fail
      refine cS.out.mono ?_
      rintro e w3 ⟨rfl, hb3⟩
      go_wp2_with fail
      go_ret
      exact ⟨rfl, (hb0.trans (hb02.mono (by omega))).trans (hb3.mono (by have := hb02.size; omega))⟩
    · go_enter Try.func3, Try.ntmps3
      by_cases hs2 : s.size ≤ 2147483647
      · by_cases ht2 : t.size ≤ 2147483647
        · go_wp2_with fail
          go_ret
          exact ⟨rfl, Below.refl _ _⟩
        · go_wp2_with fail
          go_ret
          exact ⟨rfl, Below.refl _ _⟩
      · omega
  · go_enter Try.func3, Try.ntmps3
    by_cases hs2 : s.size ≤ 2147483647
    · by_cases ht2 : t.size ≤ 2147483647
      · go_wp2_with fail
        go_ret
        exact ⟨rfl, Below.refl _ _⟩
      · go_wp2_with fail
        go_ret
        exact ⟨rfl, Below.refl _ _⟩
    · go_wp2_with fail
      go_ret
      exact ⟨rfl, Below.refl _ _⟩
end Go.Proofs.Ytcggmabpbbieaaa
