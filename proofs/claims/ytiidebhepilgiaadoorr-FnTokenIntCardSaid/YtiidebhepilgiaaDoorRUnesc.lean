import Derived.Test.YtiidebhepilgiaaDoorRUnq
/-
  FnUnescapeSign: the walk of impl.Unescape and of the law.
-/
namespace Go.Proofs.YtiidebhepilgiaaDoorR
open Go.RowKit
set_option maxRecDepth 1000000
theorem unescape (l : List UInt8) (star : Bool) (t : ByteArray) (ok : Bool) (hU : UnqIs l star t ok) (w : World) :
    Calls Tryd.prog 5 #[.string ⟨l.toArray⟩, .bool star] w fun e w' => e = .returned (.tuple #[.string t, .string ⟨#[]⟩, .bool ok]) ∧ Below w.heap.size w w' := by
  have hcv := run_bytes_of_string w 9 24 5 ⟨l.toArray⟩ Tryd.underlying9 Tryd.underlying24 Tryd.underlying5
  have hcap : l.length ≤ grownCap w l.length 0 5 := grownCap_ge _ _ _ _
  have hsz : (⟨l.toArray⟩ : ByteArray).size = l.length := rfl
  rw [hsz] at hcv
  generalize hcp : grownCap w l.length 0 5 = cap at *
  generalize hW : (w.drew.alloc _ : World) = W at hcv
  have hbl : Below w.heap.size w W := by rw [← hW]; exact Below.alloc (Below.refl _ _).drew (Nat.le_refl _) _
  have hce : ∀ j (h : j < l.length), W.cell? ⟨w.heap.size, j, none⟩ = some (.int .u8 (l[j].toNat : Int)) := by
    intro j h
    rw [← hW]
    have hh : (w.drew.alloc (.cells (bytesRow ⟨l.toArray⟩ cap) 5 ((bytesRow ⟨l.toArray⟩ cap).size, (bytesRow ⟨l.toArray⟩ cap).size + 1))).heap[w.heap.size]? = some (.cells (bytesRow ⟨l.toArray⟩ cap) 5 ((bytesRow ⟨l.toArray⟩ cap).size, (bytesRow ⟨l.toArray⟩ cap).size + 1)) := heap_alloc_new w.drew _
    rw [Lib.cell_of_heap hh]
    simp [bytesRow, Array.getElem?_append, h]
  have c := Lib.hid (hU w.heap.size cap W hcap hce)
  have HB := Lib.hid hbl
  clear hW hbl hce hU
  go_enter Tryd.func5, Tryd.ntmps5
  go_wp2_with fail
  refine c.out.mono ?_
  rintro e w1 ⟨⟨s, E, rfl, hs, hE⟩, hb1⟩
  have HB1 := Lib.hid hb1
  have cv := emptyText hs
  have HBB := Lib.hid (HB.out.trans (HB1.out.mono HB.out.size))
  clear hb1 hs
  rcases hE with ⟨rfl, rfl⟩ | ⟨rfl, a, rfl⟩
  · go_wp2
    go_region
    all_goals go_wp2
    all_goals refine bodyPost_ret (v := .tuple #[.string t, .string ⟨#[]⟩, .bool true]) (by simp [results, Tryd.results5, go_sem]) rfl ?_
    all_goals exact ⟨rfl, HBB.out.drew⟩
  · go_wp2
    go_region
    all_goals go_wp2
    all_goals refine bodyPost_ret (v := .tuple #[.string t, .string ⟨#[]⟩, .bool false]) (by simp [results, Tryd.results5, go_sem]) rfl ?_
    all_goals exact ⟨rfl, HBB.out.drew⟩
/-- How impl.Unescape ends. -/
def UEnd (l : List UInt8) (star : Bool) (t : ByteArray) (ok : Bool) : Prop := ∀ w : World,
    Calls Tryd.prog 5 #[.string ⟨l.toArray⟩, .bool star] w fun e w' => e = .returned (.tuple #[.string t, .string ⟨#[]⟩, .bool ok]) ∧ Below w.heap.size w w'
theorem reads7 (h : UEnd [97] false ⟨#[97]⟩ true) (w : World) : Calls Tryd.prog 6 #[] w fun e w' => e = .returned (.bool true) ∧ Below w.heap.size w w' := by
  have c := Lib.hid (h w)
  clear h
  go_enter Tryd.func6, Tryd.ntmps6
  go_wp2_with fail
  refine c.out.mono ?_
  rintro e w1 ⟨rfl, hb⟩
  go_wp2
  go_ret
  exact ⟨rfl, hb⟩
theorem law_ok110 (n : Int) (hm : Int.tmod n 128 = 110) (star : Bool) (h : UEnd [92, 110] star ⟨#[10]⟩ true) (w : World) :
    Calls Tryd.prog 3 #[.int .u8 n, .bool star] w fun e w' => (e = .returned (.bool true)) ∧ Below w.heap.size w w' := by
  have hcv : (convert 24 9 (.slice (some ⟨w.heap.size, 0, none⟩) 1 1)).run Tryd.prog (w.alloc (.cells #[.int .u8 110] 5)) = .ok (.string ⟨#[110]⟩) (w.alloc (.cells #[.int .u8 110] 5)) :=
    run_convert_bytes_back _ 24 9 5 ⟨w.heap.size, 0, none⟩ 1 [110] Tryd.underlying24 Tryd.underlying5 Tryd.underlying9 (fun j hj => by
      obtain rfl : j = 0 := by simpa using hj
      show (w.alloc (.cells #[.int .u8 110] 5)).cell? ⟨w.heap.size, 0, none⟩ = _
      rw [Lib.cell_of_heap (heap_alloc_new w _)]; rfl)
  have hap : (⟨#[92]⟩ : ByteArray) ++ ⟨#[110]⟩ = ⟨[92, 110].toArray⟩ := rfl
  have hba : Below w.heap.size w (w.alloc (.cells #[.int .u8 110] 5)) := Below.alloc (Below.refl _ _) (Nat.le_refl _) _
  have c := Lib.hid (h (w.alloc (.cells #[.int .u8 110] 5)))
  clear h
  go_enter Tryd.func3, Tryd.ntmps3
  go_wp2_with fail
  refine c.out.mono ?_
  rintro e w1 ⟨rfl, hb⟩
  have HB := Lib.hid (hba.trans (hb.mono hba.size))
  clear hb hba
  have hx : ([10] : List UInt8) = ((⟨#[10, 13, 9, 0, 92, 39, 34]⟩ : ByteArray).extract 0 1).toList := by decide +kernel
  go_wp2
  refine wp_loop_rounds 1 ?_
  rw [rounds_succ]
  go_wp2
  go_ret
  exact ⟨rfl, HB.out⟩
theorem law_ok114 (n : Int) (hm : Int.tmod n 128 = 114) (star : Bool) (h : UEnd [92, 114] star ⟨#[13]⟩ true) (w : World) :
    Calls Tryd.prog 3 #[.int .u8 n, .bool star] w fun e w' => (e = .returned (.bool true)) ∧ Below w.heap.size w w' := by
  have hcv : (convert 24 9 (.slice (some ⟨w.heap.size, 0, none⟩) 1 1)).run Tryd.prog (w.alloc (.cells #[.int .u8 114] 5)) = .ok (.string ⟨#[114]⟩) (w.alloc (.cells #[.int .u8 114] 5)) :=
    run_convert_bytes_back _ 24 9 5 ⟨w.heap.size, 0, none⟩ 1 [114] Tryd.underlying24 Tryd.underlying5 Tryd.underlying9 (fun j hj => by
      obtain rfl : j = 0 := by simpa using hj
      show (w.alloc (.cells #[.int .u8 114] 5)).cell? ⟨w.heap.size, 0, none⟩ = _
      rw [Lib.cell_of_heap (heap_alloc_new w _)]; rfl)
  have hap : (⟨#[92]⟩ : ByteArray) ++ ⟨#[114]⟩ = ⟨[92, 114].toArray⟩ := rfl
  have hba : Below w.heap.size w (w.alloc (.cells #[.int .u8 114] 5)) := Below.alloc (Below.refl _ _) (Nat.le_refl _) _
  have c := Lib.hid (h (w.alloc (.cells #[.int .u8 114] 5)))
  clear h
  go_enter Tryd.func3, Tryd.ntmps3
  go_wp2_with fail
  refine c.out.mono ?_
  rintro e w1 ⟨rfl, hb⟩
  have HB := Lib.hid (hba.trans (hb.mono hba.size))
  clear hb hba
  have hx : ([13] : List UInt8) = ((⟨#[10, 13, 9, 0, 92, 39, 34]⟩ : ByteArray).extract 1 2).toList := by decide +kernel
  go_wp2
  refine wp_loop_rounds 2 ?_
  rw [rounds_succ]
  go_wp2
  rw [rounds_succ]
  go_wp2
  go_ret
  exact ⟨rfl, HB.out⟩
theorem law_ok116 (n : Int) (hm : Int.tmod n 128 = 116) (star : Bool) (h : UEnd [92, 116] star ⟨#[9]⟩ true) (w : World) :
    Calls Tryd.prog 3 #[.int .u8 n, .bool star] w fun e w' => (e = .returned (.bool true)) ∧ Below w.heap.size w w' := by
  have hcv : (convert 24 9 (.slice (some ⟨w.heap.size, 0, none⟩) 1 1)).run Tryd.prog (w.alloc (.cells #[.int .u8 116] 5)) = .ok (.string ⟨#[116]⟩) (w.alloc (.cells #[.int .u8 116] 5)) :=
    run_convert_bytes_back _ 24 9 5 ⟨w.heap.size, 0, none⟩ 1 [116] Tryd.underlying24 Tryd.underlying5 Tryd.underlying9 (fun j hj => by
      obtain rfl : j = 0 := by simpa using hj
      show (w.alloc (.cells #[.int .u8 116] 5)).cell? ⟨w.heap.size, 0, none⟩ = _
      rw [Lib.cell_of_heap (heap_alloc_new w _)]; rfl)
  have hap : (⟨#[92]⟩ : ByteArray) ++ ⟨#[116]⟩ = ⟨[92, 116].toArray⟩ := rfl
  have hba : Below w.heap.size w (w.alloc (.cells #[.int .u8 116] 5)) := Below.alloc (Below.refl _ _) (Nat.le_refl _) _
  have c := Lib.hid (h (w.alloc (.cells #[.int .u8 116] 5)))
  clear h
  go_enter Tryd.func3, Tryd.ntmps3
  go_wp2_with fail
  refine c.out.mono ?_
  rintro e w1 ⟨rfl, hb⟩
  have HB := Lib.hid (hba.trans (hb.mono hba.size))
  clear hb hba
  have hx : ([9] : List UInt8) = ((⟨#[10, 13, 9, 0, 92, 39, 34]⟩ : ByteArray).extract 2 3).toList := by decide +kernel
  go_wp2
  refine wp_loop_rounds 3 ?_
  rw [rounds_succ]
  go_wp2
  rw [rounds_succ]
  go_wp2
  rw [rounds_succ]
  go_wp2
  go_ret
  exact ⟨rfl, HB.out⟩
theorem law_ok48 (n : Int) (hm : Int.tmod n 128 = 48) (star : Bool) (h : UEnd [92, 48] star ⟨#[0]⟩ true) (w : World) :
    Calls Tryd.prog 3 #[.int .u8 n, .bool star] w fun e w' => (e = .returned (.bool true)) ∧ Below w.heap.size w w' := by
  have hcv : (convert 24 9 (.slice (some ⟨w.heap.size, 0, none⟩) 1 1)).run Tryd.prog (w.alloc (.cells #[.int .u8 48] 5)) = .ok (.string ⟨#[48]⟩) (w.alloc (.cells #[.int .u8 48] 5)) :=
    run_convert_bytes_back _ 24 9 5 ⟨w.heap.size, 0, none⟩ 1 [48] Tryd.underlying24 Tryd.underlying5 Tryd.underlying9 (fun j hj => by
      obtain rfl : j = 0 := by simpa using hj
      show (w.alloc (.cells #[.int .u8 48] 5)).cell? ⟨w.heap.size, 0, none⟩ = _
      rw [Lib.cell_of_heap (heap_alloc_new w _)]; rfl)
  have hap : (⟨#[92]⟩ : ByteArray) ++ ⟨#[48]⟩ = ⟨[92, 48].toArray⟩ := rfl
  have hba : Below w.heap.size w (w.alloc (.cells #[.int .u8 48] 5)) := Below.alloc (Below.refl _ _) (Nat.le_refl _) _
  have c := Lib.hid (h (w.alloc (.cells #[.int .u8 48] 5)))
  clear h
  go_enter Tryd.func3, Tryd.ntmps3
  go_wp2_with fail
  refine c.out.mono ?_
  rintro e w1 ⟨rfl, hb⟩
  have HB := Lib.hid (hba.trans (hb.mono hba.size))
  clear hb hba
  have hx : ([0] : List UInt8) = ((⟨#[10, 13, 9, 0, 92, 39, 34]⟩ : ByteArray).extract 3 4).toList := by decide +kernel
  go_wp2
  refine wp_loop_rounds 4 ?_
  rw [rounds_succ]
  go_wp2
  rw [rounds_succ]
  go_wp2
  rw [rounds_succ]
  go_wp2
  rw [rounds_succ]
  go_wp2
  go_ret
  exact ⟨rfl, HB.out⟩
theorem law_ok92 (n : Int) (hm : Int.tmod n 128 = 92) (star : Bool) (h : UEnd [92, 92] star ⟨#[92]⟩ true) (w : World) :
    Calls Tryd.prog 3 #[.int .u8 n, .bool star] w fun e w' => (e = .returned (.bool true)) ∧ Below w.heap.size w w' := by
  have hcv : (convert 24 9 (.slice (some ⟨w.heap.size, 0, none⟩) 1 1)).run Tryd.prog (w.alloc (.cells #[.int .u8 92] 5)) = .ok (.string ⟨#[92]⟩) (w.alloc (.cells #[.int .u8 92] 5)) :=
    run_convert_bytes_back _ 24 9 5 ⟨w.heap.size, 0, none⟩ 1 [92] Tryd.underlying24 Tryd.underlying5 Tryd.underlying9 (fun j hj => by
      obtain rfl : j = 0 := by simpa using hj
      show (w.alloc (.cells #[.int .u8 92] 5)).cell? ⟨w.heap.size, 0, none⟩ = _
      rw [Lib.cell_of_heap (heap_alloc_new w _)]; rfl)
  have hap : (⟨#[92]⟩ : ByteArray) ++ ⟨#[92]⟩ = ⟨[92, 92].toArray⟩ := rfl
  have hba : Below w.heap.size w (w.alloc (.cells #[.int .u8 92] 5)) := Below.alloc (Below.refl _ _) (Nat.le_refl _) _
  have c := Lib.hid (h (w.alloc (.cells #[.int .u8 92] 5)))
  clear h
  go_enter Tryd.func3, Tryd.ntmps3
  go_wp2_with fail
  refine c.out.mono ?_
  rintro e w1 ⟨rfl, hb⟩
  have HB := Lib.hid (hba.trans (hb.mono hba.size))
  clear hb hba
  have hx : ([92] : List UInt8) = ((⟨#[10, 13, 9, 0, 92, 39, 34]⟩ : ByteArray).extract 4 5).toList := by decide +kernel
  go_wp2
  refine wp_loop_rounds 5 ?_
  rw [rounds_succ]
  go_wp2
  rw [rounds_succ]
  go_wp2
  rw [rounds_succ]
  go_wp2
  rw [rounds_succ]
  go_wp2
  rw [rounds_succ]
  go_wp2
  go_ret
  exact ⟨rfl, HB.out⟩
theorem law_ok39 (n : Int) (hm : Int.tmod n 128 = 39) (star : Bool) (h : UEnd [92, 39] star ⟨#[39]⟩ true) (w : World) :
    Calls Tryd.prog 3 #[.int .u8 n, .bool star] w fun e w' => (e = .returned (.bool true)) ∧ Below w.heap.size w w' := by
  have hcv : (convert 24 9 (.slice (some ⟨w.heap.size, 0, none⟩) 1 1)).run Tryd.prog (w.alloc (.cells #[.int .u8 39] 5)) = .ok (.string ⟨#[39]⟩) (w.alloc (.cells #[.int .u8 39] 5)) :=
    run_convert_bytes_back _ 24 9 5 ⟨w.heap.size, 0, none⟩ 1 [39] Tryd.underlying24 Tryd.underlying5 Tryd.underlying9 (fun j hj => by
      obtain rfl : j = 0 := by simpa using hj
      show (w.alloc (.cells #[.int .u8 39] 5)).cell? ⟨w.heap.size, 0, none⟩ = _
      rw [Lib.cell_of_heap (heap_alloc_new w _)]; rfl)
  have hap : (⟨#[92]⟩ : ByteArray) ++ ⟨#[39]⟩ = ⟨[92, 39].toArray⟩ := rfl
  have hba : Below w.heap.size w (w.alloc (.cells #[.int .u8 39] 5)) := Below.alloc (Below.refl _ _) (Nat.le_refl _) _
  have c := Lib.hid (h (w.alloc (.cells #[.int .u8 39] 5)))
  clear h
  go_enter Tryd.func3, Tryd.ntmps3
  go_wp2_with fail
  refine c.out.mono ?_
  rintro e w1 ⟨rfl, hb⟩
  have HB := Lib.hid (hba.trans (hb.mono hba.size))
  clear hb hba
  have hx : ([39] : List UInt8) = ((⟨#[10, 13, 9, 0, 92, 39, 34]⟩ : ByteArray).extract 5 6).toList := by decide +kernel
  go_wp2
  refine wp_loop_rounds 6 ?_
  rw [rounds_succ]
  go_wp2
  rw [rounds_succ]
  go_wp2
  rw [rounds_succ]
  go_wp2
  rw [rounds_succ]
  go_wp2
  rw [rounds_succ]
  go_wp2
  rw [rounds_succ]
  go_wp2
  go_ret
  exact ⟨rfl, HB.out⟩
theorem law_ok34 (n : Int) (hm : Int.tmod n 128 = 34) (star : Bool) (h : UEnd [92, 34] star ⟨#[34]⟩ true) (w : World) :
    Calls Tryd.prog 3 #[.int .u8 n, .bool star] w fun e w' => (e = .returned (.bool true)) ∧ Below w.heap.size w w' := by
  have hcv : (convert 24 9 (.slice (some ⟨w.heap.size, 0, none⟩) 1 1)).run Tryd.prog (w.alloc (.cells #[.int .u8 34] 5)) = .ok (.string ⟨#[34]⟩) (w.alloc (.cells #[.int .u8 34] 5)) :=
    run_convert_bytes_back _ 24 9 5 ⟨w.heap.size, 0, none⟩ 1 [34] Tryd.underlying24 Tryd.underlying5 Tryd.underlying9 (fun j hj => by
      obtain rfl : j = 0 := by simpa using hj
      show (w.alloc (.cells #[.int .u8 34] 5)).cell? ⟨w.heap.size, 0, none⟩ = _
      rw [Lib.cell_of_heap (heap_alloc_new w _)]; rfl)
  have hap : (⟨#[92]⟩ : ByteArray) ++ ⟨#[34]⟩ = ⟨[92, 34].toArray⟩ := rfl
  have hba : Below w.heap.size w (w.alloc (.cells #[.int .u8 34] 5)) := Below.alloc (Below.refl _ _) (Nat.le_refl _) _
  have c := Lib.hid (h (w.alloc (.cells #[.int .u8 34] 5)))
  clear h
  go_enter Tryd.func3, Tryd.ntmps3
  go_wp2_with fail
  refine c.out.mono ?_
  rintro e w1 ⟨rfl, hb⟩
  have HB := Lib.hid (hba.trans (hb.mono hba.size))
  clear hb hba
  go_wp2
  refine wp_loop_rounds 7 ?_
  rw [rounds_succ]
  go_wp2
  rw [rounds_succ]
  go_wp2
  rw [rounds_succ]
  go_wp2
  rw [rounds_succ]
  go_wp2
  rw [rounds_succ]
  go_wp2
  rw [rounds_succ]
  go_wp2
  rw [rounds_succ]
  have hx : (⟨#[10, 13, 9, 0, 92, 39, 34]⟩ : ByteArray).extract 6 7 = ⟨#[34]⟩ := by decide +kernel
  go_wp2
  go_ret
  exact ⟨rfl, HB.out⟩
theorem law_other (n : Int) (x : UInt8) (hm : Int.tmod n 128 = x.toNat) (star : Bool) (h : UEnd [92, x] star ⟨#[]⟩ false) (h7 : UEnd [97] false ⟨#[97]⟩ true)
    (m0 : ¬ (110 : Int) = x.toNat) (m1 : ¬ (114 : Int) = x.toNat) (m2 : ¬ (116 : Int) = x.toNat) (m3 : ¬ (48 : Int) = x.toNat) (m4 : ¬ (92 : Int) = x.toNat) (m5 : ¬ (39 : Int) = x.toNat) (m6 : ¬ (34 : Int) = x.toNat) (n7 : ¬ (x.toNat : Int) = 120) (n8 : ¬ (x.toNat : Int) = 117) (n9 : ¬ (x.toNat : Int) = 42) (w : World) :
    Calls Tryd.prog 3 #[.int .u8 n, .bool star] w fun e w' => (e = .returned (.bool true)) ∧ Below w.heap.size w w' := by
  have hcv : (convert 24 9 (.slice (some ⟨w.heap.size, 0, none⟩) 1 1)).run Tryd.prog (w.alloc (.cells #[.int .u8 x.toNat] 5)) = .ok (.string ⟨#[x]⟩) (w.alloc (.cells #[.int .u8 x.toNat] 5)) :=
    run_convert_bytes_back _ 24 9 5 ⟨w.heap.size, 0, none⟩ 1 [x] Tryd.underlying24 Tryd.underlying5 Tryd.underlying9 (fun j hj => by
      obtain rfl : j = 0 := by simpa using hj
      show (w.alloc (.cells #[.int .u8 x.toNat] 5)).cell? ⟨w.heap.size, 0, none⟩ = _
      rw [Lib.cell_of_heap (heap_alloc_new w _)]; rfl)
  have hap : (⟨#[92]⟩ : ByteArray) ++ ⟨#[x]⟩ = ⟨[92, x].toArray⟩ := rfl
  have hba : Below w.heap.size w (w.alloc (.cells #[.int .u8 x.toNat] 5)) := Below.alloc (Below.refl _ _) (Nat.le_refl _) _
  have c := Lib.hid (h (w.alloc (.cells #[.int .u8 x.toNat] 5)))
  clear h
  have c7 := Lib.hid (reads7 h7)
  clear h7
  generalize (x.toNat : Int) = c0 at *
  have b7 : (c0 == 120) = false := by simp [n7]
  have b8 : (c0 == 117) = false := by simp [n8]
  have b9 : (c0 == 42) = false := by simp [n9]
  have f0 : (((⟨#[110, 114, 116, 48, 92, 39, 34]⟩ : ByteArray)[0].toNat : Int) == c0) = false := by simp only [beq_eq_false_iff_ne]; exact m0
  have f1 : (((⟨#[110, 114, 116, 48, 92, 39, 34]⟩ : ByteArray)[1].toNat : Int) == c0) = false := by simp only [beq_eq_false_iff_ne]; exact m1
  have f2 : (((⟨#[110, 114, 116, 48, 92, 39, 34]⟩ : ByteArray)[2].toNat : Int) == c0) = false := by simp only [beq_eq_false_iff_ne]; exact m2
  have f3 : (((⟨#[110, 114, 116, 48, 92, 39, 34]⟩ : ByteArray)[3].toNat : Int) == c0) = false := by simp only [beq_eq_false_iff_ne]; exact m3
  have f4 : (((⟨#[110, 114, 116, 48, 92, 39, 34]⟩ : ByteArray)[4].toNat : Int) == c0) = false := by simp only [beq_eq_false_iff_ne]; exact m4
  have f5 : (((⟨#[110, 114, 116, 48, 92, 39, 34]⟩ : ByteArray)[5].toNat : Int) == c0) = false := by simp only [beq_eq_false_iff_ne]; exact m5
  have f6 : (((⟨#[110, 114, 116, 48, 92, 39, 34]⟩ : ByteArray)[6].toNat : Int) == c0) = false := by simp only [beq_eq_false_iff_ne]; exact m6
  clear m0 m1 m2 m3 m4 m5 m6 n7 n8 n9
  go_enter Tryd.func3, Tryd.ntmps3
  go_wp2_with fail
  refine c.out.mono ?_
  rintro e w1 ⟨rfl, hb⟩
  have HB := Lib.hid (hba.trans (hb.mono hba.size))
  clear hb hba
  go_wp2
  refine wp_loop_rounds 8 ?_
  rw [rounds_succ]
  go_wp2_with fail
  rw [rounds_succ]
  go_wp2_with fail
  rw [rounds_succ]
  go_wp2_with fail
  rw [rounds_succ]
  go_wp2_with fail
  rw [rounds_succ]
  go_wp2_with fail
  rw [rounds_succ]
  go_wp2_with fail
  rw [rounds_succ]
  go_wp2_with fail
  rw [rounds_succ]
  go_wp2_with fail
  refine (c7.out w1).mono ?_
  rintro e w2 ⟨rfl, hb2⟩
  go_wp2
  go_ret
  exact ⟨rfl, HB.out.trans (hb2.mono HB.out.size)⟩
theorem law_early120 (n : Int) (hm : Int.tmod n 128 = 120) (star : Bool) (w : World) :
    Calls Tryd.prog 3 #[.int .u8 n, .bool star] w fun e w' => (e = .returned (.bool true)) ∧ Below w.heap.size w w' := by
  go_enter Tryd.func3, Tryd.ntmps3
  go_wp2
  go_ret
  exact ⟨rfl, Below.refl _ _⟩
theorem law_early117 (n : Int) (hm : Int.tmod n 128 = 117) (star : Bool) (w : World) :
    Calls Tryd.prog 3 #[.int .u8 n, .bool star] w fun e w' => (e = .returned (.bool true)) ∧ Below w.heap.size w w' := by
  go_enter Tryd.func3, Tryd.ntmps3
  go_wp2
  go_ret
  exact ⟨rfl, Below.refl _ _⟩
theorem law_early42 (n : Int) (hm : Int.tmod n 128 = 42) (star : Bool) (w : World) :
    Calls Tryd.prog 3 #[.int .u8 n, .bool star] w fun e w' => (e = .returned (.bool true)) ∧ Below w.heap.size w w' := by
  go_enter Tryd.func3, Tryd.ntmps3
  go_wp2
  go_ret
  exact ⟨rfl, Below.refl _ _⟩
theorem law (n : Int) (x : UInt8) (hm : Int.tmod n 128 = x.toNat) (hx : x.toNat < 128) (star : Bool) (w : World) :
    Calls Tryd.prog 3 #[.int .u8 n, .bool star] w fun e w' => (e = .returned (.bool true)) ∧ Below w.heap.size w w' := by
  have no : ∀ c : Nat, x.toNat = c → c < 256 → x = UInt8.ofNat c := fun c h _ => by rw [← h]; simp
  by_cases n110 : x.toNat = 110
  · obtain rfl := no _ n110 (by decide)
    exact law_ok110 n hm star (unescape _ _ _ _ (unq_is_110 star)) w
  by_cases n114 : x.toNat = 114
  · obtain rfl := no _ n114 (by decide)
    exact law_ok114 n hm star (unescape _ _ _ _ (unq_is_114 star)) w
  by_cases n116 : x.toNat = 116
  · obtain rfl := no _ n116 (by decide)
    exact law_ok116 n hm star (unescape _ _ _ _ (unq_is_116 star)) w
  by_cases n48 : x.toNat = 48
  · obtain rfl := no _ n48 (by decide)
    exact law_ok48 n hm star (unescape _ _ _ _ (unq_is_48 star)) w
  by_cases n92 : x.toNat = 92
  · obtain rfl := no _ n92 (by decide)
    exact law_ok92 n hm star (unescape _ _ _ _ (unq_is_92 star)) w
  by_cases n39 : x.toNat = 39
  · obtain rfl := no _ n39 (by decide)
    exact law_ok39 n hm star (unescape _ _ _ _ (unq_is_39 star)) w
  by_cases n34 : x.toNat = 34
  · obtain rfl := no _ n34 (by decide)
    exact law_ok34 n hm star (unescape _ _ _ _ (unq_is_34 star)) w
  by_cases n120 : x.toNat = 120
  · exact law_early120 n (by omega) star w
  by_cases n117 : x.toNat = 117
  · exact law_early117 n (by omega) star w
  by_cases n42 : x.toNat = 42
  · exact law_early42 n (by omega) star w
  exact law_other n x hm star (unescape _ _ _ _ (unq_is_err x star hx (by omega) (by omega) (by omega) (by omega) (by omega) (by omega) (by omega) (by omega) (by omega) (by omega))) (unescape _ _ _ _ unq_is_a)
    (by omega) (by omega) (by omega) (by omega) (by omega) (by omega) (by omega) (by omega) (by omega) (by omega) w
end Go.Proofs.YtiidebhepilgiaaDoorR
