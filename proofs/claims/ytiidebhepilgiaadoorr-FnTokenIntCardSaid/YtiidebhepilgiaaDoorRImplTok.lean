import Derived.Test.YtiidebhepilgiaaDoorRTokens
import Derived.Deep.CutBlock
/-
  impl.Tokens of a row of digits.
-/
namespace Go.Proofs.YtiidebhepilgiaaDoorR
open Go.RowKit
set_option maxRecDepth 1000000
theorem newBuf (g0 n cap : Nat) (w : World) : Calls Tryd.prog 18 #[.slice (some ⟨g0, 0, none⟩) n cap] w fun e w' => e = .returned (.pointer (some ⟨w.heap.size, 0, none⟩)) ∧ w' = w.alloc (.cells #[.slice (some ⟨g0, 0, none⟩) n cap, .int .i64 0, .int .i8 0] 74) := by
  go_enter Tryd.func18, Tryd.ntmps18
  go_wp2
  go_ret
  exact ⟨rfl, rfl⟩
theorem tokenize (g0 n cap : Nat) (ea : Addr) (l : List UInt8) (w : World) (hr : Row g0 l w) (hg : g0 < w.heap.size) (h2 : 2 < w.heap.size) (hl : l.length = n) (hn0 : 1 ≤ n) (hn1 : n ≤ 60) (hnc : n ≤ cap)
    (hdig : ∀ j (hj : j < l.length), 48 ≤ l[j].toNat ∧ l[j].toNat ≤ 57) (hT : ∀ x, 48 ≤ x → x ≤ 57 → w.cell? ⟨0, x, none⟩ = some (.int .u8 240)) (hE : w.cell? ⟨2, 0, none⟩ = some (.iface 65 (.pointer (some ea)))) :
    Calls Tryd.prog 10 #[.slice (some ⟨g0, 0, none⟩) n cap] w fun e w' => ∃ g cp, e = .returned (.tuple #[.slice (some ⟨g, 0, none⟩) 2 cp, .nilIface]) ∧ (∀ j v, (tok1 l ++ tok2 n)[j]? = some v → w'.cell? ⟨g, j, none⟩ = some v) ∧ Below w.heap.size w w' := by
  have hb : Below w.heap.size w (w.alloc (.cells #[.slice (some ⟨g0, 0, none⟩) n cap, .int .i64 0, .int .i8 0] 74)) := Below.alloc (Below.refl _ _) (Nat.le_refl _) _
  have T := Lib.hid (tokens w.heap.size g0 n cap ea l _ (heap_alloc_new w (.cells #[.slice (some ⟨g0, 0, none⟩) n cap, .int .i64 0, .int .i8 0] 74)) (hr.of (hb.block g0 hg)) hg h2 hl hn0 hn1 hnc hdig (fun x h1 h2 => (hb.cell (p := ⟨0, x, none⟩) (by show 0 < _; omega)).trans (hT x h1 h2)) ((hb.cell (p := ⟨2, 0, none⟩) h2).trans hE))
  have HB := Lib.hid hb
  clear hb hr hdig hT hE
  go_enter Tryd.func10, Tryd.ntmps10
  go_wp2_with fail
  refine (newBuf g0 n cap w).mono ?_
  rintro e w' ⟨rfl, rfl⟩
  go_wp2_with fail
  refine T.out.mono ?_
  rintro e w1 ⟨g, cp, rfl, hc, hb⟩
  have HC := Lib.hid hc
  have HB1 := Lib.hid hb
  clear hc hb
  go_wp2
  go_ret2
  exact ⟨g, cp, rfl, HC.out, HB.out.trans HB1.out⟩
def kc1 (l : List UInt8) : List Value := [.int .i64 2, .string ⟨l.toArray⟩, .int .i64 0, .int .i64 1, .int .i64 1]
def kc2 (n : Nat) : List Value := [.int .i64 0, .string ⟨#[]⟩, .int .i64 n, .int .i64 1, .int .i64 (n + 1)]
theorem implTokens (n : Nat) (ea : Addr) (l : List UInt8) (w : World) (h2 : 2 < w.heap.size) (hl : l.length = n) (hn0 : 1 ≤ n) (hn1 : n ≤ 60)
    (hdig : ∀ j (hj : j < l.length), 48 ≤ l[j].toNat ∧ l[j].toNat ≤ 57) (hT : ∀ x, 48 ≤ x → x ≤ 57 → w.cell? ⟨0, x, none⟩ = some (.int .u8 240)) (hE : w.cell? ⟨2, 0, none⟩ = some (.iface 65 (.pointer (some ea)))) :
    Calls Tryd.prog 8 #[.string ⟨l.toArray⟩] w fun e w' => ∃ g cp, e = .returned (.tuple #[.slice (some ⟨g, 0, none⟩) 2 cp, .bool true]) ∧ (∀ j v, (kc1 l)[j]? = some v → w'.cell? ⟨g, j, none⟩ = some v) ∧ Below w.heap.size w w' ∧ 2 ≤ cp := by
  have hcv := run_bytes_of_string w 9 24 5 ⟨l.toArray⟩ Tryd.underlying9 Tryd.underlying24 Tryd.underlying5
  have hcap : l.length ≤ grownCap w l.length 0 5 := grownCap_ge _ _ _ _
  have hsz : (⟨l.toArray⟩ : ByteArray).size = l.length := rfl
  rw [hsz] at hcv
  generalize hcp : grownCap w l.length 0 5 = cap at *
  have hrow : Row w.heap.size l (w.drew.alloc (.cells (bytesRow ⟨l.toArray⟩ cap) 5 ((bytesRow ⟨l.toArray⟩ cap).size, (bytesRow ⟨l.toArray⟩ cap).size + 1))) := by
    intro j h
    have hh : (w.drew.alloc (.cells (bytesRow ⟨l.toArray⟩ cap) 5 ((bytesRow ⟨l.toArray⟩ cap).size, (bytesRow ⟨l.toArray⟩ cap).size + 1))).heap[w.heap.size]? = some (.cells (bytesRow ⟨l.toArray⟩ cap) 5 ((bytesRow ⟨l.toArray⟩ cap).size, (bytesRow ⟨l.toArray⟩ cap).size + 1)) := heap_alloc_new w.drew _
    rw [Lib.cell_of_heap hh]
    simp [bytesRow, Array.getElem?_append, h]
  have hb : Below w.heap.size w (w.drew.alloc (.cells (bytesRow ⟨l.toArray⟩ cap) 5 ((bytesRow ⟨l.toArray⟩ cap).size, (bytesRow ⟨l.toArray⟩ cap).size + 1))) := Below.alloc (Below.refl _ _).drew (Nat.le_refl _) _
  have hz : w.heap.size < (w.drew.alloc (.cells (bytesRow ⟨l.toArray⟩ cap) 5 ((bytesRow ⟨l.toArray⟩ cap).size, (bytesRow ⟨l.toArray⟩ cap).size + 1))).heap.size := by
    show w.heap.size < (w.heap.push _).size
    simp
  generalize (w.drew.alloc (.cells (bytesRow ⟨l.toArray⟩ cap) 5 ((bytesRow ⟨l.toArray⟩ cap).size, (bytesRow ⟨l.toArray⟩ cap).size + 1)) : World) = W at *
  rw [hl] at hcv hcap
  have T := Lib.hid (tokenize w.heap.size n cap ea l W hrow hz (by omega) hl hn0 hn1 hcap hdig (fun x h1 h2 => (hb.cell (p := ⟨0, x, none⟩) (by show 0 < _; omega)).trans (hT x h1 h2)) ((hb.cell (p := ⟨2, 0, none⟩) h2).trans hE))
  have HB := Lib.hid hb
  have HZ := Lib.hid hz
  clear hb hrow hdig hT hE hcp hz hcap hsz
  go_enter Tryd.func8, Tryd.ntmps8
  go_wp2_with fail
  refine T.out.mono ?_
  rintro e W1 ⟨g, cp, rfl, hc, hb1⟩
  have bw1 : Below w.heap.size w W1 := HB.out.trans (hb1.mono (by have := HZ.out; omega))
  have hz1 : W.heap.size ≤ W1.heap.size := hb1.size
  have e0 := hc 0 _ rfl
  have hg : g < W1.heap.size := World.block_lt_of_cell? _ _ e0
  have HC := Lib.hid hc
  have BW1 := Lib.hid bw1
  clear hc hb1 bw1 e0
  go_wp2_with fail
  obtain ⟨i0, hi, hz⟩ := Option.map_eq_some_iff.1 (show (Tryd.prog.info? 33).map (fun i => (i.zero, i.size, i.bytes)) = some (some (.agg #[.int .i64 0, .string ⟨#[]⟩, .int .i64 0, .int .i64 0, .int .i64 0]), 5, 48) by kernel_rfl)
  simp only [Prod.mk.injEq] at hz
  obtain ⟨hz0, hzz1, hzz2⟩ := hz
  have ad : ∀ (t j : Nat), Addr.add ⟨t, 0, none⟩ j = ⟨t, j, none⟩ := fun t j => by cases j <;> simp [Addr.add]
  have x0 := HC.out 0 _ rfl
  have x1 := HC.out 1 _ rfl
  have x2 := HC.out 2 _ rfl
  have x3 := HC.out 3 _ rfl
  have x4 := HC.out 4 _ rfl
  have x5 := HC.out 5 _ rfl
  have n6 := news6 W1 (tok1 l) 46
  have e0 := n6 0 _ rfl
  have e1 := n6 1 _ rfl
  have e2 := n6 2 _ rfl
  have e3 := n6 3 _ rfl
  have e4 := n6 4 _ rfl
  have e5 := n6 5 _ rfl
  simp only [ad] at e0 e1 e2 e3 e4 e5
  have nn : ∀ j u, (kc1 l)[j]? = some u → ((W1.alloc (.cells (tok1 l).toArray 46)).alloc (.cells (kc1 l).toArray 33)).cell? ((⟨W1.heap.size + 1, 0, none⟩ : Addr).add j) = some u := by
    have := news6 (W1.alloc (.cells (tok1 l).toArray 46)) (kc1 l) 33
    simpa using this
  have NN := Lib.hid nn
  clear n6 nn T
  have hzw : w.heap.size < W1.heap.size := by have := HZ.out; omega
  refine wp_loop_rounds 3 ?_
  rw [rounds_succ]
  go_upto_region 8 with (at_builtin; refine wpList_append_lies _ rfl _ _ 29 (by rfl) w.heap.size 33 i0 (.agg #[.int .i64 0, .string ⟨#[]⟩, .int .i64 0, .int .i64 0, .int .i64 0]) 5 48 Tryd.underlying29 hi hz0 hzz1 hzz2 rfl (by decide) _ 0 [] (by rfl) (World.ownsRow_nil _ _ _ _) ⟨W1.heap.size + 1, 0, none⟩ 1 1 (kc1 l) (by rfl) rfl NN.out (fun u hu => by simp [kc1] at hu; rcases hu with rfl | rfl | rfl | rfl | rfl <;> rfl) (by decide) (by decide) (by decide) (by simp; omega) (W1.heap.size + 2) (by simp) ?_; intro gg cap2 w5 hown1 hgrow hat hlt)
  have b5 : Below W1.heap.size W1 w5 := ((Below.alloc (Below.refl _ _) (Nat.le_refl _) _).alloc (by simp) _).grown hgrow (by simp; omega) (by simp [Value.ownBlock])
  have z5 : W1.heap.size < w5.heap.size := by
    have := hgrow.size
    simp at this
    omega
  have hgl : gg < w5.heap.size := hlt
  have O5 := Lib.hid hown1
  have B5 := Lib.hid b5
  have y0 : w5.cell? ⟨g, 6, none⟩ = _ := (b5.cell (p := ⟨g, 6, none⟩) hg).trans (HC.out 6 _ rfl)
  have y1 : w5.cell? ⟨g, 7, none⟩ = _ := (b5.cell (p := ⟨g, 7, none⟩) hg).trans (HC.out 7 _ rfl)
  have y2 : w5.cell? ⟨g, 8, none⟩ = _ := (b5.cell (p := ⟨g, 8, none⟩) hg).trans (HC.out 8 _ rfl)
  have y3 : w5.cell? ⟨g, 9, none⟩ = _ := (b5.cell (p := ⟨g, 9, none⟩) hg).trans (HC.out 9 _ rfl)
  have y4 : w5.cell? ⟨g, 10, none⟩ = _ := (b5.cell (p := ⟨g, 10, none⟩) hg).trans (HC.out 10 _ rfl)
  have y5 : w5.cell? ⟨g, 11, none⟩ = _ := (b5.cell (p := ⟨g, 11, none⟩) hg).trans (HC.out 11 _ rfl)
  have n6 := news6 w5 (tok2 n) 46
  have v0 := n6 0 _ rfl
  have v1 := n6 1 _ rfl
  have v2 := n6 2 _ rfl
  have v3 := n6 3 _ rfl
  have v4 := n6 4 _ rfl
  have v5 := n6 5 _ rfl
  simp only [ad] at v0 v1 v2 v3 v4 v5
  have nn : ∀ j u, (kc2 n)[j]? = some u → ((w5.alloc (.cells (tok2 n).toArray 46)).alloc (.cells (kc2 n).toArray 33)).cell? ((⟨w5.heap.size + 1, 0, none⟩ : Addr).add j) = some u := by
    have := news6 (w5.alloc (.cells (tok2 n).toArray 46)) (kc2 n) 33
    simpa using this
  have NN2 := Lib.hid nn
  clear n6 nn NN x0 x1 x2 x3 x4 x5 e0 e1 e2 e3 e4 e5 hown1 hgrow hat b5
  have hzz : w.heap.size < w5.heap.size := by omega
  go_wp2
  rw [rounds_succ]
  go_upto_region 8 with (at_builtin; refine wpList_append_lies _ rfl _ _ 29 (by rfl) w.heap.size 33 i0 (.agg #[.int .i64 0, .string ⟨#[]⟩, .int .i64 0, .int .i64 0, .int .i64 0]) 5 48 Tryd.underlying29 hi hz0 hzz1 hzz2 rfl (by decide) _ 1 (kc1 l) (by rfl) ((O5.out.alloc _).alloc _) ⟨w5.heap.size + 1, 0, none⟩ 1 1 (kc2 n) (by rfl) rfl NN2.out (fun u hu => by simp [kc2] at hu; rcases hu with rfl | rfl | rfl | rfl | rfl <;> rfl) (by decide) (by decide) (by decide) (by simp; omega) (w5.heap.size + 2) (by simp) ?_; intro g9 cap9 w9 hown9 hgrow9 hat9 hlt9)
  have b9 : Below w.heap.size w5 w9 := ((Below.alloc (Below.refl _ _) (by omega) _).alloc (by simp; omega) _).grown hgrow9 (by simp; omega) (by simp [Value.ownBlock]; exact (O5.out.lt gg rfl).1)
  have O9 := Lib.hid hown9
  have B9 := Lib.hid b9
  clear y0 y1 y2 y3 y4 y5 v0 v1 v2 v3 v4 v5 NN2 hown9 hgrow9 hat9 b9
  go_wp2
  rw [rounds_succ]
  go_wp2
  go_ret2
  refine ⟨g9, cap9, rfl, fun j v hv => ?_, BW1.out.trans ((B5.out.mono (by omega)).trans B9.out), ?_⟩
  · have := O9.out.cells (g := g9) rfl j v (by
      rw [List.getElem?_append_left (by have := (List.getElem?_eq_some_iff.1 hv).1; exact this)]; exact hv)
    rwa [ad] at this
  · rcases O9.out.2 with ⟨hn, _⟩ | ⟨_, c', _, hv, _, _, h3, _⟩
    · cases hn
    · cases hv; exact h3
end Go.Proofs.YtiidebhepilgiaaDoorR
