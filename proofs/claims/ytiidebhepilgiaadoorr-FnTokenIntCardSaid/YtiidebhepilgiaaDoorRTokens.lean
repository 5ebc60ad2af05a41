import Derived.Test.YtiidebhepilgiaaDoorRTokEnd
import Derived.Deep.AppendLies
import Derived.Deep.CutBlock
/-
  parser.TokenizeReader of a row of digits.
-/
namespace Go.Proofs.YtiidebhepilgiaaDoorR
open Go.RowKit
set_option maxRecDepth 1000000
noncomputable def C76 : Nat → Value := fun i => Tryd.zeroCells76.getD i undef
theorem new76 (w : World) : Sc w.heap.size C76 (w.alloc (.cells Tryd.zeroCells76 76)) := by
  have hs : Tryd.zeroCells76.size = 1044 := by kernel_rfl
  refine ⟨Tryd.zeroCells76, heap_alloc_new w _, hs, fun i hi => ?_⟩
  unfold C76
  simp [Array.getD, hs, hi]
theorem ini76 (b sb : Nat) (h1 : sb < b) (h2 : 2 < sb) : Ini b sb (initC C76 sb) := by
  refine ⟨h1, h2, ?_, ?_, ?_, ?_, ?_, ?_, ?_, ?_, ?_, ?_, ?_, ?_, ?_, ?_⟩
  all_goals first | rfl | (simp only [initC, upd]; kernel_rfl)
theorem news6 (w : World) (vs : List Value) (t : TypeId) : ∀ j u, vs[j]? = some u → (w.alloc (.cells vs.toArray t)).cell? ((⟨w.heap.size, 0, none⟩ : Addr).add j) = some u := by
  intro j u hu
  have ea : Addr.add ⟨w.heap.size, 0, none⟩ j = ⟨w.heap.size, j, none⟩ := by cases j <;> simp [Addr.add]
  rw [ea, Lib.cell_of_heap (heap_alloc_new w _)]
  simpa using hu
theorem owns_of {w w' : World} {base : Nat} {e : TypeId} {size g n cap : Nat} {xs : List Value} (h : w.ownsRow base e size (.slice (some ⟨g, 0, none⟩) n cap) n xs) (hh : w'.heap[g]? = w.heap[g]?) : w'.ownsRow base e size (.slice (some ⟨g, 0, none⟩) n cap) n xs := by
  refine ⟨h.1, ?_⟩
  rcases h.2 with ⟨hn, _⟩ | ⟨g', cap', cur, hv, hb, hgg, rest⟩
  · cases hn
  · refine .inr ⟨g', cap', cur, hv, hb, ?_, rest⟩
    have : g = g' := by simpa using congrArg (fun v => match v with | Value.slice (some a) _ _ => a.block | _ => 0) hv
    subst this
    exact hh.trans hgg
def tok1 (l : List UInt8) : List Value := [.int .i64 2, .string ⟨#[]⟩, .int .i64 0, .int .i64 1, .int .i64 1, .string ⟨l.toArray⟩]
def tok2 (n : Nat) : List Value := [.int .i64 0, .string ⟨#[]⟩, .int .i64 n, .int .i64 1, .int .i64 (n + 1), .string ⟨#[]⟩]
set_option maxHeartbeats 16000000 in
theorem tokens (sb g0 n cap : Nat) (ea : Addr) (l : List UInt8) (w : World) (hs : Src sb g0 n cap 0 0 w) (hr : Row g0 l w) (hg : g0 < sb) (hsb2 : 2 < sb) (hl : l.length = n) (hn0 : 1 ≤ n) (hn1 : n ≤ 60) (hnc : n ≤ cap)
    (hdig : ∀ j (hj : j < l.length), 48 ≤ l[j].toNat ∧ l[j].toNat ≤ 57) (hT : ∀ x, 48 ≤ x → x ≤ 57 → w.cell? ⟨0, x, none⟩ = some (.int .u8 240)) (hE : w.cell? ⟨2, 0, none⟩ = some (.iface 65 (.pointer (some ea)))) :
    Calls Tryd.prog 17 #[.iface 57 (.pointer (some ⟨sb, 0, none⟩))] w fun e w' => ∃ g cp, e = .returned (.tuple #[.slice (some ⟨g, 0, none⟩) 2 cp, .nilIface]) ∧ (∀ j v, (tok1 l ++ tok2 n)[j]? = some v → w'.cell? ⟨g, j, none⟩ = some v) ∧ Below sb w w' := by
  have hslt := hs.lt
  have hb0 : Below w.heap.size w (w.alloc (.cells Tryd.zeroCells76 76)) := Below.alloc (Below.refl _ _) (Nat.le_refl _) _
  have I := Lib.hid (init w.heap.size sb C76 _ (new76 w))
  have HW1 := Lib.hid (show Src sb g0 n cap 0 0 (w.alloc (.cells Tryd.zeroCells76 76)) ∧ Row g0 l (w.alloc (.cells Tryd.zeroCells76 76)) from ⟨hs.of (hb0.block sb hslt), hr.of (hb0.block g0 (by omega))⟩)
  have HB0 := Lib.hid hb0
  have HD := Lib.hid hdig
  have HT := Lib.hid hT
  have HE := Lib.hid hE
  have HL := Lib.hid hl
  clear hs hr hb0 hdig hT hE hl
  go_enter Tryd.func17, Tryd.ntmps17
  go_wp2_with fail
  refine I.out.mono ?_
  rintro e W2 ⟨rfl, h2, b2⟩
  obtain ⟨s1, r1⟩ := HW1.out
  have s2 := s1.of (b2.block sb hslt)
  have r2 := r1.of (b2.block g0 (by omega))
  have bw2 : Below sb w W2 := (HB0.out.mono (Nat.le_of_lt hslt)).trans (b2.mono (Nat.le_of_lt hslt))
  have TF := Lib.hid (tokFirst w.heap.size sb g0 n cap ea l (initC C76 sb) W2 h2 s2 r2 (ini76 _ _ hslt hsb2) hg HL.out hn0 hn1 hnc HD.out (fun x h1 h2 => (bw2.cell (p := ⟨0, x, none⟩) (by show 0 < sb; omega)).trans (HT.out x h1 h2)) ((bw2.cell (p := ⟨2, 0, none⟩) (by show 2 < sb; omega)).trans HE.out))
  have hb2s : w.heap.size < W2.heap.size := h2.lt
  clear I HW1 h2 b2 s1 r1 s2 r2
  have BW2 := Lib.hid bw2
  clear bw2
  generalize w.heap.size = b at *
  go_wp2_with fail
  refine TF.out.mono ?_
  rintro e W3 ⟨rfl, g, D, A, h3, s3, f3⟩
  have k39 : W3.cell? ⟨b, 1039, none⟩ = some .nilIface := by rw [h3.cell 1039 (by decide), A.d39]
  obtain ⟨i0, hi, hz⟩ := Option.map_eq_some_iff.1 (show (Tryd.prog.info? 46).map (fun i => (i.zero, i.size, i.bytes)) = some (some (.agg #[.int .i64 0, .string ⟨#[]⟩, .int .i64 0, .int .i64 0, .int .i64 0, .string ⟨#[]⟩]), 6, 64) by kernel_rfl)
  simp only [Prod.mk.injEq] at hz
  obtain ⟨hz0, hz1, hz2⟩ := hz
  have hb3 : Below W3.heap.size W3 (W3.alloc (.cells (tok1 l).toArray 46)) := Below.alloc (Below.refl _ _) (Nat.le_refl _) _
  have h4 := h3.below (hb3.block b h3.lt)
  have s4 := s3.of (hb3.block sb s3.lt)
  have f4 : Fr b sb W2 (W3.alloc (.cells (tok1 l).toArray 46)) := f3.trans ⟨hb3.mono (by have := s3.lt; omega), fun k _ _ h3 => hb3.block k h3⟩
  have n4 := news6 W3 (tok1 l) 46
  have l4 : W3.heap.size < (W3.alloc (.cells (tok1 l).toArray 46)).heap.size := by simp
  have hbl : b < W3.heap.size := h3.lt
  clear h3 s3 f3 hb3
  go_wp2_with fail
  change Code.wp _ _ _ _ (W3.alloc (.cells (tok1 l).toArray 46))
  generalize W3.alloc (.cells (tok1 l).toArray 46) = W4 at *
  generalize W3.heap.size = t1 at *
  clear TF
  have c39 : W4.cell? ⟨b, 1039, none⟩ = some .nilIface := by rw [h4.cell 1039 (by decide), A.d39]
  have ad : ∀ (t j : Nat), Addr.add ⟨t, 0, none⟩ j = ⟨t, j, none⟩ := fun t j => by cases j <;> simp [Addr.add]
  have e0 := n4 0 _ rfl
  have e1 := n4 1 _ rfl
  have e2 := n4 2 _ rfl
  have e3 := n4 3 _ rfl
  have e4 := n4 4 _ rfl
  have e5 := n4 5 _ rfl
  simp only [ad] at e0 e1 e2 e3 e4 e5
  have H4 := Lib.hid h4
  have S4 := Lib.hid s4
  have F4 := Lib.hid f4
  have HA := Lib.hid A
  clear n4 h4 s4 f4 A k39
  refine wp_loop_rounds 2 ?_
  rw [rounds_succ]
  go_upto_region 8 with (at_builtin; refine wpList_append_lies _ rfl _ _ 39 (by rfl) (sb + 1) 46 i0 (.agg #[.int .i64 0, .string ⟨#[]⟩, .int .i64 0, .int .i64 0, .int .i64 0, .string ⟨#[]⟩]) 6 64 Tryd.underlying39 hi hz0 hz1 hz2 rfl (by decide) _ 0 [] (by rfl) (World.ownsRow_nil _ _ _ _) ⟨W4.heap.size, 0, none⟩ 1 1 (tok1 l) (by rfl) rfl (news6 W4 (tok1 l) 46) (fun u hu => by simp [tok1] at hu; rcases hu with rfl | rfl | rfl | rfl | rfl | rfl <;> rfl) (by decide) (by decide) (by decide) (by simp; omega) (W4.heap.size + 1) (by simp) ?_; intro gg cap2 w5 hown1 hgrow hat hlt)
  have o5 : ∀ k, k < W4.heap.size → w5.heap[k]? = W4.heap[k]? := fun k hk => (hgrow.block k (by simp; omega) (by simp [Value.ownBlock])).trans (Below.heap_alloc W4 _ k hk)
  have hgg : gg = W4.heap.size + 1 := by rcases hat with h | h; · simp [Value.ownBlock] at h
                                         · exact h
  have z5 : W4.heap.size + 1 < w5.heap.size := by omega
  have hgb : b < gg := by omega
  clear hgg
  have b5 : Below W4.heap.size W4 w5 := (Below.alloc (Below.refl _ _) (Nat.le_refl _) _).grown hgrow (by simp) (by simp [Value.ownBlock])
  have x0 : w5.cell? ⟨t1, 0, none⟩ = _ := (b5.cell (p := ⟨t1, 0, none⟩) l4).trans e0
  have x1 : w5.cell? ⟨t1, 1, none⟩ = _ := (b5.cell (p := ⟨t1, 1, none⟩) l4).trans e1
  have x2 : w5.cell? ⟨t1, 2, none⟩ = _ := (b5.cell (p := ⟨t1, 2, none⟩) l4).trans e2
  have x3 : w5.cell? ⟨t1, 3, none⟩ = _ := (b5.cell (p := ⟨t1, 3, none⟩) l4).trans e3
  have x4 : w5.cell? ⟨t1, 4, none⟩ = _ := (b5.cell (p := ⟨t1, 4, none⟩) l4).trans e4
  have x5 : w5.cell? ⟨t1, 5, none⟩ = _ := (b5.cell (p := ⟨t1, 5, none⟩) l4).trans e5
  have h5 := H4.out.below (b5.block b H4.out.lt)
  have s5 := S4.out.of (b5.block sb S4.out.lt)
  have hbs : sb < b := by have := hslt; omega
  have f5 : Fr b sb W2 w5 := F4.out.trans ⟨b5.mono (by omega), fun k _ _ h3 => b5.block k h3⟩
  -- the new token's block
  have b6 : Below w5.heap.size w5 (w5.alloc (.cells (tok1 l).toArray 46)) := Below.alloc (Below.refl _ _) (Nat.le_refl _) _
  have h6 := h5.below (b6.block b h5.lt)
  have s6 := s5.of (b6.block sb s5.lt)
  have f6 : Fr b sb W2 (w5.alloc (.cells (tok1 l).toArray 46)) := f5.trans ⟨b6.mono (by omega), fun k _ _ h3 => b6.block k h3⟩
  have own6 := owns_of (w' := w5.alloc (.cells (tok1 l).toArray 46)) hown1 (b6.block gg hlt)
  have t6 : Tk w5.heap.size (w5.alloc (.cells (tok1 l).toArray 46)) := ⟨_, heap_alloc_new w5 _, rfl⟩
  have l6 : w5.heap.size < (w5.alloc (.cells (tok1 l).toArray 46)).heap.size := by simp
  have TE := Lib.hid (tokEnd b sb g0 n cap g D _ h6 s6 HA.out hbs hn1)
  have F6 := Lib.hid f6
  have O6 := Lib.hid own6
  have T6 := Lib.hid t6
  clear c39 e0 e1 e2 e3 e4 e5 H4 S4 F4 hown1 hgrow hat o5 b5 h5 s5 f5 b6 h6 s6 f6 own6 t6
  go_wp2_with fail
  refine TE.out.mono ?_
  rintro e W7 ⟨rfl, D2, ⟨q39, q40, q41, q42, q43⟩, h7, f7⟩
  have hgl : gg < w5.heap.size := hlt
  have t7 : Tk w5.heap.size W7 := by
    obtain ⟨A, ha, hsz⟩ := T6.out
    exact ⟨A, (f7.keep _ (by omega) (by omega) l6).trans ha, hsz⟩
  have o7 := owns_of (w' := W7) O6.out (f7.keep gg (by omega) (by omega) (by omega))
  have f7w : Fr b sb W2 W7 := F6.out.trans f7
  have z7 : w5.heap.size < W7.heap.size := Nat.lt_of_lt_of_le l6 f7.below.size
  obtain ⟨t0, y0⟩ := t7.cell 0 (by omega)
  obtain ⟨t1', y1⟩ := t7.cell 1 (by omega)
  obtain ⟨t2, y2⟩ := t7.cell 2 (by omega)
  obtain ⟨t3, y3⟩ := t7.cell 3 (by omega)
  obtain ⟨t4, y4⟩ := t7.cell 4 (by omega)
  obtain ⟨t5, y5⟩ := t7.cell 5 (by omega)
  have f := t7.frozen
  clear x0 x1 x2 x3 x4 x5 TE F6 O6 T6 t7 l6 f7
  generalize w5.heap.size = u at *
  go_wp2_with fail
  have hh8 : ∀ k, k ≠ u → ((((((W7.setCell ⟨u, 0, none⟩ (.int .i64 0)).setCell ⟨u, 1, none⟩ (.string ⟨#[]⟩)).setCell ⟨u, 2, none⟩ (.int .i64 n)).setCell ⟨u, 3, none⟩ (.int .i64 1)).setCell ⟨u, 4, none⟩ (.int .i64 (n + 1))).setCell ⟨u, 5, none⟩ (.string ⟨#[]⟩)).heap[k]? = W7.heap[k]? := fun k hk => by
    rw [heap_set_ne _ _ _ _ (Ne.symm hk), heap_set_ne _ _ _ _ (Ne.symm hk), heap_set_ne _ _ _ _ (Ne.symm hk), heap_set_ne _ _ _ _ (Ne.symm hk), heap_set_ne _ _ _ _ (Ne.symm hk), heap_set_ne _ _ _ _ (Ne.symm hk)]
  have c8 : ((((((W7.setCell ⟨u, 0, none⟩ (.int .i64 0)).setCell ⟨u, 1, none⟩ (.string ⟨#[]⟩)).setCell ⟨u, 2, none⟩ (.int .i64 n)).setCell ⟨u, 3, none⟩ (.int .i64 1)).setCell ⟨u, 4, none⟩ (.int .i64 (n + 1))).setCell ⟨u, 5, none⟩ (.string ⟨#[]⟩)).cell? ⟨u, 0, none⟩ = some (.int .i64 0) := by
    rw [World.cell?_setCell_other _ _ _ _ (by simp), World.cell?_setCell_other _ _ _ _ (by simp), World.cell?_setCell_other _ _ _ _ (by simp), World.cell?_setCell_other _ _ _ _ (by simp), World.cell?_setCell_other _ _ _ _ (by simp)]
    exact World.cell?_setCell_same _ _ _ y0
  have z8 : ((((((W7.setCell ⟨u, 0, none⟩ (.int .i64 0)).setCell ⟨u, 1, none⟩ (.string ⟨#[]⟩)).setCell ⟨u, 2, none⟩ (.int .i64 n)).setCell ⟨u, 3, none⟩ (.int .i64 1)).setCell ⟨u, 4, none⟩ (.int .i64 (n + 1))).setCell ⟨u, 5, none⟩ (.string ⟨#[]⟩)).heap.size = W7.heap.size := by simp [World.setCell]
  have b8 : Below sb W7 ((((((W7.setCell ⟨u, 0, none⟩ (.int .i64 0)).setCell ⟨u, 1, none⟩ (.string ⟨#[]⟩)).setCell ⟨u, 2, none⟩ (.int .i64 n)).setCell ⟨u, 3, none⟩ (.int .i64 1)).setCell ⟨u, 4, none⟩ (.int .i64 (n + 1))).setCell ⟨u, 5, none⟩ (.string ⟨#[]⟩)) := by
    have hu : sb ≤ u := by omega
    exact (((((((Below.refl sb W7).setCell (p := ⟨u, 0, none⟩) hu _).setCell (p := ⟨u, 1, none⟩) hu _).setCell (p := ⟨u, 2, none⟩) hu _).setCell (p := ⟨u, 3, none⟩) hu _).setCell (p := ⟨u, 4, none⟩) hu _).setCell (p := ⟨u, 5, none⟩) hu _)
  generalize (((((W7.setCell ⟨u, 0, none⟩ (.int .i64 0)).setCell ⟨u, 1, none⟩ (.string ⟨#[]⟩)).setCell ⟨u, 2, none⟩ (.int .i64 n)).setCell ⟨u, 3, none⟩ (.int .i64 1)).setCell ⟨u, 4, none⟩ (.int .i64 (n + 1))).setCell ⟨u, 5, none⟩ (.string ⟨#[]⟩) = W8 at *
  have h8 := h7.below (hh8 b (by omega))
  have o8 := owns_of (w' := W8) o7 (hh8 gg (by omega))
  have bw8 : Below sb w W8 := BW2.out.trans (f7w.below.trans b8)
  have k39 : W8.cell? ⟨b, 1039, none⟩ = some .nilIface := by rw [h8.cell 1039 (by decide), q39]
  have k40 : W8.cell? ⟨b, 1040, none⟩ = some (.string ⟨#[]⟩) := by rw [h8.cell 1040 (by decide), q40]
  have k41 : W8.cell? ⟨b, 1041, none⟩ = some (.int .i64 n) := by rw [h8.cell 1041 (by decide), q41]
  have k42 : W8.cell? ⟨b, 1042, none⟩ = some (.int .i64 1) := by rw [h8.cell 1042 (by decide), q42]
  have k43 : W8.cell? ⟨b, 1043, none⟩ = some (.int .i64 (n + 1)) := by rw [h8.cell 1043 (by decide), q43]
  have BW8 := Lib.hid bw8
  have O8 := Lib.hid o8
  have hgl8 : gg < W8.heap.size := by omega
  have hsb8 : sb < W8.heap.size := by omega
  clear z8 y0 y1 y2 y3 y4 y5 f hh8 b8 h7 h8 o7 o8 bw8 f7w q39 q40 q41 q42 q43
  rw [rounds_succ]
  go_wp2_with (at_builtin; refine wpList_append_lies _ rfl _ _ 39 (by rfl) (sb + 1) 46 i0 (.agg #[.int .i64 0, .string ⟨#[]⟩, .int .i64 0, .int .i64 0, .int .i64 0, .string ⟨#[]⟩]) 6 64 Tryd.underlying39 hi hz0 hz1 hz2 rfl (by decide) _ 1 (tok1 l) (by rfl) (O8.out.alloc _) ⟨W8.heap.size, 0, none⟩ 1 1 (tok2 n) (by rfl) rfl (news6 W8 (tok2 n) 46) (fun u hu => by simp [tok2] at hu; rcases hu with rfl | rfl | rfl | rfl | rfl | rfl <;> rfl) (by decide) (by decide) (by decide) (by simp; omega) (W8.heap.size + 1) (by simp) ?_; intro g9 cap9 w9 hown9 hgrow9 hat9 hlt9)
  go_ret2
  refine ⟨g9, cap9, rfl, fun j v hv => ?_, ?_⟩
  · have := hown9.cells (g := g9) rfl j v hv
    rwa [ad] at this
  · have : Below sb W8 w9 := (Below.alloc (Below.refl sb W8) (by omega) _).grown hgrow9 (by simp; omega) (by simp [Value.ownBlock]; omega)
    exact BW8.out.trans this
end Go.Proofs.YtiidebhepilgiaaDoorR
