/-
  Patterns: what pattern makes of the pieces (its walk), and impl.Match. Condition: at most a hundred pieces of at most a thousand bytes.
-/
import Derived.Test.YtcggmabpbbieaaaNew
namespace Go.Proofs.Ytcggmabpbbieaaa
open Go.RowKit
theorem info20 : (Try.prog.info? 20).map (fun i => (i.zero, i.size, i.bytes)) = some (some .nilIface, 1, 16) := by kernel_rfl
theorem isEmpty_no (l : ByteArray) (h : ¬ l.data.toList = []) : l.data.toList.isEmpty = false := by
  cases hh : l.data.toList with
  | nil => exact absurd hh h
  | cons _ _ => rfl
theorem news1 (w : World) (x : Value) : ∀ j u, [x][j]? = some u → (w.alloc (.cells #[x] 20)).cell? ((⟨w.heap.size, 0, none⟩ : Addr).add j) = some u := cell_one_new w x 20
theorem news1' (w : World) (o : Obj) (x : Value) : ∀ j u, [x][j]? = some u → ((w.alloc o).alloc (.cells #[x] 20)).cell? ((⟨w.heap.size + 1, 0, none⟩ : Addr).add j) = some u := by
  have h := World.news_of_block (heap_alloc_new (w.alloc o) (.cells #[x] 20))
  simp only [World.size_alloc] at h
  exact h
/-- The components, so far. -/
def Row (B : Nat) (wr : World) (v : Value) (its : List (Option ByteArray)) : Prop :=
  wr.ownsRow B 20 1 v its.length (its.map itemV) ∧ ((its = [] ∧ v = .slice none 0 0) ∨ ∃ gg cap, v = .slice (some ⟨gg, 0, none⟩) its.length cap ∧ B ≤ gg ∧ gg < wr.heap.size)
def RelP (ps : List ByteArray) (k : Nat) (its : List (Option ByteArray)) : Prop := its.map (fun x => x.map fun s => s.data.toList) = Pat.items ((ps.take k).map fun s => s.data.toList)
theorem items_snoc (l : List Pat.Bs) (s : Pat.Bs) : Pat.items (l ++ [s]) = Pat.items l ++ (if l.isEmpty then (if s.isEmpty then [] else [some s]) else Pat.item s) := by
  cases l with
  | nil => simp [Pat.items]
  | cons a r => simp [Pat.items]
theorem relP_step {ps : List ByteArray} {k : Nat} {its its' : List (Option ByteArray)} {s : ByteArray} (h : RelP ps k its) (hs : ps[k]? = some s)
    (he : its'.map (fun x => x.map fun s => s.data.toList) = its.map (fun x => x.map fun s => s.data.toList) ++ (if decide (k = 0) then (if s.data.toList.isEmpty then [] else [some s.data.toList]) else Pat.item s.data.toList)) : RelP ps (k + 1) its' := by
  obtain ⟨hk, rfl⟩ := List.getElem?_eq_some_iff.1 hs
  unfold RelP at h ⊢
  rw [he, h, List.take_succ_eq_append_getElem hk, List.map_append, List.map_cons, List.map_nil, items_snoc]
  congr 2
  have : ((ps.take k).map fun s => s.data.toList).isEmpty = decide (k = 0) := by
    rw [Bool.eq_iff_iff]
    simp
    rintro h
    rw [h] at hk; simp at hk
  rw [this]
theorem row_push {B gg cap m : Nat} {w : World} {its : List (Option ByteArray)} {x : Option ByteArray} (h : w.ownsRow B 20 1 (.slice (some ⟨gg, 0, none⟩) (its.length + 1) cap) (its.length + 1) (its.map itemV ++ [itemV x])) (hm : m = its.length + 1) : Row B w (.slice (some ⟨gg, 0, none⟩) m cap) (its ++ [x]) := by
  subst hm
  refine ⟨by simpa using h, .inr ⟨gg, cap, by simp, (h.lt gg rfl).1, (h.lt gg rfl).2⟩⟩
theorem grown1 {B n : Nat} {xs : List Value} {w wr w1 : World} {o : Obj} {v : Value} (hbel : Below B w wr) (hB : B ≤ wr.heap.size) (hown : wr.ownsRow (B + 1) 20 1 v n xs) (hg : (wr.alloc o).grownBy w1 v.ownBlock) : Below B w w1 :=
  (hbel.alloc hB _).grown hg (by simp; omega) (fun k hk => by have := (hown.lt k hk).1; omega)
theorem keep1 {B : Nat} {wr w1 : World} {o : Obj} {v : Value} {n : Nat} {xs : List Value} (hown : wr.ownsRow (B + 1) 20 1 v n xs) (hg : (wr.alloc o).grownBy w1 v.ownBlock) (hB : B < wr.heap.size) :
    w1.cell? ⟨B, 0, none⟩ = wr.cell? ⟨B, 0, none⟩ ∧ w1.frozen? ⟨B, 0, none⟩ = wr.frozen? ⟨B, 0, none⟩ ∧ wr.heap.size < w1.heap.size := by
  have hne : some B ≠ v.ownBlock := fun e => by have := (hown.lt B e.symm).1; omega
  have hb : w1.heap[B]? = wr.heap[B]? := by rw [hg.block B (by simp; omega) hne, Below.heap_alloc _ _ _ hB]
  exact ⟨World.cell?_of_block hb, World.frozen?_of_block hb, by have := hg.size; simp at this; omega⟩
theorem cellsC_get (cs : List (Bool × ByteArray)) : ∀ (i : Nat) (hi : i < cs.length), (cellsC cs)[i * 2]? = some (.bool cs[i].1) ∧ (cellsC cs)[i * 2 + 1]? = some (.string cs[i].2) := by
  induction cs with
  | nil => intro i hi; cases hi
  | cons x r ih =>
    intro i hi
    cases i with
    | zero => simp [cellsC]
    | succ i =>
      have hh := ih i (by simpa using hi)
      have e1 : (i + 1) * 2 = i * 2 + 1 + 1 := by omega
      have e2 : (i + 1) * 2 + 1 = (i * 2 + 1) + 1 + 1 := by omega
      rw [e1, show i * 2 + 1 + 1 + 1 = (i * 2 + 1) + 1 + 1 from rfl]
      simpa [cellsC] using hh
def PatEnd (ps : List ByteArray) (w : World) (e : Ending) (w' : World) : Prop :=
  ∃ v cs B, e = .returned (.agg #[v]) ∧ w.heap.size ≤ B ∧ Comps B w' v cs ∧ cs.length ≤ 200 ∧ (∀ x ∈ cs, x.2.size ≤ 200000) ∧ plainC cs = Pat.comps (ps.map fun s => s.data.toList) ∧ Below w.heap.size w w'
theorem new_nil (w : World) : Calls Try.prog 10 #[.slice none 0 0] w (NewEnd [] w) := by
  go_enter Try.func10, Try.ntmps10
  go_wp2
  go_loopg [3, 12] 0 (fun gk v i wr => gk = 0 ∧ i = .int .i64 0 ∧ v = .slice none 0 0 ∧ wr = w.alloc (.cells #[.slice none 0 0] 28))
  case atStart => exact ⟨rfl, rfl, rfl, rfl⟩
  case round =>
    obtain ⟨hg, rfl, rfl, rfl⟩ := hrel
    clear hg
    go_wp2
    refine bodyPost_ret (v := .agg #[.slice none 0 0]) (by simp [results, Try.results10, go_sem]) rfl ?_
    exact ⟨_, [], rfl, .inl ⟨rfl, rfl⟩, Nat.le_refl _, (fun x hx => by cases hx), rfl, (Below.refl _ _).alloc (Nat.le_refl _) _⟩
theorem row_cells {B gg cap : Nat} {w : World} {its : List (Option ByteArray)} (h : w.ownsRow B 20 1 (.slice (some ⟨gg, 0, none⟩) its.length cap) its.length (its.map itemV)) : ∀ i x, its[i]? = some x → w.cell? ⟨gg, i, none⟩ = some (itemV x) := by
  intro i x hx
  obtain ⟨hk, rfl⟩ := List.getElem?_eq_some_iff.1 hx
  rw [h.cellAt i (by omega)]
  simp [hk]
theorem comps_shape {B : Nat} {w : World} {v : Value} {cs : List (Bool × ByteArray)} (h : Comps B w v cs) : ∃ a n c, v = .slice a n c := by
  rcases h with ⟨_, rfl⟩ | ⟨gg, cap, init, b, l, _, rfl, _⟩
  · exact ⟨_, _, _, rfl⟩
  · exact ⟨_, _, _, rfl⟩
theorem comps_set {B n : Nat} {w : World} {v u : Value} {cs : List (Bool × ByteArray)} (h : Comps B w v cs) (hn : n < B) : Comps B (w.setCell ⟨n, 0, none⟩ u) v cs := by
  rcases h with h | ⟨gg, cap, init, b, l, h1, h2, h3, h4, h5⟩
  · exact .inl h
  · exact .inr ⟨gg, cap, init, b, l, h1, h2, ownsRow_setCell_below h3 (by simpa using hn) _, h4, by simpa [World.setCell] using h5⟩
theorem comps_alloc {B : Nat} {w w' : World} {v : Value} {cs : List (Bool × ByteArray)} (h : Comps B w v cs) (hb : Below w.heap.size w w') : Comps B w' v cs := by
  rcases h with h | ⟨gg, cap, init, b, l, h1, h2, h3, h4, h5⟩
  · exact .inl h
  · exact .inr ⟨gg, cap, init, b, l, h1, h2, h3.kept (row := none) ⟨hb.os, hb.tape, hb.output, hb.size, fun k hk _ => hb.block k hk⟩ (by cases v.ownBlock <;> simp), h4, Nat.lt_of_lt_of_le h5 hb.size⟩
theorem pat_end {ps : List ByteArray} {w wr w1 : World} {its : List (Option ByteArray)} {cs : List (Bool × ByteArray)} {v u : Value} {k : Nat} (hk : k = ps.length) (HR : RelP ps k its) (hsz : w.heap.size < wr.heap.size) (hcs : Comps (wr.heap.size + 1) w1 v cs)
    (hcl : cs.length ≤ its.length) (hcb : ∀ x ∈ cs, x.2.size ≤ its.length * 1000) (hcr : plainC cs = Pat.build (its.map fun x => x.map fun s => s.data.toList)) (hbel : Below w.heap.size w wr) (hb1 : Below wr.heap.size wr w1) (hi : its.length ≤ 200) :
    PatEnd ps w (.returned (.agg #[v])) (w1.setCell ⟨w.heap.size, 0, none⟩ u) := by
  refine ⟨v, cs, wr.heap.size + 1, rfl, by omega, comps_set hcs (by omega), by omega, fun x hx => by have := hcb x hx; omega, ?_, (hbel.trans (hb1.mono (by omega))).setCell (p := ⟨w.heap.size, 0, none⟩) (Nat.le_refl _) _⟩
  unfold RelP at HR
  rw [hcr, HR, hk, List.take_length, Pat.build_items]
set_option maxRecDepth 100000 in
set_option maxHeartbeats 2000000 in
theorem pattern_any (g off cap : Nat) (ps : List ByteArray) (w : World) (hn : ps.length ≤ 100) (hg : g < w.heap.size)
    (hps : ∀ s ∈ ps, s.size ≤ 1000)
    (hc : ∀ i s, ps[i]? = some s → w.cell? ⟨g, off + i, none⟩ = some (.string s)) :
    Calls Try.prog 8 #[.slice (some ⟨g, off, none⟩) ps.length cap] w (PatEnd ps w) := by
  obtain ⟨i0, hi, hz0, hz1, hz2⟩ := info_parts info20
  have HC := Lib.hid hc
  have HS := Lib.hid hps
  clear hc hps
  go_enter Try.func8, Try.ntmps8
  go_wp2
  go_loopg [3, 8] ps.length (fun gk v i wr => ∃ (k : Nat) (its : List (Option ByteArray)), k + gk = ps.length ∧ i = .int .i64 k ∧ Row (w.heap.size + 1) wr v its ∧ its.length ≤ 2 * k ∧ Aside (∀ s, some s ∈ its → s.size ≤ 1000) ∧ Aside (RelP ps k its) ∧ wr.cell? ⟨w.heap.size, 0, none⟩ = some (.slice none 0 0) ∧ wr.frozen? ⟨w.heap.size, 0, none⟩ = false ∧ w.heap.size < wr.heap.size ∧ Below w.heap.size w wr)
  case atStart => exact ⟨0, [], by omega, rfl, ⟨World.ownsRow_nil _ _ _ _, .inl ⟨rfl, rfl⟩⟩, Nat.le_refl _, (fun s hs => by cases hs), rfl, by simp, by simp, by simp, (Below.refl _ _).alloc (Nat.le_refl _) _⟩
  case round =>
    obtain ⟨k, its, hkg, rfl, ⟨hown, hshape⟩, hil, HB, HR, hres, hfr, hsz, hbel⟩ := hrel
    cases gk with
    | zero =>
      have h0 : ¬ ((k : Int) < (ps.length : Int)) := by omega
      have HK := Lib.hid hkg
      have HO := Lib.hid hown
      clear hkg hown
      have hk : k = ps.length := by have := HK.out; omega
      rcases hshape with ⟨rfl, rfl⟩ | ⟨gg, cap2, rfl, hbg, hgl⟩
      · have cN := Lib.hid (new_nil wr)
        have HK2 := Lib.hid hk
        clear hk
        go_wp2_with (go_at_call 10; refine cN.out.mono ?_; rintro e w1 ⟨v, cs, rfl, hcs, hcl, hcb, hcr, hb1⟩; have hres1 := (hb1.cell (p := ⟨w.heap.size, 0, none⟩) hsz).trans hres; have hfr1 := (hb1.frozen (p := ⟨w.heap.size, 0, none⟩) hsz).trans hfr; obtain ⟨sa, sn, sc, hv⟩ := comps_shape hcs; subst hv)
        refine bodyPost_ret (v := .agg #[.slice sa sn sc]) (by simp [results, Try.results8, go_sem, hres1]) rfl ?_
        exact pat_end HK2.out HR.out hsz hcs hcl hcb hcr hbel hb1 (by have := HK.out; first | omega | (simp; omega))
      · have cN := Lib.hid (new_any gg cap2 its wr (by omega) hgl HB.out (row_cells HO.out))
        have HK2 := Lib.hid hk
        clear hk
        go_wp2_with (go_at_call 10; refine cN.out.mono ?_; rintro e w1 ⟨v, cs, rfl, hcs, hcl, hcb, hcr, hb1⟩; have hres1 := (hb1.cell (p := ⟨w.heap.size, 0, none⟩) hsz).trans hres; have hfr1 := (hb1.frozen (p := ⟨w.heap.size, 0, none⟩) hsz).trans hfr; obtain ⟨sa, sn, sc, hv⟩ := comps_shape hcs; subst hv)
        refine bodyPost_ret (v := .agg #[.slice sa sn sc]) (by simp [results, Try.results8, go_sem, hres1]) rfl ?_
        exact pat_end HK2.out HR.out hsz hcs hcl hcb hcr hbel hb1 (by have := HK.out; first | omega | (simp; omega))
    | succ kk =>
      have h0 : (k : Int) < (ps.length : Int) := by omega
      obtain ⟨s, hx⟩ : ∃ s, ps[k]? = some s := ⟨_, List.getElem?_eq_getElem (by omega)⟩
      have c0 : wr.cell? ⟨g, off + k, none⟩ = some (.string s) := (hbel.cell (p := ⟨g, off + k, none⟩) hg).trans (HC.out k _ hx)
      have hs1 : s.size ≤ 1000 := HS.out s (List.mem_of_getElem? hx)
      have hkl : k ≤ 100 := by omega
      have HX := Lib.hid hx
      have HK := Lib.hid hkg
      have HSH := Lib.hid hshape
      clear hkg hx hshape
      by_cases hk0 : k = 0
      · have hk1 : ¬ (0 < (k : Int)) := by omega
        have hkd : decide (k = 0) = true := by simp [hk0]
        have HKD := Lib.hid hkd
        clear hk0 hkd
        by_cases hl : s.data.toList = []
        · have hl' := empty_yes s hl
          have HL := Lib.hid hl
          clear hl
          go_wp2
          go_roundg kk
          case measure => omega
          case rel => exact ⟨k + 1, its, by have := HK.out; omega, by first | rfl | go_num, ⟨hown, HSH.out⟩, by first | omega | (simp; omega), HB.out, relP_step HR.out HX.out (by rw [HKD.out, HL.out]; simp), hres, hfr, hsz, hbel⟩
        · have hl' := empty_no s hl
          have HE := Lib.hid (isEmpty_no s hl)
          have HL := Lib.hid hl
          clear hl
          go_wp2_with (at_builtin; refine wpList_append_lies _ rfl _ _ 32 (by rfl) (w.heap.size + 1) 20 i0 .nilIface 1 16 Try.underlying32 hi hz0 hz1 hz2 rfl (by decide) _ its.length (its.map itemV) (by rfl) (hown.alloc _) ⟨wr.heap.size, 0, none⟩ 1 1 [.iface 31 (.string s)] (by rfl) rfl (news1 wr _) (fun u hu => by simp at hu; subst hu; rfl) (by decide) (by unfold maxLen; omega) (by omega) (by simp; omega) (wr.heap.size + 1) (by simp) ?_; intro gg1 cap1 w1 hown1 hgrow1 hat1 hlt1)
          go_roundg kk
          case measure => omega
          case rel => exact ⟨k + 1, its ++ [some s], by have := HK.out; omega, by first | rfl | go_num, row_push (x := some s) hown1 rfl, by first | omega | (simp; omega), fun t ht => by rcases List.mem_append.1 ht with h9 | h9; exact HB.out t h9; simp at h9; subst h9; exact hs1, relP_step HR.out HX.out (by rw [HKD.out, HE.out]; simp), (keep1 hown hgrow1 hsz).1.trans hres, (keep1 hown hgrow1 hsz).2.1.trans hfr, Nat.lt_trans hsz (keep1 hown hgrow1 hsz).2.2, grown1 hbel (by omega) hown hgrow1⟩
      · have hk1 : 0 < (k : Int) := by omega
        have hkd : decide (k = 0) = false := by simp [hk0]
        have HKD := Lib.hid hkd
        clear hk0 hkd
        by_cases hl : s.data.toList = []
        · have hl' := empty_yes s hl
          have HL := Lib.hid hl
          clear hl
          go_wp2_with (at_builtin; refine wpList_append_lies _ rfl _ _ 32 (by rfl) (w.heap.size + 1) 20 i0 .nilIface 1 16 Try.underlying32 hi hz0 hz1 hz2 rfl (by decide) _ its.length (its.map itemV) (by rfl) (hown.alloc _) ⟨wr.heap.size, 0, none⟩ 1 1 [.iface 34 (.agg #[])] (by rfl) rfl (news1 wr _) (fun u hu => by simp at hu; subst hu; rfl) (by decide) (by unfold maxLen; omega) (by omega) (by simp; omega) (wr.heap.size + 1) (by simp) ?_; intro gg1 cap1 w1 hown1 hgrow1 hat1 hlt1)
          go_roundg kk
          case measure => omega
          case rel => exact ⟨k + 1, its ++ [none], by have := HK.out; omega, by first | rfl | go_num, row_push (x := none) hown1 rfl, by first | omega | (simp; omega), fun t ht => by rcases List.mem_append.1 ht with h9 | h9; exact HB.out t h9; simp at h9, relP_step HR.out HX.out (by rw [HKD.out, HL.out]; simp [Pat.item]), (keep1 hown hgrow1 hsz).1.trans hres, (keep1 hown hgrow1 hsz).2.1.trans hfr, Nat.lt_trans hsz (keep1 hown hgrow1 hsz).2.2, grown1 hbel (by omega) hown hgrow1⟩
        · have hl' := empty_no s hl
          have HE := Lib.hid (isEmpty_no s hl)
          have HL := Lib.hid hl
          clear hl
          go_wp2_with (first | (at_builtin; refine wpList_append_lies _ rfl _ _ 32 (by rfl) (w.heap.size + 1) 20 i0 .nilIface 1 16 Try.underlying32 hi hz0 hz1 hz2 rfl (by decide) _ (its.length + 1) (its.map itemV ++ [.iface 34 (.agg #[])]) (by rfl) (hown1.alloc _) ⟨w1.heap.size, 0, none⟩ 1 1 [.iface 31 (.string s)] (by rfl) rfl (news1 w1 _) (fun u hu => by simp at hu; subst hu; rfl) (by decide) (by unfold maxLen; omega) (by omega) (by have h7 := hgrow1.size; simp at h7 ⊢; omega) (w1.heap.size + 1) (by simp) ?_; intro gg2 cap2 w2 hown2 hgrow2 hat2 hlt2) | (at_builtin; refine wpList_append_lies _ rfl _ _ 32 (by rfl) (w.heap.size + 1) 20 i0 .nilIface 1 16 Try.underlying32 hi hz0 hz1 hz2 rfl (by decide) _ its.length (its.map itemV) (by rfl) (hown.alloc _) ⟨wr.heap.size, 0, none⟩ 1 1 [.iface 34 (.agg #[])] (by rfl) rfl (news1 wr _) (fun u hu => by simp at hu; subst hu; rfl) (by decide) (by unfold maxLen; omega) (by omega) (by simp; omega) (wr.heap.size + 1) (by simp) ?_; intro gg1 cap1 w1 hown1 hgrow1 hat1 hlt1))
          have hbel1 := grown1 hbel (by omega) hown hgrow1
          have hsz1 : w.heap.size < w1.heap.size := Nat.lt_trans hsz (keep1 hown hgrow1 hsz).2.2
          have hr2 : w2.ownsRow (w.heap.size + 1) 20 1 (.slice (some ⟨gg2, 0, none⟩) ((its ++ [none]).length + 1) cap2) ((its ++ [none]).length + 1) ((its ++ [none]).map itemV ++ [itemV (some s)]) := by simpa [itemV] using hown2
          go_roundg kk
          case measure => omega
          case rel => exact ⟨k + 1, (its ++ [none]) ++ [some s], by have := HK.out; omega, by first | rfl | go_num, row_push (its := its ++ [none]) (x := some s) hr2 (by simp), by first | omega | (simp; omega), fun t ht => by rcases List.mem_append.1 ht with h9 | h9; rcases List.mem_append.1 h9 with h8 | h8; exact HB.out t h8; simp at h8; simp at h9; subst h9; exact hs1, relP_step HR.out HX.out (by rw [HKD.out]; simp only [Pat.item, HE.out]; simp), (keep1 hown1 hgrow2 hsz1).1.trans ((keep1 hown hgrow1 hsz).1.trans hres), (keep1 hown1 hgrow2 hsz1).2.1.trans ((keep1 hown hgrow1 hsz).2.1.trans hfr), Nat.lt_trans hsz1 (keep1 hown1 hgrow2 hsz1).2.2, grown1 hbel1 (by omega) hown1 hgrow2⟩
set_option maxRecDepth 100000 in
theorem match_nil (s : ByteArray) (w : World) : Calls Try.prog 9 #[.agg #[.slice none 0 0], .string s] w (MatchEnd [] s w) := by
  go_enter Try.func9, Try.ntmps9
  go_wp2
  go_step3
  go_wp2
  go_step3
  go_wp2
  go_loopg [1, 16] 0 (fun gk x i wr => gk = 0 ∧ i = .int .i64 0 ∧ x = .string s ∧ wr = w.alloc (.cells #[.slice none 0 0] 28))
  case atStart => exact ⟨rfl, rfl, rfl, rfl⟩
  case round =>
    obtain ⟨hg, rfl, rfl, rfl⟩ := hrel
    clear hg
    go_wp2
    go_ret
    exact ⟨by rw [st_end (cs := []) (s := s) (t := s) (k := 0) rfl rfl]; rfl, (Below.refl _ _).alloc (Nat.le_refl _) _⟩
def ImplEnd (ps : List ByteArray) (s : ByteArray) (w : World) (e : Ending) (w' : World) : Prop := e = .returned (.bool (Pat.matchC (Pat.comps (ps.map fun s => s.data.toList)) s.data.toList)) ∧ Below w.heap.size w w'
/-- Match of what pattern has made. -/
theorem match_comps {B : Nat} {v : Value} {cs : List (Bool × ByteArray)} {w : World} (s : ByteArray) (hs : s.size ≤ 1000000) (h : Comps B w v cs) (hcl : cs.length ≤ 200) (hcb : ∀ x ∈ cs, x.2.size ≤ 200000) :
    Calls Try.prog 9 #[.agg #[v], .string s] w (MatchEnd cs s w) := by
  rcases h with ⟨rfl, rfl⟩ | ⟨gg, cap, init, b, l, rfl, rfl, hown, hbg, hgl⟩
  · exact match_nil s w
  · have hl : init.length + 1 = (init ++ [(b, l)]).length := by simp
    rw [hl] at hown ⊢
    refine match_any gg cap (init ++ [(b, l)]) s w hs (by omega) hgl (fun x hx => Nat.le_trans (hcb x hx) (by omega)) ?_
    intro i x hx
    obtain ⟨hk, rfl⟩ := List.getElem?_eq_some_iff.1 hx
    rw [hown.cellAt (i * 2) (by omega), hown.cellAt (i * 2 + 1) (by omega)]
    exact cellsC_get _ i hk
theorem impl_any (g off cap : Nat) (ps : List ByteArray) (s : ByteArray) (w : World) (hn : ps.length ≤ 100) (hg : g < w.heap.size) (hps : ∀ s ∈ ps, s.size ≤ 1000) (hs : s.size ≤ 1000000)
    (hc : ∀ i s, ps[i]? = some s → w.cell? ⟨g, off + i, none⟩ = some (.string s)) :
    Calls Try.prog 5 #[.slice (some ⟨g, off, none⟩) ps.length cap, .string s] w (ImplEnd ps s w) := by
  have cP := Lib.hid (pattern_any g off cap ps w hn hg hps hc)
  clear hc hps
  go_enter Try.func5, Try.ntmps5
  go_wp2_with fail
  refine cP.out.mono ?_
  rintro e w1 ⟨v, cs, B, rfl, hB, hcs, hcl, hcb, hpl, hb1⟩
  have cM := Lib.hid (match_comps s hs hcs hcl hcb)
  have HP := Lib.hid hpl
  clear hpl hcs hcb
  obtain ⟨r, hr⟩ : ∃ r, r = Pat.matchC (plainC cs) s.data.toList := ⟨_, rfl⟩
  unfold MatchEnd at cM
  rw [← hr] at cM
  have HR := Lib.hid hr
  clear hr
  go_wp2_with fail
  refine cM.out.mono ?_
  rintro e w2 ⟨rfl, hb2⟩
  go_wp2_with fail
  go_ret
  exact ⟨by rw [← HP.out, ← HR.out]; rfl, hb1.trans (hb2.mono hb1.size)⟩
end Go.Proofs.Ytcggmabpbbieaaa
