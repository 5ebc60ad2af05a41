/-
  Patterns: what NewPattern makes of its components (its walk): the plain build. Condition: at most a thousand components of at most a million bytes.
-/
import Derived.Test.YtcggmabpbbieaaaMatch
import Derived.Maps.AppendAt
import Derived.Deep.AppendLies
namespace Go.Proofs.Ytcggmabpbbieaaa
open Go.RowKit
def itemV : Option ByteArray → Value
  | none => .iface 34 (.agg #[])
  | some s => .iface 31 (.string s)
def cellsC (cs : List (Bool × ByteArray)) : List Value := cs.flatMap fun x => [.bool x.1, .string x.2]
theorem ta_w9 (W : World) : (Instr.typeAssert (.iface 34 (.agg #[])) 20 9 true).run Try.prog W = .ok (.tuple #[.string ByteArray.empty, .bool false]) W := by kernel_rfl
theorem ta_w31 (W : World) : (Instr.typeAssert (.iface 34 (.agg #[])) 20 31 true).run Try.prog W = .ok (.tuple #[.string ByteArray.empty, .bool false]) W := by kernel_rfl
theorem ta_w34 (W : World) : (Instr.typeAssert (.iface 34 (.agg #[])) 20 34 true).run Try.prog W = .ok (.tuple #[.agg #[], .bool true]) W := by kernel_rfl
theorem ta_s9 (s : ByteArray) (W : World) : (Instr.typeAssert (.iface 31 (.string s)) 20 9 true).run Try.prog W = .ok (.tuple #[.string ByteArray.empty, .bool false]) W := by kernel_rfl
theorem ta_s31 (s : ByteArray) (W : World) : (Instr.typeAssert (.iface 31 (.string s)) 20 31 true).run Try.prog W = .ok (.tuple #[.string s, .bool true]) W := by kernel_rfl
/-- What the walk knows of comps between two rounds: nil, or a row of its own, its last component told apart. -/
def Comps (B : Nat) (wr : World) (v : Value) (cs : List (Bool × ByteArray)) : Prop :=
  (cs = [] ∧ v = .slice none 0 0) ∨ ∃ gg cap init b l, cs = init ++ [(b, l)] ∧ v = .slice (some ⟨gg, 0, none⟩) (init.length + 1) cap ∧ wr.ownsRow B 37 2 v (init.length + 1) (cellsC cs) ∧ B ≤ gg ∧ gg < wr.heap.size
theorem info37 : (Try.prog.info? 37).map (fun i => (i.zero, i.size, i.bytes)) = some (some (.agg #[.bool false, .string ByteArray.empty]), 2, 24) := by kernel_rfl
theorem cellsC_length (cs : List (Bool × ByteArray)) : (cellsC cs).length = cs.length * 2 := by
  induction cs with
  | nil => rfl
  | cons x r ih => simp only [cellsC, List.flatMap_cons, List.length_append, List.length_cons, List.length_nil] at ih ⊢; omega
theorem cellsC_snoc (init : List (Bool × ByteArray)) (b : Bool) (l : ByteArray) : cellsC (init ++ [(b, l)]) = cellsC init ++ [.bool b, .string l] := by simp [cellsC]
theorem cellsC_at0 (init : List (Bool × ByteArray)) (b : Bool) (l : ByteArray) : (cellsC (init ++ [(b, l)]))[init.length * 2]? = some (.bool b) := by
  rw [cellsC_snoc, List.getElem?_append_right (by rw [cellsC_length]; omega), cellsC_length]; simp
theorem cellsC_at1 (init : List (Bool × ByteArray)) (b : Bool) (l : ByteArray) : (cellsC (init ++ [(b, l)]))[init.length * 2 + 1]? = some (.string l) := by
  rw [cellsC_snoc, List.getElem?_append_right (by rw [cellsC_length]; omega), cellsC_length]; simp
theorem cellsC_set (init : List (Bool × ByteArray)) (b : Bool) (l l' : ByteArray) : (cellsC (init ++ [(b, l)])).set (init.length * 2 + 1) (.string l') = cellsC (init ++ [(b, l')]) := by
  rw [cellsC_snoc, cellsC_snoc, List.set_append_right _ _ (by rw [cellsC_length]; omega), cellsC_length]; simp
theorem news2 (w : World) (o : Obj) (x y : Value) : ∀ j u, [x, y][j]? = some u → ((w.alloc o).alloc (.cells #[x, y] 37)).cell? ((⟨w.heap.size + 1, 0, none⟩ : Addr).add j) = some u := by
  have h := World.news_of_block (heap_alloc_new (w.alloc o) (.cells #[x, y] 37))
  simp only [World.size_alloc] at h
  exact h
theorem comps_of {B gg cap : Nat} {w : World} {init : List (Bool × ByteArray)} {b : Bool} {l : ByteArray} (h : w.ownsRow B 37 2 (.slice (some ⟨gg, 0, none⟩) (init.length + 1) cap) (init.length + 1) (cellsC (init ++ [(b, l)]))) :
    Comps B w (.slice (some ⟨gg, 0, none⟩) (init.length + 1) cap) (init ++ [(b, l)]) :=
  .inr ⟨gg, cap, init, b, l, rfl, rfl, h, (h.lt gg rfl).1, (h.lt gg rfl).2⟩
/-- The plain side of a round. -/
def Rel (its : List (Option ByteArray)) (k : Nat) (cs : List (Bool × ByteArray)) : Prop := plainC cs = Pat.build ((its.take k).map fun x => x.map fun s => s.data.toList)
theorem rel_step {its : List (Option ByteArray)} {k : Nat} {cs cs' : List (Bool × ByteArray)} {x : Option ByteArray} (h : Rel its k cs) (hx : its[k]? = some x) (hs : plainC cs' = Pat.stepI (plainC cs) (x.map fun s => s.data.toList)) : Rel its (k + 1) cs' := by
  obtain ⟨hk, rfl⟩ := List.getElem?_eq_some_iff.1 hx
  unfold Rel at h ⊢
  rw [hs, h, List.take_succ_eq_append_getElem hk]
  simp only [Pat.build, List.map_append, List.foldl_append, List.map_cons, List.map_nil, List.foldl_cons, List.foldl_nil]
theorem step_none_nil : plainC [(true, (⟨#[]⟩ : ByteArray))] = Pat.stepI (plainC []) none := rfl
theorem step_some_nil (s : ByteArray) : plainC [(false, (⟨#[]⟩ : ByteArray) ++ s)] = Pat.stepI (plainC []) (some s.data.toList) := by
  simp [plainC, Pat.stepI]
theorem step_none_empty (init : List (Bool × ByteArray)) (b : Bool) (l : ByteArray) (h : l.data.toList = []) : plainC (init ++ [(b, l)]) = Pat.stepI (plainC (init ++ [(b, l)])) none := by
  simp [plainC, Pat.stepI, h]
theorem step_none_full (init : List (Bool × ByteArray)) (b : Bool) (l : ByteArray) (h : ¬ l.data.toList = []) : plainC ((init ++ [(b, l)]) ++ [(true, (⟨#[]⟩ : ByteArray))]) = Pat.stepI (plainC (init ++ [(b, l)])) none := by
  have h' : ¬ l.data = #[] := fun e => h (by rw [e])
  simp [plainC, Pat.stepI, h']
theorem step_some (init : List (Bool × ByteArray)) (b : Bool) (l s : ByteArray) : plainC (init ++ [(b, l ++ s)]) = Pat.stepI (plainC (init ++ [(b, l)])) (some s.data.toList) := by
  simp [plainC, Pat.stepI]
theorem keep2 {wr w1 : World} {o1 o2 : Obj} {row : Option Nat} (hg : ((wr.alloc o1).alloc o2).grownBy w1 row) (n : Nat) (hn : n < wr.heap.size) (hne : some n ≠ row) :
    w1.cell? ⟨n, 0, none⟩ = wr.cell? ⟨n, 0, none⟩ ∧ w1.frozen? ⟨n, 0, none⟩ = wr.frozen? ⟨n, 0, none⟩ ∧ wr.heap.size < w1.heap.size := by
  have hb : w1.heap[n]? = wr.heap[n]? := by
    rw [hg.block n (by simp; omega) hne, Below.heap_alloc _ _ _ (by simp; omega), Below.heap_alloc _ _ _ hn]
  exact ⟨World.cell?_of_block hb, World.frozen?_of_block hb, by have := hg.size; simp at this; omega⟩
theorem keep0 {wr w1 : World} {row : Option Nat} (hg : wr.grownBy w1 row) (n : Nat) (hn : n < wr.heap.size) (hne : some n ≠ row) :
    w1.cell? ⟨n, 0, none⟩ = wr.cell? ⟨n, 0, none⟩ ∧ w1.frozen? ⟨n, 0, none⟩ = wr.frozen? ⟨n, 0, none⟩ ∧ wr.heap.size ≤ w1.heap.size :=
  ⟨World.cell?_of_block (hg.block n hn hne), World.frozen?_of_block (hg.block n hn hne), hg.size⟩
def NewEnd (its : List (Option ByteArray)) (w : World) (e : Ending) (w' : World) : Prop :=
  ∃ v cs, e = .returned (.agg #[v]) ∧ Comps (w.heap.size + 1) w' v cs ∧ cs.length ≤ its.length ∧ (∀ x ∈ cs, x.2.size ≤ its.length * 1000) ∧ plainC cs = Pat.build (its.map fun x => x.map fun s => s.data.toList) ∧ Below w.heap.size w w'
theorem big_snoc {init : List (Bool × ByteArray)} {b : Bool} {l l' : ByteArray} {m m' : Nat} (h : ∀ x ∈ init ++ [(b, l)], x.2.size ≤ m) (hm : m ≤ m') (hl : l'.size ≤ m') : ∀ x ∈ init ++ [(b, l')], x.2.size ≤ m' := by
  intro x hx
  rcases List.mem_append.1 hx with h1 | h1
  · exact Nat.le_trans (h x (List.mem_append.2 (.inl h1))) hm
  · simp at h1; subst h1; exact hl
set_option maxRecDepth 100000 in
set_option maxHeartbeats 2000000 in
theorem new_any (g cap : Nat) (its : List (Option ByteArray)) (w : World) (hn : its.length ≤ 1000) (hg : g < w.heap.size)
    (hits : ∀ s, some s ∈ its → s.size ≤ 1000)
    (hc : ∀ i x, its[i]? = some x → w.cell? ⟨g, i, none⟩ = some (itemV x)) :
    Calls Try.prog 10 #[.slice (some ⟨g, 0, none⟩) its.length cap] w (NewEnd its w) := by
  obtain ⟨i0, hi, hz0, hz1, hz2⟩ := info_parts info37
  have HC := Lib.hid hc
  have HS := Lib.hid hits
  clear hc hits
  go_enter Try.func10, Try.ntmps10
  go_wp2
  go_loopg [3, 12] its.length (fun gk v i wr => ∃ (k : Nat) (cs : List (Bool × ByteArray)), k + gk = its.length ∧ i = .int .i64 k ∧ Comps (w.heap.size + 1) wr v cs ∧ cs.length ≤ k ∧ Aside (∀ x ∈ cs, x.2.size ≤ k * 1000) ∧ Aside (Rel its k cs) ∧ wr.cell? ⟨w.heap.size, 0, none⟩ = some (.slice none 0 0) ∧ wr.frozen? ⟨w.heap.size, 0, none⟩ = false ∧ w.heap.size < wr.heap.size ∧ Below w.heap.size w wr)
  case atStart => exact ⟨0, [], by omega, rfl, .inl ⟨rfl, rfl⟩, Nat.le_refl _, (fun x hx => by cases hx), rfl, by simp, by simp, by simp, (Below.refl _ _).alloc (Nat.le_refl _) _⟩
  case round =>
    obtain ⟨k, cs, hkg, rfl, hown, hck, HB, HR, hres, hfr, hsz, hbel⟩ := hrel
    cases gk with
    | zero =>
      have h0 : ¬ ((k : Int) < (its.length : Int)) := by omega
      have HK := Lib.hid hkg
      clear hkg
      rcases hown with ⟨rfl, rfl⟩ | ⟨gg, cap2, init, b, l, rfl, rfl, hown, hbg, hgl⟩
      · go_wp2
        refine bodyPost_ret (v := .agg #[.slice none 0 0]) (by simp [results, Try.results10, go_sem, hres]) rfl ?_
        have hk : k = its.length := by have := HK.out; omega
        refine ⟨_, [], rfl, .inl ⟨rfl, rfl⟩, Nat.zero_le _, (fun x hx => by cases hx), ?_, hbel.setCell (p := ⟨w.heap.size, 0, none⟩) (Nat.le_refl _) _⟩
        have := HR.out
        unfold Rel at this
        rw [this, hk, List.take_length]
      · go_wp2
        refine bodyPost_ret (v := .agg #[.slice (some ⟨gg, 0, none⟩) (init.length + 1) cap2]) (by simp [results, Try.results10, go_sem, hres]) rfl ?_
        have hk : k = its.length := by have := HK.out; omega
        refine ⟨_, init ++ [(b, l)], rfl, comps_of (ownsRow_setCell_below hown (by simp) _), by omega, by rw [← hk]; exact HB.out, ?_, hbel.setCell (p := ⟨w.heap.size, 0, none⟩) (Nat.le_refl _) _⟩
        have := HR.out
        unfold Rel at this
        rw [this, hk, List.take_length]
    | succ kk =>
      have h0 : (k : Int) < (its.length : Int) := by omega
      obtain ⟨x, hx⟩ : ∃ x, its[k]? = some x := ⟨_, List.getElem?_eq_getElem (by omega)⟩
      have c0 : wr.cell? ⟨g, k, none⟩ = some (itemV x) := (hbel.cell (p := ⟨g, k, none⟩) hg).trans (HC.out k _ hx)
      have HX := Lib.hid hx
      have HK := Lib.hid hkg
      clear hkg
      cases x with
      | none =>
        clear hx
        have c1 : wr.cell? ⟨g, k, none⟩ = some (.iface 34 (.agg #[])) := c0
        clear c0
        have a1 := ta_w9
        have a2 := ta_w31
        have a3 := ta_w34
        rcases hown with ⟨rfl, rfl⟩ | ⟨gg, cap2, init, b, l, rfl, rfl, hown, hbg, hgl⟩
        · go_wp2_with (at_builtin; refine wpList_append_lies _ rfl _ _ 26 (by rfl) (w.heap.size + 1) 37 i0 (.agg #[.bool false, .string ByteArray.empty]) 2 24 Try.underlying26 hi hz0 hz1 hz2 rfl (by decide) _ 0 [] (by rfl) (World.ownsRow_nil _ _ _ _) ⟨wr.heap.size + 1, 0, none⟩ 1 1 [.bool true, .string ⟨#[]⟩] (by rfl) rfl (news2 wr _ _ _) (fun u hu => by simp at hu; rcases hu with rfl | rfl <;> rfl) (by decide) (by unfold maxLen; omega) (by omega) (by simp; omega) (wr.heap.size + 2) (by simp) ?_; intro gg cap2 w1 hown1 hgrow hat hlt)
          have hb1 : Below w.heap.size w w1 := ((hbel.alloc (by omega) _).alloc (by simp; omega) _).grown hgrow (by simp; omega) (by simp [Value.ownBlock])
          go_roundg kk
          case measure => omega
          case rel =>
            refine ⟨k + 1, [(true, ⟨#[]⟩)], by have := HK.out; omega, by first | rfl | go_num, comps_of (init := []) (by simpa [cellsC] using hown1), by simp, (fun x hx => by simp at hx; subst hx; exact Nat.zero_le _), rel_step HR.out HX.out step_none_nil, ?_, ?_, ?_, hb1⟩
            · exact (keep2 hgrow w.heap.size hsz (by simp [Value.ownBlock])).1.trans hres
            · exact (keep2 hgrow w.heap.size hsz (by simp [Value.ownBlock])).2.1.trans hfr
            · exact Nat.lt_trans hsz (keep2 hgrow w.heap.size hsz (by simp [Value.ownBlock])).2.2
        · have hil : init.length ≤ 1000 := by simp at hck; have := HK.out; omega
          have d0 : wr.cell? ⟨gg, init.length * 2, none⟩ = some (.bool b) := (hown.cellAt _ (by omega)).trans (cellsC_at0 init b l)
          have d1 : wr.cell? ⟨gg, init.length * 2 + 1, none⟩ = some (.string l) := (hown.cellAt _ (by omega)).trans (cellsC_at1 init b l)
          by_cases hl : l.data.toList = []
          · have hl' := empty_yes l hl
            have HL := Lib.hid hl
            clear hl
            go_wp2
            go_roundg kk
            case measure => omega
            case rel =>
              refine ⟨k + 1, init ++ [(b, l)], by have := HK.out; omega, by first | rfl | go_num, comps_of (hown.alloc _), by omega, big_snoc HB.out (by omega) (Nat.le_trans (HB.out (b, l) (by simp)) (by omega)), rel_step HR.out HX.out (step_none_empty _ _ _ HL.out), ?_, ?_, ?_, hbel.alloc (by omega) _⟩
              · simp [hsz, hres, World.cell?_alloc_past]
              · exact (keep0 (World.grownBy_alloc wr _ none) w.heap.size hsz (by simp)).2.1.trans hfr
              · exact Nat.lt_of_lt_of_le hsz (by simp)
          · have hl' := empty_no l hl
            have HL := Lib.hid hl
            clear hl
            go_wp2_with (at_builtin; refine wpList_append_lies _ rfl _ _ 26 (by rfl) (w.heap.size + 1) 37 i0 (.agg #[.bool false, .string ByteArray.empty]) 2 24 Try.underlying26 hi hz0 hz1 hz2 rfl (by decide) _ (init.length + 1) (cellsC (init ++ [(b, l)])) (by rfl) ((hown.alloc _).alloc _) ⟨wr.heap.size + 1, 0, none⟩ 1 1 [.bool true, .string ⟨#[]⟩] (by rfl) rfl (news2 wr _ _ _) (fun u hu => by simp at hu; rcases hu with rfl | rfl <;> rfl) (by decide) (by unfold maxLen; omega) (by omega) (by simp; omega) (wr.heap.size + 2) (by simp) ?_; intro gg2 cap3 w1 hown1 hgrow hat hlt)
            have hb1 : Below w.heap.size w w1 := ((hbel.alloc (by omega) _).alloc (by simp; omega) _).grown hgrow (by simp; omega) (by simp [Value.ownBlock]; omega)
            go_roundg kk
            case measure => omega
            case rel =>
              refine ⟨k + 1, (init ++ [(b, l)]) ++ [(true, ⟨#[]⟩)], by have := HK.out; omega, by first | rfl | go_num, ?_, by simp at hck ⊢; omega, ?_, rel_step HR.out HX.out (step_none_full _ _ _ HL.out), ?_, ?_, ?_, hb1⟩
              · have h3 := comps_of (init := init ++ [(b, l)]) (b := true) (l := ⟨#[]⟩) (w := w1) (B := w.heap.size + 1) (gg := gg2) (cap := cap3) (by rw [cellsC_snoc (init ++ [(b, l)])]; simpa using hown1)
                simpa using h3
              · intro x hx
                rcases List.mem_append.1 hx with h1 | h1
                · exact Nat.le_trans (HB.out x h1) (by omega)
                · simp at h1; subst h1; exact Nat.zero_le _
              · exact (keep2 hgrow w.heap.size hsz (by simp [Value.ownBlock]; omega)).1.trans hres
              · exact (keep2 hgrow w.heap.size hsz (by simp [Value.ownBlock]; omega)).2.1.trans hfr
              · exact Nat.lt_trans hsz (keep2 hgrow w.heap.size hsz (by simp [Value.ownBlock]; omega)).2.2
      | some s =>
        have hs1 : s.size ≤ 1000 := HS.out s (List.mem_of_getElem? hx)
        clear hx
        have c1 : wr.cell? ⟨g, k, none⟩ = some (.iface 31 (.string s)) := c0
        clear c0
        have a1 := ta_s9 s
        have a2 := ta_s31 s
        rcases hown with ⟨rfl, rfl⟩ | ⟨gg, cap2, init, b, l, rfl, rfl, hown, hbg, hgl⟩
        · go_wp2
          go_roundg kk
          case measure => omega
          case rel =>
            refine ⟨k + 1, [(false, (⟨#[]⟩ : ByteArray) ++ s)], by have := HK.out; omega, by first | rfl | go_num, comps_of (init := []) ?_, by simp, (fun x hx => by simp at hx; subst hx; have h9 : (⟨#[]⟩ : ByteArray).size = 0 := rfl; simp only [ByteArray.size_append]; omega), rel_step HR.out HX.out (step_some_nil s), ?_, ?_, ?_, hbel.alloc (by omega) _⟩
            · exact World.ownsRow_lit wr #[.bool false, .string ((⟨#[]⟩ : ByteArray) ++ s)] 1 (by omega) (by decide) rfl
            · simp [hsz, hres, World.cell?_alloc_past]
            · exact (keep0 (World.grownBy_alloc wr _ none) w.heap.size hsz (by simp)).2.1.trans hfr
            · exact Nat.lt_of_lt_of_le hsz (by simp)
        · have hil : init.length ≤ 1000 := by simp at hck; have := HK.out; omega
          have d0 : wr.cell? ⟨gg, init.length * 2, none⟩ = some (.bool b) := (hown.cellAt _ (by omega)).trans (cellsC_at0 init b l)
          have d1 : wr.cell? ⟨gg, init.length * 2 + 1, none⟩ = some (.string l) := (hown.cellAt _ (by omega)).trans (cellsC_at1 init b l)
          have df := hown.frozenAt (init.length * 2 + 1)
          have hls : l.size ≤ k * 1000 := HB.out (b, l) (by simp)
          have hls2 : l.size + s.size ≤ 9223372036854775807 := by omega
          go_wp2
          go_roundg kk
          case measure => omega
          case rel =>
            have hst := hown.stored (init.length * 2 + 1) (.string (l ++ s))
            refine ⟨k + 1, init ++ [(b, l ++ s)], by have := HK.out; omega, by first | rfl | go_num, comps_of ?_, by simp at hck ⊢; omega, big_snoc HB.out (by omega) (by simp; omega), rel_step HR.out HX.out (step_some _ _ _ _), ?_, ?_, ?_, hbel.setCell (p := ⟨gg, init.length * 2 + 1, none⟩) (by simp; omega) _⟩
            · rw [← cellsC_set init b l]; exact hst.1
            · exact (keep0 hst.2 w.heap.size hsz (by simp; omega)).1.trans hres
            · exact (keep0 hst.2 w.heap.size hsz (by simp; omega)).2.1.trans hfr
            · exact Nat.lt_of_lt_of_le hsz (keep0 hst.2 w.heap.size hsz (by simp; omega)).2.2
end Go.Proofs.Ytcggmabpbbieaaa
