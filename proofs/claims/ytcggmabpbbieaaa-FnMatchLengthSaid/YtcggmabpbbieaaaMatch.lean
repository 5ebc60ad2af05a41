/-
  Patterns: what Pattern.Match answers (its walk): the plain matchC. Condition: texts and components of at most a million bytes, at most a million components.
-/
import Derived.Test.YtcggmabpbbieaaaChunk
import Derived.IntWalk
namespace Go.Proofs.Ytcggmabpbbieaaa
open Go.RowKit
theorem chunk_some_c (c s : ByteArray) (w : World) (hc : c.size ≤ 1000000) (hs : s.size ≤ 1000000) (r : Pat.Bs) (h : Pat.chunk c.data.toList s.data.toList = some r) :
    Calls Try.prog 11 #[.string c, .string s] w fun e w' => e = .returned (.tuple #[.string ⟨r.toArray⟩, .bool true]) ∧ ∃ q, w' = w.drewN q :=
  (chunk_any c s w hc hs).mono fun e w' ⟨he, hq⟩ => ⟨by rw [he]; unfold chunkV; rw [h], hq⟩
theorem chunk_none_c (c s : ByteArray) (w : World) (hc : c.size ≤ 1000000) (hs : s.size ≤ 1000000) (h : Pat.chunk c.data.toList s.data.toList = none) :
    Calls Try.prog 11 #[.string c, .string s] w fun e w' => e = .returned (.tuple #[.string ByteArray.empty, .bool false]) ∧ ∃ q, w' = w.drewN q :=
  (chunk_any c s w hc hs).mono fun e w' ⟨he, hq⟩ => ⟨by rw [he]; unfold chunkV; rw [h], hq⟩
theorem empty_yes (l : ByteArray) (h : l.data.toList = []) : l.toList.isEmpty = true := by rw [Lib.toList_data, h]; rfl
theorem empty_no (l : ByteArray) (h : ¬ l.data.toList = []) : l.toList.isEmpty = false := by
  rw [Lib.toList_data]
  cases hh : l.data.toList with
  | nil => exact absurd hh h
  | cons _ _ => rfl
theorem len_size (t : ByteArray) : t.data.toList.length = t.size := by simp
/-- The components, as plain lists. -/
def plainC (cs : List (Bool × ByteArray)) : List (Bool × Pat.Bs) := cs.map fun x => (x.1, x.2.data.toList)
def St (cs : List (Bool × ByteArray)) (s : ByteArray) (k : Nat) (t : Pat.Bs) : Prop := Pat.matchC (plainC cs) s.data.toList = Pat.matchC (plainC (cs.drop k)) t
theorem drop_at {cs : List (Bool × ByteArray)} {k : Nat} {x : Bool × ByteArray} (hx : cs[k]? = some x) : plainC (cs.drop k) = (x.1, x.2.data.toList) :: plainC (cs.drop (k + 1)) := by
  obtain ⟨hk, rfl⟩ := List.getElem?_eq_some_iff.1 hx
  rw [List.drop_eq_getElem_cons hk]; rfl
theorem rest_empty {cs : List (Bool × ByteArray)} {k : Nat} : (plainC (cs.drop (k + 1))).isEmpty = decide (cs.length ≤ k + 1) := by
  unfold plainC
  rw [Bool.eq_iff_iff]
  simp
theorem st_end {cs : List (Bool × ByteArray)} {s t : ByteArray} {k : Nat} (HA : St cs s k t.data.toList) (hk : k = cs.length) : Pat.matchC (plainC cs) s.data.toList = ((t.size : Int) == 0) := by
  rw [HA, List.drop_eq_nil_of_le (by omega)]
  show t.data.toList.isEmpty = _
  cases hz : t.data.toList with
  | nil =>
    have h0 : t.size = 0 := by rw [← len_size, hz]; rfl
    rw [h0]; rfl
  | cons a r =>
    have h0 : t.size = r.length + 1 := by rw [← len_size, hz]; rfl
    rw [h0]
    exact (beq_eq_false_iff_ne.2 (by omega)).symm
theorem st_true {cs : List (Bool × ByteArray)} {s t lit : ByteArray} {k : Nat} (HA : St cs s k t.data.toList) (hx : cs[k]? = some (true, lit)) (hl : lit.data.toList = []) : Pat.matchC (plainC cs) s.data.toList = true := by
  rw [HA, drop_at hx, hl]; simp [Pat.matchC]
theorem st_cont {cs : List (Bool × ByteArray)} {s t lit : ByteArray} {wc : Bool} {k : Nat} {r : Pat.Bs} (HA : St cs s k t.data.toList) (hx : cs[k]? = some (wc, lit)) (hz : ¬ (wc = true ∧ lit.data.toList = []))
    (hc : Pat.chunk lit.data.toList t.data.toList = some r) (h : r = [] ∨ k + 1 < cs.length) : St cs s (k + 1) r := by
  unfold St
  rw [HA, drop_at hx]
  simp only [Pat.matchC]
  rw [if_neg (by simpa using hz), hc, rest_empty]
  simp only
  rw [if_pos]
  rcases h with rfl | h
  · rfl
  · simp; omega
/-- The chunk does not stand at the text's head, or it is the last one and does not fill the text. -/
def Miss (cs : List (Bool × ByteArray)) (k : Nat) (lit t : Pat.Bs) : Prop := Pat.chunk lit t = none ∨ (k + 1 = cs.length ∧ ∃ r, Pat.chunk lit t = some r ∧ r ≠ [])
theorem st_miss {cs : List (Bool × ByteArray)} {s t lit : ByteArray} {wc : Bool} {k : Nat} (HA : St cs s k t.data.toList) (hx : cs[k]? = some (wc, lit)) (hz : ¬ (wc = true ∧ lit.data.toList = []))
    (hm : Miss cs k lit.data.toList t.data.toList) : Pat.matchC (plainC cs) s.data.toList = if wc then (match Pat.seek lit.data.toList (decide (cs.length ≤ k + 1)) t.data.toList with | some r => Pat.matchC (plainC (cs.drop (k + 1))) r | none => false) else false := by
  rw [HA, drop_at hx]
  simp only [Pat.matchC]
  rw [if_neg (by simpa using hz), rest_empty]
  rcases hm with h | ⟨hk, r, h, hr⟩
  · simp only [h]
    cases wc
    · rfl
    · cases Pat.seek lit.data.toList (decide (cs.length ≤ k + 1)) t.data.toList <;> rfl
  · have hle : cs.length ≤ k + 1 := by omega
    simp only [h]
    rw [if_neg (by simp [hr, hle])]
    cases wc
    · rfl
    · cases Pat.seek lit.data.toList (decide (cs.length ≤ k + 1)) t.data.toList <;> rfl
theorem st_false {cs : List (Bool × ByteArray)} {s t lit : ByteArray} {k : Nat} (HA : St cs s k t.data.toList) (hx : cs[k]? = some (false, lit))
    (hm : Miss cs k lit.data.toList t.data.toList) : Pat.matchC (plainC cs) s.data.toList = false := by
  rw [st_miss HA hx (by simp) hm]; rfl
/-- The inner loop at place j. -/
def Sk (cs : List (Bool × ByteArray)) (k j : Nat) (lit t : Pat.Bs) : Prop := Pat.seek lit (decide (cs.length ≤ k + 1)) t = Pat.seek lit (decide (cs.length ≤ k + 1)) (t.drop j)
theorem tail_at (t : ByteArray) (j : Nat) : (t.extract (j + 1) t.size).data.toList = t.data.toList.drop (j + 1) := Lib.extract_to_end t (j + 1)
theorem sk_open {cs : List (Bool × ByteArray)} {k j : Nat} {lit : Pat.Bs} {t : ByteArray} (h : Sk cs k j lit t.data.toList) (hj : j < t.size) :
    Pat.seek lit (decide (cs.length ≤ k + 1)) t.data.toList = (match Pat.chunk lit (t.data.toList.drop (j + 1)) with
      | some r => if decide (cs.length ≤ k + 1) && !r.isEmpty then Pat.seek lit (decide (cs.length ≤ k + 1)) (t.data.toList.drop (j + 1)) else some r
      | none => Pat.seek lit (decide (cs.length ≤ k + 1)) (t.data.toList.drop (j + 1))) := by
  have hj' : j < t.data.toList.length := by simpa using hj
  rw [h, List.drop_eq_getElem_cons hj']
  rfl
theorem sk_next {cs : List (Bool × ByteArray)} {k j : Nat} {lit : Pat.Bs} {t : ByteArray} (h : Sk cs k j lit t.data.toList) (hj : j < t.size)
    (hm : Miss cs k lit (t.extract (j + 1) t.size).data.toList) : Sk cs k (j + 1) lit t.data.toList := by
  rw [tail_at] at hm
  unfold Sk
  rw [sk_open h hj]
  rcases hm with hc | ⟨hk, r, hc, hr⟩
  · rw [hc]
  · rw [hc]
    have hle : cs.length ≤ k + 1 := by omega
    simp only
    rw [if_pos]
    simp [hr, hle]
theorem sk_found {cs : List (Bool × ByteArray)} {s t lit : ByteArray} {k j : Nat} {r : Pat.Bs} (HA : St cs s k t.data.toList) (hx : cs[k]? = some (true, lit)) (hz : ¬ lit.data.toList = []) (hm : Miss cs k lit.data.toList t.data.toList)
    (h : Sk cs k j lit.data.toList t.data.toList) (hj : j < t.size) (hc : Pat.chunk lit.data.toList (t.extract (j + 1) t.size).data.toList = some r) (hr : r = [] ∨ k + 1 < cs.length) : St cs s (k + 1) r := by
  unfold St
  rw [st_miss HA hx (by simpa using hz) hm, if_pos rfl, sk_open h hj, ← tail_at, hc]
  simp only
  rw [if_neg]
  rcases hr with rfl | hr
  · simp
  · simp; omega
theorem sk_end {cs : List (Bool × ByteArray)} {s t lit : ByteArray} {k j : Nat} (HA : St cs s k t.data.toList) (hx : cs[k]? = some (true, lit)) (hz : ¬ lit.data.toList = []) (hm : Miss cs k lit.data.toList t.data.toList)
    (h : Sk cs k j lit.data.toList t.data.toList) (hj : j = t.size) : Pat.matchC (plainC cs) s.data.toList = false := by
  rw [st_miss HA hx (by simpa using hz) hm, if_pos rfl, h, List.drop_eq_nil_of_le (by rw [len_size]; omega)]
  rfl
theorem chunk_len {c s r : Pat.Bs} (h : Pat.chunk c s = some r) : r.length ≤ s.length := by
  rw [Pat.chunk_some _ _ _ h]; simp
theorem list_data (l : Pat.Bs) : (⟨l.toArray⟩ : ByteArray).data.toList = l := by simp
def MatchEnd (cs : List (Bool × ByteArray)) (s : ByteArray) (w : World) (e : Ending) (w' : World) : Prop := e = .returned (.bool (Pat.matchC (plainC cs) s.data.toList)) ∧ Below w.heap.size w w'

set_option maxRecDepth 100000 in
set_option maxHeartbeats 4000000 in
theorem match_any (g cap : Nat) (cs : List (Bool × ByteArray)) (s : ByteArray) (w : World) (hs : s.size ≤ 1000000) (hn : cs.length ≤ 1000000) (hg : g < w.heap.size)
    (hcs : ∀ x ∈ cs, x.2.size ≤ 1000000)
    (hc : ∀ i x, cs[i]? = some x → w.cell? ⟨g, i * 2, none⟩ = some (.bool x.1) ∧ w.cell? ⟨g, i * 2 + 1, none⟩ = some (.string x.2)) :
    Calls Try.prog 9 #[.agg #[.slice (some ⟨g, 0, none⟩) cs.length cap], .string s] w (MatchEnd cs s w) := by
  have HC := Lib.hid hc
  have HS := Lib.hid hcs
  clear hc hcs
  go_enter Try.func9, Try.ntmps9
  go_wp2
  go_step3
  go_wp2
  go_step3
  go_wp2
  go_loopg [1, 16] cs.length (fun gk x i wr => ∃ (k : Nat) (t : ByteArray), k + gk = cs.length ∧ t.size ≤ 1000000 ∧ i = .int .i64 k ∧ x = .string t ∧ wr.cell? ⟨w.heap.size, 0, none⟩ = some (.slice (some ⟨g, 0, none⟩) cs.length cap) ∧ w.heap.size < wr.heap.size ∧ Below w.heap.size w wr ∧
    Aside (St cs s k t.data.toList))
  case atStart => exact ⟨0, s, by omega, hs, rfl, rfl, by simp, by simp, (Below.refl _ _).alloc (Nat.le_refl _) _, rfl⟩
  case round =>
    obtain ⟨k, t, hkg, ht, rfl, rfl, hp, hlt, hbel, HA⟩ := hrel
    cases gk with
    | zero =>
      have h0 : ¬ ((k : Int) < (cs.length : Int)) := by omega
      have HK := Lib.hid hkg
      clear hkg
      go_wp2
      go_ret
      exact ⟨by rw [st_end HA.out (by have := HK.out; omega)]; rfl, hbel⟩
    | succ kk =>
      have h0 : (k : Int) < (cs.length : Int) := by omega
      obtain ⟨x, hx⟩ : ∃ x, cs[k]? = some x := ⟨_, List.getElem?_eq_getElem (by omega)⟩
      obtain ⟨wc, lit⟩ := x
      obtain ⟨c0, c1⟩ := HC.out k _ hx
      have c0' : wr.cell? ⟨g, k * 2, none⟩ = some (.bool wc) := (hbel.cell (p := ⟨g, k * 2, none⟩) hg).trans c0
      have c1' : wr.cell? ⟨g, k * 2 + 1, none⟩ = some (.string lit) := (hbel.cell (p := ⟨g, k * 2 + 1, none⟩) hg).trans c1
      have hls : lit.size ≤ 1000000 := HS.out _ (List.mem_of_getElem? hx)
      have hg' : g < wr.heap.size := by omega
      have HX := Lib.hid hx
      have HK := Lib.hid hkg
      have hbel2 : Below w.heap.size w (wr.alloc (.cells #[.bool wc, .string lit] 37)) := hbel.alloc (by omega) _
      have HP2 : Hid ((wr.alloc (.cells #[.bool wc, .string lit] 37)).cell? ⟨w.heap.size, 0, none⟩ = some (.slice (some ⟨g, 0, none⟩) cs.length cap)) := Lib.hid ((World.cell?_alloc_past _ _ _ hlt).trans hp)
      clear c0 c1 hx
      by_cases hz : wc = true ∧ lit.data.toList = []
      · obtain ⟨rfl, hl⟩ := hz
        have hl' := empty_yes lit hl
        clear hkg
        have HL := Lib.hid hl
        clear hl
        go_wp2
        rw [Exit.noGoto_ret]
        go_ret
        exact ⟨by rw [st_true HA.out HX.out HL.out]; rfl, hbel2⟩
      · cases hch : Pat.chunk lit.data.toList t.data.toList with

        | some r =>
          have hrs : r.length ≤ 1000000 := by have h1 := chunk_len hch; rw [len_size] at h1; omega
          have cC := Lib.hid (fun W => chunk_some_c lit t W hls ht r hch)
          by_cases hlast : kk = 0
          · cases r with
            | nil =>
              cases wc with
              | true =>
                have hl' := empty_no lit (fun h => hz ⟨rfl, h⟩)
                have HZ : Hid (¬ lit.data.toList = []) := Lib.hid (fun h => hz ⟨rfl, h⟩)
                clear hz
                have hl1 : ((k : Int) == (cs.length : Int) - 1) = true := beq_iff_eq.2 (by omega)
                have HCh := Lib.hid hch
                clear hch hkg
                have hr0 : ((([] : Pat.Bs).length : Int) == 0) = true := rfl
                go_wp2_with (go_at_call 11; refine (cC.out _).mono ?_; rintro e w' ⟨rfl, q, rfl⟩)
                go_roundg kk
                case measure => omega
                case rel => exact ⟨k + 1, ⟨([]).toArray⟩, by have := HK.out; omega, by rw [← len_size, list_data]; exact hrs, by first | rfl | go_num, rfl, HP2.out, by simp; omega, below_drewN hbel2 q, by rw [list_data]; exact st_cont HA.out HX.out (fun h => HZ.out h.2) HCh.out (.inl rfl)⟩
              | false =>
                clear hz
                have hl1 : ((k : Int) == (cs.length : Int) - 1) = true := beq_iff_eq.2 (by omega)
                have HCh := Lib.hid hch
                clear hch hkg
                have hr0 : ((([] : Pat.Bs).length : Int) == 0) = true := rfl
                go_wp2_with (go_at_call 11; refine (cC.out _).mono ?_; rintro e w' ⟨rfl, q, rfl⟩)
                go_roundg kk
                case measure => omega
                case rel => exact ⟨k + 1, ⟨([]).toArray⟩, by have := HK.out; omega, by rw [← len_size, list_data]; exact hrs, by first | rfl | go_num, rfl, HP2.out, by simp; omega, below_drewN hbel2 q, by rw [list_data]; exact st_cont HA.out HX.out (fun h => by cases h.1) HCh.out (.inl rfl)⟩
            | cons a r =>
              have hr0 : (((a :: r).length : Int) == 0) = false := beq_eq_false_iff_ne.2 (by simp; omega)
              cases wc with
              | false =>
                clear hz
                have hl1 : ((k : Int) == (cs.length : Int) - 1) = true := beq_iff_eq.2 (by omega)
                have HCh := Lib.hid hch
                clear hch hkg
                go_wp2_with (go_at_call 11; refine (cC.out _).mono ?_; rintro e w' ⟨rfl, q, rfl⟩)
                rw [Exit.noGoto_ret]
                go_ret
                exact ⟨by rw [st_false HA.out HX.out (.inr ⟨by have := HK.out; omega, _, HCh.out, by simp⟩)]; rfl, below_drewN hbel2 q⟩
              | true =>
                have hl' := empty_no lit (fun h => hz ⟨rfl, h⟩)
                have HZ : Hid (¬ lit.data.toList = []) := Lib.hid (fun h => hz ⟨rfl, h⟩)
                clear hz
                have hl1 : ((k : Int) == (cs.length : Int) - 1) = true := beq_iff_eq.2 (by omega)
                have HCh := Lib.hid hch
                clear hch hkg
                go_wp2_with (go_at_call 11; refine (cC.out _).mono ?_; rintro e w' ⟨rfl, q, rfl⟩)
                have HM := Lib.hid (show Miss cs k lit.data.toList t.data.toList from .inr ⟨by have := HK.out; omega, _, HCh.out, by simp⟩)
                clear cC
                obtain ⟨wo, rfl⟩ : ∃ wo : World, wo = wr := ⟨_, rfl⟩
                go_loopg [1, 10] t.size (fun g2 x i wi => ∃ j : Nat, j + g2 = t.size ∧ x = .string t ∧ i = .int .i64 j ∧ wi.cell? ⟨wo.heap.size, 1, none⟩ = some (.string lit) ∧ wi.cell? ⟨w.heap.size, 0, none⟩ = some (.slice (some ⟨g, 0, none⟩) cs.length cap) ∧ wo.heap.size < wi.heap.size ∧ Below w.heap.size w wi ∧ Aside (Sk cs k j lit.data.toList t.data.toList))
                case atStart => exact ⟨0, by omega, rfl, rfl, by simp, HP2.out, by simp, below_drewN hbel2 q, rfl⟩
                case round =>
                  obtain ⟨j, hjg, rfl, rfl, hcl, hcp, hsz3, hbel3, HSk⟩ := hrel
                  clear HP2 hbel2
                  cases gk with
                  | zero =>
                    have hj0 : ¬ ((j : Int) < (t.size : Int)) := by omega
                    have HJ := Lib.hid hjg
                    clear hjg
                    go_wp2
                    go_ret
                    exact ⟨by rw [sk_end HA.out HX.out HZ.out HM.out HSk.out (by have := HJ.out; omega)]; rfl, hbel3⟩
                  | succ g2 =>
                    have hj0 : (j : Int) < (t.size : Int) := by omega
                    have hj1 : j < t.size := by omega
                    have HJ := Lib.hid hjg
                    have hes : (t.extract (j + 1) t.size).size ≤ 1000000 := by simp; omega
                    clear hjg
                    cases hc2 : Pat.chunk lit.data.toList (t.extract (j + 1) t.size).data.toList with
                    | none =>
                      have cC2 := Lib.hid (fun W => chunk_none_c lit (t.extract (j + 1) t.size) W hls hes hc2)
                      have HC2 := Lib.hid hc2
                      clear hc2
                      have hw1 : IntKind.i64.wrap ((j : Int) + 1) = (j : Int) + 1 := IntWalk.i64_in _ (by omega)
                      have hw2 : (0 : Int) ≤ (j : Int) + 1 := by omega
                      have hw3 : ((j : Int) + 1).toNat = j + 1 := by omega
                      have hw4 : (j : Int) + 1 ≤ (t.size : Int) := by omega
                      go_wp2_with fail
                      go_quiet ((go_at_call 11; exact Calls.quiet_of (cC2.out _)))
                      clear hw1 hw3
                      go_wp2
                      go_roundg g2
                      case measure => omega
                      case rel => exact ⟨j + 1, by have := HJ.out; omega, rfl, by first | rfl | go_num, hcl, hcp, by simpa using hsz3, below_drewN hbel3 _, sk_next HSk.out hj1 (.inl HC2.out)⟩
                    | some r2 =>
                      have hrs : r2.length ≤ 1000000 := by have h1 := chunk_len hc2; rw [len_size] at h1; omega
                      have cC2 := Lib.hid (fun W => chunk_some_c lit (t.extract (j + 1) t.size) W hls hes r2 hc2)
                      cases r2 with
                      | nil =>
                        have HC2 := Lib.hid hc2
                        clear hc2
                        have hw1 : IntKind.i64.wrap ((j : Int) + 1) = (j : Int) + 1 := IntWalk.i64_in _ (by omega)
                        have hw2 : (0 : Int) ≤ (j : Int) + 1 := by omega
                        have hw3 : ((j : Int) + 1).toNat = j + 1 := by omega
                        have hw4 : (j : Int) + 1 ≤ (t.size : Int) := by omega
                        go_wp2_with fail
                        go_quiet ((go_at_call 11; exact Calls.quiet_of (cC2.out _)))
                        clear hw1 hw3
                        go_wp2
                        go_roundg kk
                        case measure => omega
                        case rel => exact ⟨k + 1, ⟨([]).toArray⟩, by have := HK.out; omega, by rw [← len_size, list_data]; exact hrs, by first | rfl | go_num, rfl, hcp, by simpa using (Nat.lt_trans hlt hsz3), below_drewN hbel3 _, by rw [list_data]; exact sk_found HA.out HX.out HZ.out HM.out HSk.out hj1 HC2.out (.inl rfl)⟩
                      | cons b r2 =>
                        have hb0 : (0 : Int) < ((b :: r2).length : Int) := by simp
                        have HC2 := Lib.hid hc2
                        clear hc2
                        have hw1 : IntKind.i64.wrap ((j : Int) + 1) = (j : Int) + 1 := IntWalk.i64_in _ (by omega)
                        have hw2 : (0 : Int) ≤ (j : Int) + 1 := by omega
                        have hw3 : ((j : Int) + 1).toNat = j + 1 := by omega
                        have hw4 : (j : Int) + 1 ≤ (t.size : Int) := by omega
                        go_wp2_with fail
                        go_quiet ((go_at_call 11; exact Calls.quiet_of (cC2.out _)))
                        clear hw1 hw3
                        go_wp2
                        go_roundg g2
                        case measure => omega
                        case rel => exact ⟨j + 1, by have := HJ.out; omega, rfl, by first | rfl | go_num, hcl, hcp, by simpa using hsz3, below_drewN hbel3 _, sk_next HSk.out hj1 (.inr ⟨by have := HK.out; omega, _, HC2.out, by simp⟩)⟩
          · cases r with
            | nil =>
              cases wc with
              | true =>
                have hl' := empty_no lit (fun h => hz ⟨rfl, h⟩)
                have HZ : Hid (¬ lit.data.toList = []) := Lib.hid (fun h => hz ⟨rfl, h⟩)
                clear hz
                have hl1 : ((k : Int) == (cs.length : Int) - 1) = false := beq_eq_false_iff_ne.2 (by omega)
                have HCh := Lib.hid hch
                clear hch hkg
                have hr0 : ((([] : Pat.Bs).length : Int) == 0) = true := rfl
                go_wp2_with (go_at_call 11; refine (cC.out _).mono ?_; rintro e w' ⟨rfl, q, rfl⟩)
                go_roundg kk
                case measure => omega
                case rel => exact ⟨k + 1, ⟨([]).toArray⟩, by have := HK.out; omega, by rw [← len_size, list_data]; exact hrs, by first | rfl | go_num, rfl, HP2.out, by simp; omega, below_drewN hbel2 q, by rw [list_data]; exact st_cont HA.out HX.out (fun h => HZ.out h.2) HCh.out (.inl rfl)⟩
              | false =>
                clear hz
                have hl1 : ((k : Int) == (cs.length : Int) - 1) = false := beq_eq_false_iff_ne.2 (by omega)
                have HCh := Lib.hid hch
                clear hch hkg
                have hr0 : ((([] : Pat.Bs).length : Int) == 0) = true := rfl
                go_wp2_with (go_at_call 11; refine (cC.out _).mono ?_; rintro e w' ⟨rfl, q, rfl⟩)
                go_roundg kk
                case measure => omega
                case rel => exact ⟨k + 1, ⟨([]).toArray⟩, by have := HK.out; omega, by rw [← len_size, list_data]; exact hrs, by first | rfl | go_num, rfl, HP2.out, by simp; omega, below_drewN hbel2 q, by rw [list_data]; exact st_cont HA.out HX.out (fun h => by cases h.1) HCh.out (.inl rfl)⟩
            | cons a r =>
              cases wc with
              | true =>
                have hl' := empty_no lit (fun h => hz ⟨rfl, h⟩)
                have HZ : Hid (¬ lit.data.toList = []) := Lib.hid (fun h => hz ⟨rfl, h⟩)
                clear hz
                have hl1 : ((k : Int) == (cs.length : Int) - 1) = false := beq_eq_false_iff_ne.2 (by omega)
                have HCh := Lib.hid hch
                clear hch hkg
                have hr0 : (((a :: r).length : Int) == 0) = false := beq_eq_false_iff_ne.2 (by simp; omega)
                go_wp2_with (go_at_call 11; refine (cC.out _).mono ?_; rintro e w' ⟨rfl, q, rfl⟩)
                go_roundg kk
                case measure => omega
                case rel => exact ⟨k + 1, ⟨(a :: r).toArray⟩, by have := HK.out; omega, by rw [← len_size, list_data]; exact hrs, by first | rfl | go_num, rfl, HP2.out, by simp; omega, below_drewN hbel2 q, by rw [list_data]; exact st_cont HA.out HX.out (fun h => HZ.out h.2) HCh.out (.inr (by have := HK.out; omega))⟩
              | false =>
                clear hz
                have hl1 : ((k : Int) == (cs.length : Int) - 1) = false := beq_eq_false_iff_ne.2 (by omega)
                have HCh := Lib.hid hch
                clear hch hkg
                have hr0 : (((a :: r).length : Int) == 0) = false := beq_eq_false_iff_ne.2 (by simp; omega)
                go_wp2_with (go_at_call 11; refine (cC.out _).mono ?_; rintro e w' ⟨rfl, q, rfl⟩)
                go_roundg kk
                case measure => omega
                case rel => exact ⟨k + 1, ⟨(a :: r).toArray⟩, by have := HK.out; omega, by rw [← len_size, list_data]; exact hrs, by first | rfl | go_num, rfl, HP2.out, by simp; omega, below_drewN hbel2 q, by rw [list_data]; exact st_cont HA.out HX.out (fun h => by cases h.1) HCh.out (.inr (by have := HK.out; omega))⟩
        | none =>
          have cC := Lib.hid (fun W => chunk_none_c lit t W hls ht hch)
          cases wc with
          | false =>
            clear hz
            have HCh := Lib.hid hch
            clear hch hkg
            go_wp2_with (go_at_call 11; refine (cC.out _).mono ?_; rintro e w' ⟨rfl, q, rfl⟩)
            rw [Exit.noGoto_ret]
            go_ret
            exact ⟨by rw [st_false HA.out HX.out (.inl HCh.out)]; rfl, below_drewN hbel2 q⟩
          | true =>
            by_cases hlast : kk = 0
            · skip
              have hl' := empty_no lit (fun h => hz ⟨rfl, h⟩)
              have HZ : Hid (¬ lit.data.toList = []) := Lib.hid (fun h => hz ⟨rfl, h⟩)
              clear hz
              have hl1 : ((k : Int) == (cs.length : Int) - 1) = true := beq_iff_eq.2 (by omega)
              have HCh := Lib.hid hch
              clear hch hkg
              go_wp2_with (go_at_call 11; refine (cC.out _).mono ?_; rintro e w' ⟨rfl, q, rfl⟩)
              have HM := Lib.hid (show Miss cs k lit.data.toList t.data.toList from .inl HCh.out)
              clear cC
              obtain ⟨wo, rfl⟩ : ∃ wo : World, wo = wr := ⟨_, rfl⟩
              go_loopg [1, 10] t.size (fun g2 x i wi => ∃ j : Nat, j + g2 = t.size ∧ x = .string t ∧ i = .int .i64 j ∧ wi.cell? ⟨wo.heap.size, 1, none⟩ = some (.string lit) ∧ wi.cell? ⟨w.heap.size, 0, none⟩ = some (.slice (some ⟨g, 0, none⟩) cs.length cap) ∧ wo.heap.size < wi.heap.size ∧ Below w.heap.size w wi ∧ Aside (Sk cs k j lit.data.toList t.data.toList))
              case atStart => exact ⟨0, by omega, rfl, rfl, by simp, HP2.out, by simp, below_drewN hbel2 q, rfl⟩
              case round =>
                obtain ⟨j, hjg, rfl, rfl, hcl, hcp, hsz3, hbel3, HSk⟩ := hrel
                clear HP2 hbel2
                cases gk with
                | zero =>
                  have hj0 : ¬ ((j : Int) < (t.size : Int)) := by omega
                  have HJ := Lib.hid hjg
                  clear hjg
                  go_wp2
                  go_ret
                  exact ⟨by rw [sk_end HA.out HX.out HZ.out HM.out HSk.out (by have := HJ.out; omega)]; rfl, hbel3⟩
                | succ g2 =>
                  have hj0 : (j : Int) < (t.size : Int) := by omega
                  have hj1 : j < t.size := by omega
                  have HJ := Lib.hid hjg
                  have hes : (t.extract (j + 1) t.size).size ≤ 1000000 := by simp; omega
                  clear hjg
                  cases hc2 : Pat.chunk lit.data.toList (t.extract (j + 1) t.size).data.toList with
                  | none =>
                    have cC2 := Lib.hid (fun W => chunk_none_c lit (t.extract (j + 1) t.size) W hls hes hc2)
                    have HC2 := Lib.hid hc2
                    clear hc2
                    have hw1 : IntKind.i64.wrap ((j : Int) + 1) = (j : Int) + 1 := IntWalk.i64_in _ (by omega)
                    have hw2 : (0 : Int) ≤ (j : Int) + 1 := by omega
                    have hw3 : ((j : Int) + 1).toNat = j + 1 := by omega
                    have hw4 : (j : Int) + 1 ≤ (t.size : Int) := by omega
                    go_wp2_with fail
                    go_quiet ((go_at_call 11; exact Calls.quiet_of (cC2.out _)))
                    clear hw1 hw3
                    go_wp2
                    go_roundg g2
                    case measure => omega
                    case rel => exact ⟨j + 1, by have := HJ.out; omega, rfl, by first | rfl | go_num, hcl, hcp, by simpa using hsz3, below_drewN hbel3 _, sk_next HSk.out hj1 (.inl HC2.out)⟩
                  | some r2 =>
                    have hrs : r2.length ≤ 1000000 := by have h1 := chunk_len hc2; rw [len_size] at h1; omega
                    have cC2 := Lib.hid (fun W => chunk_some_c lit (t.extract (j + 1) t.size) W hls hes r2 hc2)
                    cases r2 with
                    | nil =>
                      have HC2 := Lib.hid hc2
                      clear hc2
                      have hw1 : IntKind.i64.wrap ((j : Int) + 1) = (j : Int) + 1 := IntWalk.i64_in _ (by omega)
                      have hw2 : (0 : Int) ≤ (j : Int) + 1 := by omega
                      have hw3 : ((j : Int) + 1).toNat = j + 1 := by omega
                      have hw4 : (j : Int) + 1 ≤ (t.size : Int) := by omega
                      go_wp2_with fail
                      go_quiet ((go_at_call 11; exact Calls.quiet_of (cC2.out _)))
                      clear hw1 hw3
                      go_wp2
                      go_roundg kk
                      case measure => omega
                      case rel => exact ⟨k + 1, ⟨([]).toArray⟩, by have := HK.out; omega, by rw [← len_size, list_data]; exact hrs, by first | rfl | go_num, rfl, hcp, by simpa using (Nat.lt_trans hlt hsz3), below_drewN hbel3 _, by rw [list_data]; exact sk_found HA.out HX.out HZ.out HM.out HSk.out hj1 HC2.out (.inl rfl)⟩
                    | cons b r2 =>
                      have hb0 : (0 : Int) < ((b :: r2).length : Int) := by simp
                      have HC2 := Lib.hid hc2
                      clear hc2
                      have hw1 : IntKind.i64.wrap ((j : Int) + 1) = (j : Int) + 1 := IntWalk.i64_in _ (by omega)
                      have hw2 : (0 : Int) ≤ (j : Int) + 1 := by omega
                      have hw3 : ((j : Int) + 1).toNat = j + 1 := by omega
                      have hw4 : (j : Int) + 1 ≤ (t.size : Int) := by omega
                      go_wp2_with fail
                      go_quiet ((go_at_call 11; exact Calls.quiet_of (cC2.out _)))
                      clear hw1 hw3
                      go_wp2
                      go_roundg g2
                      case measure => omega
                      case rel => exact ⟨j + 1, by have := HJ.out; omega, rfl, by first | rfl | go_num, hcl, hcp, by simpa using hsz3, below_drewN hbel3 _, sk_next HSk.out hj1 (.inr ⟨by have := HK.out; omega, _, HC2.out, by simp⟩)⟩
            · skip
              have hl' := empty_no lit (fun h => hz ⟨rfl, h⟩)
              have HZ : Hid (¬ lit.data.toList = []) := Lib.hid (fun h => hz ⟨rfl, h⟩)
              clear hz
              have hl1 : ((k : Int) == (cs.length : Int) - 1) = false := beq_eq_false_iff_ne.2 (by omega)
              have HCh := Lib.hid hch
              clear hch hkg
              go_wp2_with (go_at_call 11; refine (cC.out _).mono ?_; rintro e w' ⟨rfl, q, rfl⟩)
              have HM := Lib.hid (show Miss cs k lit.data.toList t.data.toList from .inl HCh.out)
              clear cC
              obtain ⟨wo, rfl⟩ : ∃ wo : World, wo = wr := ⟨_, rfl⟩
              go_loopg [1, 10] t.size (fun g2 x i wi => ∃ j : Nat, j + g2 = t.size ∧ x = .string t ∧ i = .int .i64 j ∧ wi.cell? ⟨wo.heap.size, 1, none⟩ = some (.string lit) ∧ wi.cell? ⟨w.heap.size, 0, none⟩ = some (.slice (some ⟨g, 0, none⟩) cs.length cap) ∧ wo.heap.size < wi.heap.size ∧ Below w.heap.size w wi ∧ Aside (Sk cs k j lit.data.toList t.data.toList))
              case atStart => exact ⟨0, by omega, rfl, rfl, by simp, HP2.out, by simp, below_drewN hbel2 q, rfl⟩
              case round =>
                obtain ⟨j, hjg, rfl, rfl, hcl, hcp, hsz3, hbel3, HSk⟩ := hrel
                clear HP2 hbel2
                cases gk with
                | zero =>
                  have hj0 : ¬ ((j : Int) < (t.size : Int)) := by omega
                  have HJ := Lib.hid hjg
                  clear hjg
                  go_wp2
                  go_ret
                  exact ⟨by rw [sk_end HA.out HX.out HZ.out HM.out HSk.out (by have := HJ.out; omega)]; rfl, hbel3⟩
                | succ g2 =>
                  have hj0 : (j : Int) < (t.size : Int) := by omega
                  have hj1 : j < t.size := by omega
                  have HJ := Lib.hid hjg
                  have hes : (t.extract (j + 1) t.size).size ≤ 1000000 := by simp; omega
                  clear hjg
                  cases hc2 : Pat.chunk lit.data.toList (t.extract (j + 1) t.size).data.toList with
                  | none =>
                    have cC2 := Lib.hid (fun W => chunk_none_c lit (t.extract (j + 1) t.size) W hls hes hc2)
                    have HC2 := Lib.hid hc2
                    clear hc2
                    have hw1 : IntKind.i64.wrap ((j : Int) + 1) = (j : Int) + 1 := IntWalk.i64_in _ (by omega)
                    have hw2 : (0 : Int) ≤ (j : Int) + 1 := by omega
                    have hw3 : ((j : Int) + 1).toNat = j + 1 := by omega
                    have hw4 : (j : Int) + 1 ≤ (t.size : Int) := by omega
                    go_wp2_with fail
                    go_quiet ((go_at_call 11; exact Calls.quiet_of (cC2.out _)))
                    clear hw1 hw3
                    go_wp2
                    go_roundg g2
                    case measure => omega
                    case rel => exact ⟨j + 1, by have := HJ.out; omega, rfl, by first | rfl | go_num, hcl, hcp, by simpa using hsz3, below_drewN hbel3 _, sk_next HSk.out hj1 (.inl HC2.out)⟩
                  | some r2 =>
                    have hrs : r2.length ≤ 1000000 := by have h1 := chunk_len hc2; rw [len_size] at h1; omega
                    have cC2 := Lib.hid (fun W => chunk_some_c lit (t.extract (j + 1) t.size) W hls hes r2 hc2)
                    have HC2 := Lib.hid hc2
                    clear hc2
                    have hw1 : IntKind.i64.wrap ((j : Int) + 1) = (j : Int) + 1 := IntWalk.i64_in _ (by omega)
                    have hw2 : (0 : Int) ≤ (j : Int) + 1 := by omega
                    have hw3 : ((j : Int) + 1).toNat = j + 1 := by omega
                    have hw4 : (j : Int) + 1 ≤ (t.size : Int) := by omega
                    go_wp2_with fail
                    go_quiet ((go_at_call 11; exact Calls.quiet_of (cC2.out _)))
                    clear hw1 hw3
                    go_wp2
                    go_roundg kk
                    case measure => omega
                    case rel => exact ⟨k + 1, ⟨(r2).toArray⟩, by have := HK.out; omega, by rw [← len_size, list_data]; exact hrs, by first | rfl | go_num, rfl, hcp, by simpa using (Nat.lt_trans hlt hsz3), below_drewN hbel3 _, by rw [list_data]; exact sk_found HA.out HX.out HZ.out HM.out HSk.out hj1 HC2.out (.inr (by have := HK.out; omega))⟩
end Go.Proofs.Ytcggmabpbbieaaa
