/-
  FnMatchLength: a text that matches is at least as long as the pieces together, begins with the first one and ends with the last one: the walks. No condition but the law's own.
-/
import Derived.Test.YtcggmabpbbieaaaExact
import Derived.IntWalk
namespace Go.Proofs.Ytcggmabpbbieaaa
open Go.RowKit
/-- WHAT IS KNOWN OF A SLICE OF STRINGS THAT CAME IN: the cells of its elements. -/
def StrCells (w : World) (b off : Nat) (ps : List ByteArray) : Prop := ∀ i s, ps[i]? = some s → w.cell? ⟨b, off + i, none⟩ = some (.string s)
def SomeBool (p : Bool → Prop) (w : World) (e : Ending) (w' : World) : Prop := ∃ b, e = .returned (.bool b) ∧ p b ∧ w = w'
set_option maxHeartbeats 400000 in
theorem fits_any (b off cap : Nat) (ps : List ByteArray) (w : World) (hl : ps.length ≤ 9223372036854775807) (hc : StrCells w b off ps) :
    Calls Try.prog 6 #[.slice (some ⟨b, off, none⟩) ps.length cap] w (SomeBool (fun _ => True) w) := by
  have HC := Lib.hid hc
  clear hc
  by_cases hbig : (2147483647 : Int) < (ps.length : Int)
  · go_enter Try.func6, Try.ntmps6
    go_wp2
    go_ret
    exact ⟨false, rfl, trivial, rfl⟩
  · go_enter Try.func6, Try.ntmps6
    go_wp2
    go_loopg [10] ps.length (fun gk i wr => ∃ k : Nat, k + gk = ps.length ∧ i = .int .i64 k ∧ w = wr)
    case atStart => exact ⟨0, by omega, rfl, rfl⟩
    case round =>
      obtain ⟨k, hkg, rfl, rfl⟩ := hrel
      cases gk with
      | zero =>
        have h0 : ¬ ((k : Int) < (ps.length : Int)) := by omega
        clear hkg
        go_wp2
        go_ret
        exact ⟨true, rfl, trivial, rfl⟩
      | succ kk =>
        have h0 : (k : Int) < (ps.length : Int) := by omega
        obtain ⟨s, hx⟩ : ∃ s, ps[k]? = some s := ⟨_, List.getElem?_eq_getElem (by omega)⟩
        have c0 := HC.out k s hx
        have HK := Lib.hid hkg
        clear hkg hx
        go_wp2
        · go_ret
          exact ⟨false, rfl, trivial, rfl⟩
        · go_roundg kk
          case measure => omega
          case rel => exact ⟨k + 1, by have := HK.out; omega, by first | rfl | go_num, rfl⟩
theorem take_all {ps : List ByteArray} {k : Nat} {s : ByteArray} (hx : ps[k]? = some s) (h : ∀ t ∈ ps.take k, t.size ≤ 20) (hs : s.size ≤ 20) : ∀ t ∈ ps.take (k + 1), t.size ≤ 20 := by
  obtain ⟨hk, rfl⟩ := List.getElem?_eq_some_iff.1 hx
  rw [List.take_succ_eq_append_getElem hk]
  intro t ht
  rcases List.mem_append.1 ht with h1 | h1
  · exact h t h1
  · simp at h1; subst h1; exact hs
theorem sum_step {ps : List ByteArray} {k m : Nat} {t : ByteArray} (hx : ps[k]? = some t) (h : m = ((ps.take k).map fun s => s.size).sum) : m + t.size = ((ps.take (k + 1)).map fun s => s.size).sum := by
  obtain ⟨hk, rfl⟩ := List.getElem?_eq_some_iff.1 hx
  rw [List.take_succ_eq_append_getElem hk, h, List.map_append, List.sum_append]
  simp
/-- The law's own tests, out of the plain law. -/
theorem facts_of {ps : List ByteArray} {s a z : ByteArray} {m k : Nat} (ha : ps[0]? = some a) (hz : ps[ps.length - 1]? = some z) (hk : k = ps.length) (hm : m = ((ps.take k).map fun s => s.size).sum)
    (h : Pat.matchC (Pat.comps (ps.map fun s => s.data.toList)) s.data.toList = true) :
    m ≤ s.size ∧ a.size ≤ s.size ∧ z.size ≤ s.size ∧ ((s.extract 0 a.size).toList == a.toList) = true ∧ ((s.extract (s.size - z.size) s.size).toList == z.toList) = true := by
  cases ps with
  | nil => simp at ha
  | cons x r =>
    simp at ha
    subst ha
    have hb : ((x :: r).map fun s => s.data.toList).getLast? = some z.data.toList := by
      rw [List.getLast?_map, List.getLast?_eq_getElem?, hz]; rfl
    obtain ⟨h1, h2, h3⟩ := Pat.match_len x.data.toList (r.map fun s => s.data.toList) s.data.toList z.data.toList (by simpa using hb) (by simpa using h)
    have e1 : ((x.data.toList :: r.map fun s => s.data.toList).map List.length).sum = ((x :: r).map fun s => s.size).sum := by
      rw [← List.map_cons (f := fun s : ByteArray => s.data.toList), List.map_map]
      congr 1
    rw [e1] at h1
    obtain ⟨t, ht⟩ := h2
    obtain ⟨u, hu⟩ := h3
    have hlx : s.data.toList.length = x.size + t.length := by rw [← ht]; simp
    have hlz : s.data.toList.length = u.length + z.size := by rw [← hu]; simp
    have hls : s.data.toList.length = s.size := by simp
    refine ⟨?_, by omega, by omega, ?_, ?_⟩
    · rw [hm, hk, List.take_length, ← hls]; exact h1
    · rw [Lib.toList_data, Lib.toList_data, Lib.extract_data, ← ht]
      simp
    · rw [Lib.toList_data, Lib.toList_data, Lib.extract_to_end, ← hu]
      have : s.size - z.size = u.length := by omega
      rw [this]
      simp
set_option maxHeartbeats 400000 in
theorem small_any (b off cap : Nat) (ps : List ByteArray) (w : World) (hl : ps.length ≤ 9223372036854775807) (hc : StrCells w b off ps) :
    Calls Try.prog 7 #[.slice (some ⟨b, off, none⟩) ps.length cap] w (SomeBool (fun r => r = true → 1 ≤ ps.length ∧ ps.length ≤ 12 ∧ ∀ s ∈ ps, s.size ≤ 20) w) := by
  have HC := Lib.hid hc
  clear hc
  go_enter Try.func7, Try.ntmps7
  go_wp2
  go_loopg [3] ps.length (fun gk i wr => ∃ k : Nat, k + gk = ps.length ∧ i = .int .i64 k ∧ w = wr ∧ Aside (∀ s ∈ ps.take k, s.size ≤ 20))
  case atStart => exact ⟨0, by omega, rfl, rfl, (fun s hs => by cases hs)⟩
  case round =>
    obtain ⟨k, hkg, rfl, rfl, HA⟩ := hrel
    cases gk with
    | zero =>
      have h0 : ¬ ((k : Int) < (ps.length : Int)) := by omega
      have hsm : ∀ s ∈ ps, s.size ≤ 20 := by
        have := HA.out
        rwa [List.take_of_length_le (by omega)] at this
      have HS := Lib.hid hsm
      clear hkg hsm HA
      by_cases h1 : (1 : Int) ≤ (ps.length : Int)
      · by_cases h2 : (ps.length : Int) ≤ 12
        · go_wp2
          go_ret
          exact ⟨true, rfl, fun _ => ⟨by omega, by omega, HS.out⟩, rfl⟩
        · go_wp2
          go_ret
          exact ⟨false, rfl, fun h => (by cases h), rfl⟩
      · go_wp2
        go_ret
        exact ⟨false, rfl, fun h => (by cases h), rfl⟩
    | succ kk =>
      have h0 : (k : Int) < (ps.length : Int) := by omega
      obtain ⟨s, hx⟩ : ∃ s, ps[k]? = some s := ⟨_, List.getElem?_eq_getElem (by omega)⟩
      have c0 := HC.out k s hx
      have HK := Lib.hid hkg
      have HX := Lib.hid hx
      clear hkg hx
      go_wp2
      · go_ret
        exact ⟨false, rfl, fun h => (by cases h), rfl⟩
      · have hs20 : (s.size : Int) ≤ 20 := by assumption
        go_roundg kk
        case measure => omega
        case rel => exact ⟨k + 1, by have := HK.out; omega, by first | rfl | go_num, rfl, take_all HX.out HA.out (by omega)⟩
set_option maxHeartbeats 1000000 in
theorem law_length (b off cap : Nat) (ps : List ByteArray) (s : ByteArray) (w : World) (hb : b < w.heap.size) (hl : ps.length ≤ 9223372036854775807) (hc : StrCells w b off ps) :
    Calls Try.prog 4 #[.slice (some ⟨b, off, none⟩) ps.length cap, .string s] w fun e w' => e = .returned (.bool true) ∧ Below w.heap.size w w' := by
  have cF := Lib.hid (fits_any b off cap ps w hl hc)
  have cS := Lib.hid (small_any b off cap ps w hl hc)
  have HC := Lib.hid hc
  clear hc
  by_cases hs1 : (2147483647 : Int) < (s.size : Int)
  · go_enter Try.func4, Try.ntmps4
    go_wp2_with fail
    refine cF.out.mono ?_
    rintro e w' ⟨bf, rfl, _, rfl⟩
    cases bf
    · go_wp2_with fail
      go_ret
      exact ⟨rfl, Below.refl _ _⟩
    · go_wp2_with fail
      go_ret
      exact ⟨rfl, Below.refl _ _⟩
  · by_cases hs2 : (60 : Int) < (s.size : Int)
    · go_enter Try.func4, Try.ntmps4
      go_wp2_with fail
      refine cF.out.mono ?_
      rintro e w' ⟨bf, rfl, _, rfl⟩
      cases bf
      · go_wp2_with fail
        go_ret
        exact ⟨rfl, Below.refl _ _⟩
      · go_wp2_with fail
        refine cS.out.mono ?_
        rintro e w' ⟨bs, rfl, _, rfl⟩
        cases bs
        · go_wp2_with fail
          go_ret
          exact ⟨rfl, Below.refl _ _⟩
        · go_wp2_with fail
          go_ret
          exact ⟨rfl, Below.refl _ _⟩
    · go_enter Try.func4, Try.ntmps4
      go_wp2_with fail
      refine cF.out.mono ?_
      rintro e w' ⟨bf, rfl, _, rfl⟩
      cases bf
      · go_wp2_with fail
        go_ret
        exact ⟨rfl, Below.refl _ _⟩
      · go_wp2_with fail
        refine cS.out.mono ?_
        rintro e w' ⟨bs, rfl, hbs, rfl⟩
        cases bs
        · go_wp2_with fail
          go_ret
          exact ⟨rfl, Below.refl _ _⟩
        · obtain ⟨hl1, hl2, hsz⟩ := hbs rfl
          have HSZ := Lib.hid hsz
          clear hbs hsz
          go_wp2_with fail
          go_loopg [5, 6] ps.length (fun gk n i wr => ∃ (k m : Nat), k + gk = ps.length ∧ n = .int .i64 m ∧ i = .int .i64 k ∧ m ≤ 20 * k ∧ Aside (m = ((ps.take k).map fun s => s.size).sum) ∧ Below w.heap.size w wr)
          case atStart => exact ⟨0, 0, by omega, rfl, rfl, by omega, rfl, Below.refl _ _⟩
          case round =>
            obtain ⟨k, m, hkg, rfl, rfl, hm, HM, hbel⟩ := hrel
            cases gk with
            | zero =>
              have h0 : ¬ ((k : Int) < (ps.length : Int)) := by omega
              have hkl : k = ps.length := by omega
              clear hkg
              obtain ⟨a, ha⟩ : ∃ a, ps[0]? = some a := ⟨_, List.getElem?_eq_getElem (by omega)⟩
              obtain ⟨z, hz⟩ : ∃ z, ps[ps.length - 1]? = some z := ⟨_, List.getElem?_eq_getElem (by omega)⟩
              have c0 : wr.cell? ⟨b, off, none⟩ = some (.string a) := (hbel.cell (p := ⟨b, off, none⟩) hb).trans (HC.out 0 a ha)
              have c1 : wr.cell? ⟨b, off + (ps.length - 1), none⟩ = some (.string z) := (hbel.cell (p := ⟨b, off + (ps.length - 1), none⟩) hb).trans (HC.out _ z hz)
              have hw1 : IntKind.i64.wrap ((ps.length : Int) - 1) = (ps.length : Int) - 1 := IntWalk.i64_in _ (by omega)
              have hw2 : (0 : Int) ≤ (ps.length : Int) - 1 := by omega
              have hw2' : (1 : Int) ≤ (ps.length : Int) := by omega
              have hw3 : ((ps.length : Int) - 1).toNat = ps.length - 1 := by omega
              have hw4 : (0 : Int) < (ps.length : Int) := by omega
              have hw5 : (ps.length : Int) - 1 < (ps.length : Int) := by omega
              have ha20 : a.size ≤ 20 := HSZ.out a (List.mem_of_getElem? ha)
              have hz20 : z.size ≤ 20 := HSZ.out z (List.mem_of_getElem? hz)
              have HA := Lib.hid ha
              have HZ := Lib.hid hz
              have HK := Lib.hid hkl
              clear hkl ha hz
              go_wp2_with fail
              go_quiet (fail)
              clear hw1 hw3
              go_wp2_with fail
              refine (impl_stars wr.heap.size 0 s _ (by omega) (by omega) (by simp) (by
                intro i hi
                match i, hi with
                | 0, _ => exact (World.cell?_alloc_at _ _ _ _ rfl).trans rfl
                | 1, _ => exact (World.cell?_alloc_at _ _ _ _ rfl).trans rfl)).mono ?_
              rintro e w1 ⟨rfl, hb1⟩
              have hbw1 : Below w.heap.size w w1 := ((below_drewN hbel nq).alloc (by simpa using hbel.size) _).trans (hb1.mono (by simp; have := hbel.size; omega))
              have cM := Lib.hid (impl_any b off cap ps s w1 (by omega) (Nat.lt_of_lt_of_le hb hbw1.size) (fun t ht => Nat.le_trans (HSZ.out t ht) (by omega)) (by omega) (fun i t ht => (hbw1.cell (p := ⟨b, off + i, none⟩) hb).trans (HC.out i t ht)))
              unfold ImplEnd at cM
              cases hr : Pat.matchC (Pat.comps (ps.map fun s => s.data.toList)) s.data.toList with
              | false =>
                rw [hr] at cM
                have HR := Lib.hid hr
                clear hr
                go_wp2_with fail
                refine cM.out.mono ?_
                rintro e w2 ⟨rfl, hb2⟩
                go_wp2_with fail
                go_ret
                exact ⟨rfl, hbw1.trans (hb2.mono hbw1.size)⟩
              | true =>
                rw [hr] at cM
                obtain ⟨f1, f2, f3, f4, f5⟩ := facts_of HA.out HZ.out HK.out HM.out hr
                have HR := Lib.hid hr
                have f6 : ((s.size : Int) - (z.size : Int)).toNat = s.size - z.size := by omega
                have f7 : (z.size : Int) ≤ (s.size : Int) := by omega
                clear hr
                go_wp2_with fail
                refine cM.out.mono ?_
                rintro e w2 ⟨rfl, hb2⟩
                go_wp2_with fail
                go_ret
                exact ⟨rfl, hbw1.trans (hb2.mono hbw1.size)⟩
            | succ kk =>
              have h0 : (k : Int) < (ps.length : Int) := by omega
              obtain ⟨t, hx⟩ : ∃ s, ps[k]? = some s := ⟨_, List.getElem?_eq_getElem (by omega)⟩
              have c0 : wr.cell? ⟨b, off + k, none⟩ = some (.string t) := (hbel.cell (p := ⟨b, off + k, none⟩) hb).trans (HC.out k t hx)
              have ht : t.size ≤ 20 := HSZ.out t (List.mem_of_getElem? hx)
              have HK := Lib.hid hkg
              have HX := Lib.hid hx
              clear hkg hx
              go_wp2_with fail
              go_roundg kk
              case measure => omega
              case rel => exact ⟨k + 1, m + t.size, by have := HK.out; omega, by first | rfl | go_num, by first | rfl | go_num, by omega, sum_step HX.out HM.out, hbel⟩
end Go.Proofs.Ytcggmabpbbieaaa
