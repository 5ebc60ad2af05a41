/-
  FnReserved: IsReservedKeyword (a search in a list of ten words) answers as the reference's switch over the ten words. No condition.
-/
import Derived.Test.YtjcjappbopjgkaaRows
import Derived.WalkKit
import Derived.ProofKit
import Derived.OpenShut
import Derived.ShutString
import Derived.WalkSpells
import Derived.WalkLawsBesides
import Derived.Below
import Derived.Calls
import Derived.Lib.Hide
namespace Go.Proofs.Ytjcjappbopjgkaa
open Go.RowKit
/-- The ten words, in the order of the text. -/
def kws : List (List UInt8) := [[116, 114, 117, 101], [102, 97, 108, 115, 101], [105, 102], [116, 104, 101, 110], [101, 108, 115, 101], [105, 110], [108, 105, 107, 101], [104, 97, 115], [105, 115], [95, 95, 99, 101, 100, 97, 114]]
def isKw (l : List UInt8) : Bool := kws.contains l
theorem spec_any (x : ByteArray) (w : World) :
    Calls Try.prog 8 #[.string x] w fun e w' => e = .returned (.bool (isKw x.toList)) ∧ w = w' := by
  go_enter Try.func8, Try.ntmps8
  go_wp2
  all_goals (go_ret; exact ⟨by simp_all [isKw, kws], rfl⟩)
/-- What slices.Index answers. -/
def Idx (zs : List ByteArray) (x : ByteArray) (w : World) (e : Ending) (w' : World) : Prop :=
  ∃ k : Int, e = .returned (.int .i64 k) ∧ decide (0 ≤ k) = (zs.map (·.toList)).contains x.toList ∧ w = w'
theorem idx_yes {zs : List ByteArray} {x : ByteArray} {k : Nat} (hk : k < zs.length) (h : (x.toList == zs[k].toList) = true) :
    decide (0 ≤ (k : Int)) = (zs.map (·.toList)).contains x.toList := by
  have : x.toList ∈ zs.map (·.toList) := by
    rw [eq_of_beq h]; exact List.mem_map.2 ⟨zs[k], List.getElem_mem hk, rfl⟩
  rw [List.contains_iff_mem.2 this]
  exact decide_eq_true (by omega)
theorem idx_no {zs : List ByteArray} {x : ByteArray} (h : ∀ j, (hj : j < zs.length) → (x.toList == zs[j].toList) = false) :
    decide (0 ≤ (-1 : Int)) = (zs.map (·.toList)).contains x.toList := by
  have : ¬ x.toList ∈ zs.map (·.toList) := by
    intro hm
    obtain ⟨z, hz, he⟩ := List.mem_map.1 hm
    obtain ⟨j, hj, rfl⟩ := List.mem_iff_getElem.1 hz
    have := h j hj
    simp [he] at this
  have h2 : (zs.map (·.toList)).contains x.toList = false := by
    cases hc : (zs.map (·.toList)).contains x.toList with
    | false => rfl
    | true => exact absurd (List.contains_iff_mem.1 hc) this
  rw [h2]; rfl
theorem index_any (zs : List ByteArray) (b : Nat) (x : ByteArray) (w : World) (hn : zs.length ≤ 1000) (hc : ∀ j, j < zs.length → w.cell? ⟨b, j, none⟩ = some (.string (zs[j]?.getD ByteArray.empty))) :
    Calls Try.prog 28 #[.slice (some ⟨b, 0, none⟩) zs.length zs.length, .string x] w (Idx zs x w) := by
  have HC := Lib.hid hc
  clear hc
  go_enter Try.func28, Try.ntmps28
  go_wp2
  go_loop [8] (fun i => ∃ k : Nat, k ≤ zs.length ∧ i = .int .i64 k ∧ Hid (∀ j, (hj : j < zs.length) → j < k → (x.toList == zs[j].toList) = false)) (fun i => zs.length - (intOf i).toNat)
  case atStart => exact ⟨0, Nat.zero_le _, rfl, Lib.hid (fun j _ hj => by omega)⟩
  case round =>
    obtain ⟨k, hk, rfl, hall⟩ := hrel
    by_cases hlt : k < zs.length
    · have hcell := HC.out k hlt
      go_wp2
      · have ht : (x.toList == zs[k].toList) = true := by assumption
        go_ret
        exact ⟨k, rfl, idx_yes hlt ht, rfl⟩
      · have ht : (x.toList == zs[k].toList) = false := by assumption
        go_round
        case rel => exact ⟨k + 1, by omega, by go_num, Lib.hid (fun j hj hjk => (by
          by_cases h : j < k
          · exact hall.out j hj h
          · obtain rfl : j = k := by omega
            exact ht))⟩
        case measure => simp [intOf]; omega
    · have he : k = zs.length := by omega
      subst he
      go_wp2
      go_ret
      exact ⟨-1, rfl, idx_no fun j hj => hall.out j hj hj, rfl⟩
def kwz : List ByteArray := [⟨#[116, 114, 117, 101]⟩, ⟨#[102, 97, 108, 115, 101]⟩, ⟨#[105, 102]⟩, ⟨#[116, 104, 101, 110]⟩, ⟨#[101, 108, 115, 101]⟩, ⟨#[105, 110]⟩, ⟨#[108, 105, 107, 101]⟩, ⟨#[104, 97, 115]⟩, ⟨#[105, 115]⟩, ⟨#[95, 95, 99, 101, 100, 97, 114]⟩]
def KwBlock (W : World) (e : Ending) (w : World) : Prop := e = .returned (.slice (some ⟨W.heap.size, 0, none⟩) 10 10) ∧ w = W.alloc (.cells (kwz.map Value.string).toArray 9)
theorem kw_any (w : World) : Calls Try.prog 24 #[] w (KwBlock w) := by
  go_enter Try.func24, Try.ntmps24
  go_wp2
  go_ret
  exact ⟨rfl, rfl⟩
theorem kwz_toList : kwz.map (·.toList) = kws := by kernel_rfl
theorem kw_cells (W : World) (j : Nat) (hj : j < kwz.length) : (W.alloc (.cells (kwz.map Value.string).toArray 9)).cell? ⟨W.heap.size, j, none⟩ = some (.string (kwz[j]?.getD ByteArray.empty)) := by
  rw [World.cell?_alloc_new]
  simp [List.getElem?_eq_getElem hj]
theorem contains_any (n : Nat) (zs : List ByteArray) (hz : zs.length = n) (b : Nat) (x : ByteArray) (w : World) (hn : n ≤ 1000) (hc : ∀ j, j < zs.length → w.cell? ⟨b, j, none⟩ = some (.string (zs[j]?.getD ByteArray.empty))) :
    Calls Try.prog 23 #[.slice (some ⟨b, 0, none⟩) n n, .string x] w fun e w' => e = .returned (.bool ((zs.map (·.toList)).contains x.toList)) ∧ w = w' := by
  subst hz
  have HI := Lib.hid (index_any zs b x w hn hc)
  clear hc
  obtain ⟨r, hr⟩ : ∃ r, r = (zs.map (·.toList)).contains x.toList := ⟨_, rfl⟩
  rw [← hr]
  have HR := Lib.hid hr
  clear hr
  go_enter Try.func23, Try.ntmps23
  go_wp2_with fail
  refine HI.out.mono ?_
  rintro e w' ⟨k, rfl, hk, rfl⟩
  have HK := Lib.hid (hk.trans HR.out.symm)
  clear hk
  go_wp2_with fail
  go_ret
  exact ⟨by rw [← HK.out]; rfl, rfl⟩
def KwIs (x : ByteArray) (W : World) (e : Ending) (w : World) : Prop := e = .returned (.bool (isKw x.toList)) ∧ w = W.alloc (.cells (kwz.map Value.string).toArray 9)
theorem isKw_eq (x : ByteArray) : (kwz.map (·.toList)).contains x.toList = isKw x.toList := by rw [kwz_toList]; rfl
theorem isReserved_any (x : ByteArray) (w : World) : Calls Try.prog 17 #[.string x] w (KwIs x w) := by
  have HC := Lib.hid (contains_any 10 kwz rfl w.heap.size x (w.alloc (.cells (kwz.map Value.string).toArray 9)) (by decide) (kw_cells w))
  rw [isKw_eq] at HC
  go_enter Try.func17, Try.ntmps17
  go_wp2_with fail
  refine (kw_any w).mono ?_
  rintro e w' ⟨rfl, rfl⟩
  go_wp2_with fail
  refine HC.out.mono ?_
  rintro e w' ⟨rfl, rfl⟩
  go_wp2_with fail
  go_ret
  exact ⟨rfl, rfl⟩
theorem reserved_any (x : ByteArray) (w : World) : Calls Try.prog 7 #[.string x] w (KwIs x w) := by
  go_enter Try.func7, Try.ntmps7
  go_wp2_with fail
  refine (isReserved_any x w).mono ?_
  rintro e w' ⟨rfl, rfl⟩
  go_wp2_with fail
  go_ret
  exact ⟨rfl, rfl⟩
theorem law_any (x : ByteArray) (hx : x.size ≤ maxLen) (w : World) : Calls Try.prog 4 #[.string x] w fun e w' => e = .returned (.bool true) ∧ Grown w w' := by
  unfold maxLen at hx
  by_cases hs : x.size ≤ 2147483647
  · go_enter Try.func4, Try.ntmps4
    go_wp2_with fail
    refine (reserved_any x w).mono ?_
    rintro e w' ⟨rfl, rfl⟩
    go_wp2_with fail
    refine (spec_any x _).mono ?_
    rintro e w' ⟨rfl, rfl⟩
    go_wp2_with fail
    go_ret
    exact ⟨by simp, (Grown.refl _).alloc _ _⟩
  · go_enter Try.func4, Try.ntmps4
    go_wp2_with fail
    go_ret
    exact ⟨rfl, Grown.refl _⟩
end Go.Proofs.Ytjcjappbopjgkaa
