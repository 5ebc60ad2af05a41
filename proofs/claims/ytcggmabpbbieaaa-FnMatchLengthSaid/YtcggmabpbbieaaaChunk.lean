/-
  Patterns: what matchChunk answers (its walk). Condition: both texts are at most a million bytes long.
-/
import Derived.Test.YtcggmabpbbieaaaRows
import Derived.Test.YtcggmabpbbieaaaPlain
import Derived.WalkKit
import Derived.ProofKit
import Derived.OpenShut
import Derived.ShutString
import Derived.WalkSpells
import Derived.WalkLawsBesides
import Derived.Below
import Derived.Lib.Hide
import Derived.Lib.IndexBytes
import Derived.Deep.LoopGhost
import Derived.Deep.QuietTactic
import Derived.BigQuiet
namespace Go.Proofs.Ytcggmabpbbieaaa
open Go.RowKit
theorem cons_data (c : ByteArray) (h : 0 < c.size) : c.data.toList = c[0] :: (c.extract 1 c.size).data.toList := by
  rw [Lib.extract_to_end]
  have hl : 0 < c.data.toList.length := by simpa using h
  conv => lhs; rw [← List.drop_zero (l := c.data.toList), List.drop_eq_getElem_cons hl]
  rfl
theorem nil_data (c : ByteArray) (h : c.size = 0) : c.data.toList = [] := by
  have : c.data.toList.length = 0 := by simpa using h
  exact List.length_eq_zero_iff.1 this
theorem mk_data (c : ByteArray) : (⟨c.data.toList.toArray⟩ : ByteArray) = c := by simp
def chunkV (l r : Pat.Bs) : Value := match Pat.chunk l r with
  | some t => .tuple #[.string ⟨t.toArray⟩, .bool true]
  | none => .tuple #[.string ByteArray.empty, .bool false]
def ChunkEnd (l r : Pat.Bs) (w : World) (e : Ending) (w' : World) : Prop := e = .returned (chunkV l r) ∧ ∃ q, w' = w.drewN q
theorem drewn2 (w : World) (a b : Nat) : ∃ q, (w.drewN a).drewN b = w.drewN q := ⟨_, World.drewN_drewN w a b⟩
theorem u8_ne {a b : UInt8} (h : ((a.toNat : Int) != b.toNat) = true) : (a == b) = false := by
  have h1 : (a.toNat : Int) ≠ b.toNat := by simpa using h
  exact beq_eq_false_iff_ne.2 fun e => h1 (by rw [e])
theorem u8_eq {a b : UInt8} (h : ((a.toNat : Int) != b.toNat) = false) : (a == b) = true := by
  have h1 : (a.toNat : Int) = b.toNat := by simpa using h
  exact beq_iff_eq.2 (UInt8.toNat_inj.1 (by omega))
theorem chunk_done {c s c' s' : ByteArray} (HA : Aside (Pat.chunk c.data.toList s.data.toList = Pat.chunk c'.data.toList s'.data.toList)) (h : c'.size = 0) : chunkV c.data.toList s.data.toList = .tuple #[.string s', .bool true] := by
  unfold chunkV
  rw [HA.out, nil_data c' h]
  simp [Pat.chunk]
theorem chunk_out {c s c' s' : ByteArray} (HA : Aside (Pat.chunk c.data.toList s.data.toList = Pat.chunk c'.data.toList s'.data.toList)) (h : 0 < c'.size) (hs : s'.size = 0) : chunkV c.data.toList s.data.toList = .tuple #[.string ByteArray.empty, .bool false] := by
  unfold chunkV
  rw [HA.out, cons_data c' h, nil_data s' hs]
  rfl
theorem chunk_ne {c s c' s' : ByteArray} (HA : Aside (Pat.chunk c.data.toList s.data.toList = Pat.chunk c'.data.toList s'.data.toList)) (h : 0 < c'.size) (hs : 0 < s'.size) (hb : ((c'[0].toNat : Int) != s'[0].toNat) = true) : chunkV c.data.toList s.data.toList = .tuple #[.string ByteArray.empty, .bool false] := by
  unfold chunkV
  rw [HA.out, cons_data c' h, cons_data s' hs]
  simp [Pat.chunk, u8_ne hb]
theorem chunk_eq {c s c' s' : ByteArray} (HA : Aside (Pat.chunk c.data.toList s.data.toList = Pat.chunk c'.data.toList s'.data.toList)) (h : 0 < c'.size) (hs : 0 < s'.size) (hb : ((c'[0].toNat : Int) != s'[0].toNat) = false) :
    Pat.chunk c.data.toList s.data.toList = Pat.chunk (c'.extract 1 c'.size).data.toList (s'.extract 1 s'.size).data.toList := by
  rw [HA.out, cons_data c' h, cons_data s' hs]
  have := u8_eq hb
  simp [Pat.chunk, this]
set_option maxHeartbeats 400000 in
theorem chunk_any (c s : ByteArray) (w : World) (hc : c.size ≤ 1000000) (hs : s.size ≤ 1000000) :
    Calls Try.prog 11 #[.string c, .string s] w (ChunkEnd c.data.toList s.data.toList w) := by
  go_enter Try.func11, Try.ntmps11
  go_wp2
  go_loopg [0, 1] c.size (fun g x y wr => ∃ (c' s' : ByteArray) (q : Nat), c'.size = g ∧ c'.size ≤ 1000000 ∧ s'.size ≤ 1000000 ∧ x = .string c' ∧ y = .string s' ∧ wr = w.drewN q ∧ Aside (Pat.chunk c.data.toList s.data.toList = Pat.chunk c'.data.toList s'.data.toList))
  case atStart => exact ⟨c, s, 0, rfl, hc, hs, rfl, rfl, rfl, rfl⟩
  case round =>
    obtain ⟨c', s', q, hg, hc', hs', rfl, rfl, rfl, HA⟩ := hrel
    cases gk with
    | zero =>
      have h0 : ¬ (0 < (c'.size : Int)) := by omega
      have HG := Lib.hid hg
      clear hg
      go_wp2
      go_ret2
      exact ⟨by rw [chunk_done HA HG.out]; rfl, q, rfl⟩
    | succ g =>
      have h0 : 0 < c'.size := by omega
      have HG := Lib.hid hg
      clear hg
      by_cases hz : s'.size = 0
      · have hz' : ((s'.size : Int) == 0) = true := by simp [hz]
        have HZ := Lib.hid hz
        clear hz
        go_wp2
        go_ret2
        exact ⟨by rw [chunk_out HA h0 HZ.out]; rfl, q, rfl⟩
      · have hz' : ((s'.size : Int) == 0) = false := beq_eq_false_iff_ne.2 (by omega)
        have h1 : 0 < s'.size := by omega
        clear hz
        go_wp2
        go_quiet (fail)
        go_wp2
        · have hb : ((c'[0].toNat : Int) != s'[0].toNat) = true := by assumption
          go_ret2
          exact ⟨by rw [chunk_ne HA h0 h1 hb]; rfl, drewn2 _ _ _⟩
        · have hb : ((c'[0].toNat : Int) != s'[0].toNat) = false := by assumption
          go_roundg g
          case measure => omega
          case rel => exact ⟨c'.extract 1 c'.size, s'.extract 1 s'.size, q + nq, by have := HG.out; simp; omega, by simp; omega, by simp; omega, rfl, rfl, rfl, chunk_eq HA h0 h1 hb⟩
end Go.Proofs.Ytcggmabpbbieaaa
