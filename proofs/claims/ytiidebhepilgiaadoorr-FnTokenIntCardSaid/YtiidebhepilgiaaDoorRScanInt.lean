import Derived.Test.YtiidebhepilgiaaDoorRLast
import Derived.Deep.LoopGhost
/-
  The scanner: an integer; its text.
-/
namespace Go.Proofs.YtiidebhepilgiaaDoorR
open Go.RowKit
set_option maxRecDepth 1000000
theorem notWhite (x : Int) (h1 : ¬ x = 9) (h2 : ¬ x = 10) (h3 : ¬ x = 13) (h4 : ¬ x = 32) (w : World) : Calls Tryd.prog 33 #[.int .i32 x] w fun e w' => e = .returned (.bool false) ∧ w' = w := by
  go_enter Tryd.func33, Tryd.ntmps33
  go_wp2
  go_ret
  exact ⟨rfl, rfl⟩
theorem isDec (x : Int) (h1 : 48 ≤ x) (h2 : x ≤ 57) (w : World) : Calls Tryd.prog 30 #[.int .i32 x] w fun e w' => e = .returned (.bool true) ∧ w' = w := by
  go_enter Tryd.func30, Tryd.ntmps30
  go_wp2
  go_ret
  exact ⟨rfl, rfl⟩
theorem notDec (w : World) : Calls Tryd.prog 30 #[.int .i32 (-1)] w fun e w' => e = .returned (.bool false) ∧ w' = w := by
  go_enter Tryd.func30, Tryd.ntmps30
  go_wp2
  go_ret
  exact ⟨rfl, rfl⟩
theorem notIdent (x : Int) (h1 : 48 ≤ x) (h2 : x ≤ 57) (w : World) : Calls Tryd.prog 35 #[.int .i32 x, .bool true] w fun e w' => e = .returned (.bool false) ∧ w' = w := by
  have g2 : ¬ 65 ≤ x := by omega
  have g3 : ¬ 97 ≤ x := by omega
  have g4 : (x == 95) = false := beq_eq_false_iff_ne.2 (by omega)
  go_enter Tryd.func35, Tryd.ntmps35
  go_wp2
  go_ret
  exact ⟨by simp, rfl⟩
/-- What the scan of an integer begins with: the first sign is read. -/
structure Start (b sb n : Nat) (l : List UInt8) (C : Nat → Value) : Prop where
  len : l.length = n
  n0 : 1 ≤ n
  n1 : n ≤ 64
  hsb : sb < b
  hsb2 : 2 < sb
  dig : ∀ j (hj : j < l.length), 48 ≤ l[j].toNat ∧ l[j].toNat ≤ 57
  bytes : ∀ j (hj : j < l.length), C (1 + j) = .int .u8 (l[j].toNat : Int)
  c0 : C 0 = .iface 57 (.pointer (some ⟨sb, 0, none⟩))
  c1 : C (1 + n) = .int .u8 128
  c3 : C 1027 = .int .i64 n
  c4 : C 1028 = .int .i64 0
  c7 : C 1033 = .slice none 0 0
  c8 : C 1034 = .int .i64 0
  c9 : ∃ t, C 1035 = .int .i8 t
  c10 : C 1036 = .int .i64 0
/-- Behind k signs. -/
def Mid (b sb g0 n cap : Nat) (ea : Addr) (C : Nat → Value) (w : World) (k : Nat) (wx : World) : Prop :=
  ∃ (Ck : Nat → Value) (lr : Int), Sc b Ck wx ∧ Ck 1026 = .int .i64 k ∧ Ck 1030 = .int .i64 k ∧ Ck 1032 = .int .i64 1 ∧ (∀ i, i ≠ 1026 → i ≠ 1030 → i ≠ 1032 → Ck i = C i) ∧ Src sb g0 n cap n lr wx ∧ Fr b sb w wx ∧ wx.cell? ⟨2, 0, none⟩ = some (.iface 65 (.pointer (some ea)))
/-- Behind the last sign. -/
def Fin (b sb g0 n cap : Nat) (l : List UInt8) (C : Nat → Value) (w : World) (wx : World) : Prop :=
  ∃ (g : Nat) (D : Nat → Value), b < g ∧ Sc b D wx ∧ Row g l wx ∧ g < wx.heap.size ∧ Src sb g0 0 cap 0 0 wx ∧ Fr b sb w wx ∧ D 1026 = .int .i64 0 ∧ D 1027 = .int .i64 0 ∧ D 1028 = .int .i64 n ∧ D 1029 = C 1029 ∧ D 1030 = .int .i64 (n + 1) ∧ D 1032 = .int .i64 0 ∧
    D 1033 = .slice (some ⟨g, 0, none⟩) n 64 ∧ D 1034 = .int .i64 0 ∧ D 1035 = .int .i8 0 ∧ D 1036 = .int .i64 0 ∧ ∀ i, 1037 ≤ i → D i = C i
theorem stepMid {b sb g0 n cap k : Nat} {ea : Addr} {l : List UInt8} {C : Nat → Value} {w wx : World} (S : Start b sb n l C) (h : Mid b sb g0 n cap ea C w k wx) (hk : k < n) (x : Nat) (hx : ∀ hj : k < l.length, l[k].toNat = x) :
    Calls Tryd.prog 32 #[.pointer (some ⟨b, 0, none⟩)] wx fun e w' => e = .returned (.int .i32 x) ∧ Mid b sb g0 n cap ea C w (k + 1) w' := by
  obtain ⟨Ck, lr, hs, h1, h2, h3, hc, hsr, hb, hE⟩ := h
  have hkl : k < l.length := by rw [S.len]; exact hk
  have hn1 := S.n1
  have hd := S.dig k hkl
  have hx' := hx hkl
  refine (nextAscii b k k x Ck wx hs h1 (by omega) (by rw [hc _ (by omega) (by omega) (by omega), S.bytes k hkl, hx']) (by omega) (by omega) h2 (by omega)).mono ?_
  rintro e w' ⟨rfl, hs', hb', hk'⟩
  have hsb := S.hsb
  have hsb2 := S.hsb2
  refine ⟨rfl, stepC Ck k k, lr, hs', by simp [stepC, upd], by simp [stepC, upd], by simp [stepC, upd], ?_, hsr.of (hb'.block sb hsb), hb.trans (Fr.ofB hb' hsb fun k h1 _ => hk' k h1), (hb'.cell (p := ⟨2, 0, none⟩) (by show 2 < b; omega)).trans hE⟩
  intro i h1 h2 h3
  simp only [stepC, upd]
  rw [if_neg h2, if_neg h3, if_neg h1, hc i h1 h2 h3]
theorem stepFin {b sb g0 n cap : Nat} {ea : Addr} {l : List UInt8} {C : Nat → Value} {w wx : World} (S : Start b sb n l C) (h : Mid b sb g0 n cap ea C w n wx) :
    Calls Tryd.prog 32 #[.pointer (some ⟨b, 0, none⟩)] wx fun e w' => e = .returned (.int .i32 (-1)) ∧ Fin b sb g0 n cap l C w w' := by
  obtain ⟨Ck, lr, hs, h1, h2, h3, hc, hsr, hb, hE⟩ := h
  obtain ⟨t, ht⟩ := S.c9
  have hn1 := S.n1
  have hn0 := S.n0
  have hlen := S.len
  have oc : ∀ i, i ≠ 1026 → i ≠ 1030 → i ≠ 1032 → ∀ v, C i = v → Ck i = v := fun i a b c v hv => (hc i a b c).trans hv
  refine (nextEnd b sb g0 n cap n ea Ck l lr t wx hs hsr S.hsb S.hsb2 S.len S.n0 S.n1 (by omega) (fun j hj => oc _ (by omega) (by omega) (by omega) _ (S.bytes j hj)) hE
    (oc _ (by omega) (by omega) (by omega) _ S.c0) (oc _ (by omega) (by omega) (by omega) _ S.c1) h1 (oc _ (by omega) (by omega) (by omega) _ S.c3) (oc _ (by omega) (by omega) (by omega) _ S.c4) h2 h3
    (oc _ (by omega) (by omega) (by omega) _ S.c7) (oc _ (by omega) (by omega) (by omega) _ S.c8) (oc _ (by omega) (by omega) (by omega) _ ht) (oc _ (by omega) (by omega) (by omega) _ S.c10)).mono ?_
  rintro e w' ⟨rfl, ⟨g, hg, hs', hr, hlt⟩, hsr', hb'⟩
  refine ⟨rfl, g, _, hg, hs', hr, hlt, hsr', hb.trans hb', by simp [endC, upd], by simp [endC, upd], by simp [endC, upd], ?_, by simp [endC, upd], by simp [endC, upd], by simp [endC, upd, tokC], ?_, by simp [endC, upd, tokC], by simp [endC, upd], ?_⟩
  · simp [endC, upd, tokC]
    exact hc 1029 (by omega) (by omega) (by omega)
  · simp [endC, upd, tokC]
    exact oc 1034 (by omega) (by omega) (by omega) _ S.c8
  · intro i hi
    simp only [endC, upd, tokC]
    rw [if_neg (by omega), if_neg (by omega), if_neg (by omega), if_neg (by omega), if_neg (by omega), if_neg (by omega), if_neg (by omega), if_neg (by omega), if_neg (by omega)]
    exact hc i (by omega) (by omega) (by omega)
theorem scanInt (b sb g0 n cap x : Nat) (ea : Addr) (l : List UInt8) (C : Nat → Value) (w : World) (S : Start b sb n l C) (h : Mid b sb g0 n cap ea C w 1 w) (hx : ∀ hj : 0 < l.length, l[0].toNat = x) :
    Calls Tryd.prog 37 #[.pointer (some ⟨b, 0, none⟩), .int .i32 x] w fun e w' => e = .returned (.int .i32 (-1)) ∧ Fin b sb g0 n cap l C w w' := by
  have HS := Lib.hid S
  have HM := Lib.hid h
  have HX := Lib.hid hx
  clear S h hx
  go_enter Tryd.func37, Tryd.ntmps37
  go_wp2
  go_loopg [1] n (fun gk s1 wx => (∃ k y : Nat, k + gk = n + 1 ∧ 1 ≤ k ∧ 1 ≤ gk ∧ s1 = .int .i32 y ∧ 48 ≤ y ∧ y ≤ 57 ∧ Mid b sb g0 n cap ea C w k wx) ∨ (gk = 0 ∧ s1 = .int .i32 (-1) ∧ Fin b sb g0 n cap l C w wx))
  case atStart =>
    have hl : 0 < l.length := by rw [HS.out.len]; exact HS.out.n0
    have hd := HS.out.dig 0 hl
    rw [HX.out hl] at hd
    exact .inl ⟨1, x, by omega, Nat.le_refl _, HS.out.n0, rfl, hd.1, hd.2, HM.out⟩
  case round =>
    rcases hrel with ⟨k, y, hk, hk1, hg1, rfl, hy0, hy1, hm⟩ | ⟨hg, rfl, hf⟩
    · have D := Lib.hid (isDec y (by omega) (by omega) wr)
      rcases Nat.lt_or_ge k n with hkn | hkn
      · have hkl : k < l.length := by rw [HS.out.len]; exact hkn
        have N := Lib.hid (stepMid HS.out hm hkn l[k].toNat (fun _ => rfl))
        have hd := HS.out.dig k hkl
        generalize l[k].toNat = z at *
        clear hm
        go_wp2_with fail
        refine D.out.mono ?_
        rintro e w' ⟨rfl, rfl⟩
        go_wp2_with fail
        refine N.out.mono ?_
        rintro e w' ⟨rfl, hm'⟩
        have HM' := Lib.hid hm'
        clear hm'
        go_wp2_with fail
        go_roundg (gk - 1)
        case measure => omega
        case rel => exact .inl ⟨k + 1, z, by omega, by omega, by omega, rfl, hd.1, hd.2, HM'.out⟩
      · obtain rfl : k = n := by omega
        have N := Lib.hid (stepFin HS.out hm)
        clear hm
        go_wp2_with fail
        refine D.out.mono ?_
        rintro e w' ⟨rfl, rfl⟩
        go_wp2_with fail
        refine N.out.mono ?_
        rintro e w' ⟨rfl, hm'⟩
        have HM' := Lib.hid hm'
        clear hm'
        go_wp2_with fail
        go_roundg 0
        case measure => omega
        case rel => exact .inr ⟨rfl, rfl, HM'.out⟩
    · have D := Lib.hid (notDec wr)
      have HF := Lib.hid hf
      clear hf
      go_wp2_with fail
      refine D.out.mono ?_
      rintro e w' ⟨rfl, rfl⟩
      go_wp2_with fail
      go_ret
      exact ⟨rfl, HF.out⟩
end Go.Proofs.YtiidebhepilgiaaDoorR
