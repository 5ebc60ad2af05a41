import Derived.Test.YtcggmabpbbieaaaDoorUnits
import Derived.Deep.CutRange
import Derived.Deep.CutBlock
/-
  types.ParseDuration of a number of one unit.
-/
namespace Go.Proofs.YtcggmabpbbieaaaDoor
open Go.RowKit Go.Sort
/-- Inside ParseDuration: its result's block is empty still, the program's error lies where it should. -/
def St (w : World) (b0 : Nat) (a : Addr) (wr : World) : Prop :=
  wr.cell? ⟨b0, 0, none⟩ = some (.int .i64 0) ∧ wr.frozen? ⟨b0, 0, none⟩ = false ∧ wr.cell? ⟨0, 0, none⟩ = some (.iface 78 (.pointer (some a))) ∧ b0 < wr.heap.size ∧ Below w.heap.size w wr ∧ w.heap.size ≤ b0 ∧ 0 < w.heap.size
theorem St.on {w wr w' : World} {b0 : Nat} {a : Addr} (h : St w b0 a wr) (hb : Below wr.heap.size wr w') : St w b0 a w' := by
  obtain ⟨h1, h2, h3, h4, h5, h6, h7⟩ := h
  have hs := h5.size
  refine ⟨(hb.cell (p := ⟨b0, 0, none⟩) h4).trans h1, (hb.frozen (p := ⟨b0, 0, none⟩) h4).trans h2, (hb.cell (p := ⟨0, 0, none⟩) (by show 0 < _; omega)).trans h3, Nat.lt_of_lt_of_le h4 hb.size, h5.trans (hb.mono hs), h6, h7⟩
theorem St.err {w wr : World} {b0 : Nat} {a : Addr} (h : St w b0 a wr) (v : Value) : (wr.setCell ⟨b0, 0, none⟩ v).cell? ⟨0, 0, none⟩ = some (.iface 78 (.pointer (some a))) := by
  obtain ⟨h1, h2, h3, h4, h5, h6, h7⟩ := h
  rw [World.cell?_of_block (w := wr) (Below.heap_setCell wr ⟨b0, 0, none⟩ v 0 (by show 0 ≠ b0; omega))]
  exact h3
theorem quoMax (M : Nat) : Int.tdiv 9223372036854775807 (M : Int) = ((9223372036854775807 / M : Nat) : Int) := rfl
def uHead (k : Nat) : Int := match k with | 0 => 100 | 1 => 104 | 2 => 109 | 3 => 115 | _ => 109
theorem uName_ne (k t : Nat) (hk : k < 5) (ht : t < 5) (h : t ≠ k) : (uName k == uName t) = false := by
  match k, t, hk, ht, h with
  | 0, 0, _, _, h => exact absurd rfl h
  | 1, 1, _, _, h => exact absurd rfl h
  | 2, 2, _, _, h => exact absurd rfl h
  | 3, 3, _, _, h => exact absurd rfl h
  | 4, 4, _, _, h => exact absurd rfl h
  | 0, 1, _, _, _ | 0, 2, _, _, _ | 0, 3, _, _, _ | 0, 4, _, _, _ | 1, 0, _, _, _ | 1, 2, _, _, _ | 1, 3, _, _, _ | 1, 4, _, _, _ | 2, 0, _, _, _ | 2, 1, _, _, _ | 2, 3, _, _, _ | 2, 4, _, _, _ | 3, 0, _, _, _ | 3, 1, _, _, _ | 3, 2, _, _, _ | 3, 4, _, _, _ | 4, 0, _, _, _ | 4, 1, _, _, _ | 4, 2, _, _, _ | 4, 3, _, _, _ => rfl
/-- What ParseDuration hands back: a value and no error where ok, an error that is not nil elsewhere. -/
def PEnd (w : World) (ok : Prop) (e : Ending) (w' : World) : Prop :=
  Below w.heap.size w w' ∧ ∃ (v : Int) (E : Value), e = .returned (.tuple #[.agg #[.int .i64 v], E]) ∧ ((ok ∧ E = .nilIface) ∨ (¬ ok ∧ ∃ a, E = .iface 78 (.pointer (some a))))
theorem PEnd.ok {w w' : World} {ok : Prop} {x : Int} (hb : Below w.heap.size w w') (h : ok) : PEnd w ok (.returned (.tuple #[.agg #[.int .i64 x], .nilIface])) w' :=
  ⟨hb, x, _, rfl, .inl ⟨h, rfl⟩⟩
theorem PEnd.err {w w' : World} {ok : Prop} {a : Addr} {x : Int} (hb : Below w.heap.size w w') (h : ¬ ok) : PEnd w ok (.returned (.tuple #[.agg #[.int .i64 x], .iface 78 (.pointer (some a))])) w' :=
  ⟨hb, x, _, rfl, .inr ⟨h, a, rfl⟩⟩
set_option maxRecDepth 1000000 in
set_option maxHeartbeats 4000000 in
theorem parse (s : ByteArray) (o d u k n M : Nat) (B : Nat → Int) (a : Addr) (w : World) (hk : k < 5) (ho : o ≤ 1) (hd1 : 1 ≤ d) (hd2 : d ≤ 20) (hu : (uName k).length = u) (hs : s.size = o + d + u)
    (hM : uSize k = M) (hn : n / 10 ^ d = 0)
    (hB : ∀ i (h : i < s.size), ((s[i]'h).toNat : Int) = B i) (hB0 : o = 0 → B 0 ≠ 45) (hB1 : o = 1 → B 0 = 45)
    (hBd : ∀ j, j < d → B (o + j) = 48 + (n / 10 ^ (d - 1 - j) % 10 : Nat))
    (hBu : B (o + d) = uHead k) (hB2 : k = 4 → B (o + d + 1) = 115) (hUs : k ≠ 4 → s.extract (o + d) (o + d + 1) = ⟨(uName k).toArray⟩)
    (hE : w.cell? ⟨0, 0, none⟩ = some (.iface 78 (.pointer (some a)))) :
    Calls Tryd.prog 13 #[.string s] w (PEnd w (n ≤ 9223372036854775807 / M)) := by
  have hu2 : u ≤ 2 := by have := uName_le k; omega
  have hu1 : 1 ≤ u := by
    rw [← hu]
    match k, hk with
    | 0, _ | 1, _ | 2, _ | 3, _ | 4, _ => decide
  have hs2 : ¬ (s.size ≤ 1) := by omega
  have hs3 : ¬ ((s.size : Int) ≤ 1) := by omega
  have HS := Lib.hid hs
  have HU := Lib.hid hu
  have HM := Lib.hid hM
  have HN := Lib.hid hn
  have HBD := Lib.hid hBd
  have HB0 := Lib.hid hB0
  have HB1 := Lib.hid hB1
  have HE := Lib.hid hE
  have HBU := Lib.hid hBu
  have HB2 := Lib.hid hB2
  have HUS := Lib.hid hUs
  clear hs hu hM hn hBd hB0 hB1 hE hBu hB2 hUs
  have h0s : 0 < s.size := by omega
  go_enter Tryd.func13, Tryd.ntmps13
  go_upto_if 23 with fail
  have hst : St w w.heap.size a (w.alloc (Obj.cells #[Value.int IntKind.i64 0] 35)) := by
    refine ⟨alloc_cell w _ 35 0, by simp, ?_, by simp, (Below.refl _ _).alloc (Nat.le_refl _) _, Nat.le_refl _, block_lt_of_cell HE.out⟩
    rw [World.cell?_of_block (w := w) (Below.heap_alloc _ _ _ (block_lt_of_cell HE.out))]
    exact HE.out
  generalize w.alloc (Obj.cells #[Value.int IntKind.i64 0] 35) = W0 at *
  go_cut [4, 6] from 23 to 25 (fun s4 s6 wx => s4 = .int .i64 o ∧ (∃ z : Int, s6 = .int .i64 z) ∧ W0 = wx)
  case first =>
    rcases Nat.eq_zero_or_pos o with hz | hz
    · have hb0 : (B 0 == 45) = false := beq_eq_false_iff_ne.2 (HB0.out hz)
      have HZ := Lib.hid hz
      clear hz
      go_wp2_with fail
      go_meet
      case rel => exact ⟨by rw [HZ.out]; rfl, ⟨_, rfl⟩, rfl⟩
    · have hb0 : (B 0 == 45) = true := by rw [HB1.out (by omega)]; rfl
      have hz1 : o = 1 := by omega
      have HZ := Lib.hid hz1
      clear hz hz1
      go_wp2_with fail
      go_meet
      case rel => exact ⟨by rw [HZ.out]; rfl, ⟨_, rfl⟩, rfl⟩
  obtain ⟨rfl, ⟨z, rfl⟩, rfl⟩ := hcut
  have CO := Lib.hid unitOrder
  go_wp2_with fail
  go_loopg [4, 5, 7, 8, 9, 10, 11, 12, 13, 14] (s.size - o) (fun gk s4 s5 s7 s8 s9 s10 s11 s12 s13 s14 wr => ∃ (i x T V : Nat) (us : ByteArray) (hv : Bool), s4 = .int .i64 i ∧ s5 = .int .i64 x ∧ s7 = .int .i64 T ∧ s8 = .int .i64 V ∧ s9 = .string us ∧ s10 = .bool hv ∧ i + gk = s.size ∧ (V : Int) ≤ 9223372036854775807 ∧ (T : Int) ≤ 9223372036854775807 ∧ St w w.heap.size a wr ∧
    Aside ((∃ j, j ≤ d ∧ i = o + j ∧ x = 0 ∧ T = 0 ∧ V = n / 10 ^ (d - j) ∧ hv = decide (0 < j)) ∨ (i = s.size ∧ hv = false ∧ x ≤ 5 ∧ n ≤ 9223372036854775807 / M)))
  case atStart => exact ⟨o, 0, 0, 0, _, false, rfl, rfl, rfl, rfl, rfl, rfl, by omega, by decide, by decide, hst, .inl ⟨0, by omega, rfl, rfl, rfl, HN.out.symm, rfl⟩⟩
  case round =>
    obtain ⟨i, x, T, V, us, hv, rfl, rfl, rfl, rfl, rfl, rfl, hig, hVm, hTm, hwr, HA⟩ := hrel
    have HW := Lib.hid hwr
    clear hst hwr
    rcases HA.out with ⟨j, hjd, hij, hx, hT, hV, hhv⟩ | ⟨hi, hhv, hx5, hok⟩
    · obtain rfl := hx
      obtain rfl := hT
      rcases Nat.lt_or_ge j d with hlt | hge
      · obtain ⟨g, rfl⟩ : ∃ g, gk = g + 1 := ⟨gk - 1, by have := HS.out; omega⟩
        have hilt : i < s.size := by omega
        have hsz : s.size ≤ 30 := by have := HS.out; omega
        have hilt' : (i : Int) < s.size := by omega
        obtain ⟨q, hq⟩ : ∃ q : Nat, n / 10 ^ (d - 1 - j) % 10 = q := ⟨_, rfl⟩
        have hBi : B i = 48 + (q : Int) := by rw [hij, HBD.out j hlt, hq]
        have hq9 : q ≤ 9 := by omega
        have hVn : n / 10 ^ (d - (j + 1)) = V * 10 + q := by
          have e : d - j = (d - 1 - j) + 1 := by omega
          rw [show d - (j + 1) = d - 1 - j by omega, ← hq, hV, e, Nat.pow_succ, ← Nat.div_div_eq_div_mul]
          omega
        have t1 : (48 : Int) ≤ 48 + (q : Int) := by omega
        have t2 : 48 + (q : Int) ≤ 57 := by omega
        have t3 : IntKind.u8.wrap (48 + (q : Int) - 48) = q := by simp [IntKind.wrap, IntKind.bits, IntKind.signed]; omega
        have t4 : IntKind.i64.wrap (q : Int) = q := wrap_id (by omega) (by omega)
        have HIJ := Lib.hid hij
        have HV := Lib.hid hV
        have HQ := Lib.hid hq
        have HVN := Lib.hid hVn
        have HIG := Lib.hid hig
        clear hij hV hq hVn hig hhv HA
        obtain ⟨Y, hY⟩ : ∃ Y : Nat, (9223372036854775807 - (q : Int)) = Y := ⟨(9223372036854775807 - (q : Int)).toNat, by omega⟩
        obtain ⟨X, hX⟩ : ∃ X : Nat, Int.tdiv (Y : Int) 10 = X := ⟨Y / 10, by rw [tdiv_nat (by omega)]; omega⟩
        have hX2 : Hid (X = Y / 10) := Lib.hid (by rw [tdiv_nat (by omega)] at hX; omega)
        have hY2 : Hid ((9223372036854775807 - (q : Int)) = Y) := Lib.hid hY
        have t5 : IntKind.i64.wrap (Y : Int) = Y := wrap_id (by omega) (by omega)
        have t6 : IntKind.i64.wrap (X : Int) = X := wrap_id (by omega) (by have := hX2.out; omega)
        go_upto_if 55 with ((refine (CO.out _).mono ?_); rintro e w1 ⟨rfl, hc1, hb1⟩)
        have hS1 := HW.out.on hb1
        clear hc1
        rcases Nat.lt_or_ge X V with hbad | hgood
        · have hbad' : (X : Int) < V := by omega
          have e2 := hS1.err (.int .i64 0)
          obtain ⟨c1, f1, e1, l1, b1, l2, l3⟩ := hS1
          have HL1 := Lib.hid l1
          have HL2 := Lib.hid l2
          have HL3 := Lib.hid l3
          have HBB := Lib.hid b1
          clear l1 l2 l3 b1 hb1
          go_wp2
          go_region
          go_wp2
          refine bodyPost_ret (v := .tuple #[.agg #[.int .i64 0], .iface 78 (.pointer (some a))]) (by simp [results, Tryd.results13, go_sem, c1]) rfl ?_
          exact PEnd.err (HBB.out.setCell (p := ⟨w.heap.size, 0, none⟩) (Nat.le_refl _) _).drew (by
            intro hle
            have h1 : n / 10 ^ (d - (j + 1)) ≤ n := Nat.div_le_self _ _
            have h2 : 9223372036854775807 / M ≤ 9223372036854775807 := Nat.div_le_self _ _
            have h3 := HVN.out; have h4 := hX2.out; have h5 := hY2.out
            omega)
        · have hgood' : ¬ ((X : Int) < V) := by omega
          have n1 : (V : Int) * 10 + q ≤ 9223372036854775807 := by have := hX2.out; have := hY2.out; omega
          have n2 : (V : Int) * 10 ≤ 9223372036854775807 := by omega
          have n3 : IntKind.i64.wrap ((V : Int) * 10) = (V : Int) * 10 := wrap_id (by omega) n2
          have n4 : IntKind.i64.wrap ((V : Int) * 10 + q) = (V : Int) * 10 + q := wrap_id (by omega) n1
          have HS1 := Lib.hid hS1
          have hi30 : (i : Int) ≤ 30 := by omega
          clear hS1 hb1
          go_wp2
          go_roundg g
          case measure => omega
          case rel =>
            refine ⟨i + 1, 0, 0, V * 10 + q, us, true, rfl, rfl, rfl, by congr 1, rfl, rfl, by have := HIG.out; omega, n1, by decide, HS1.out, .inl ⟨j + 1, by omega, by have := HIJ.out; omega, rfl, rfl, HVN.out.symm, rfl⟩⟩
      · obtain ⟨g, rfl⟩ : ∃ g, gk = g + 1 := ⟨gk - 1, by have := HS.out; omega⟩
        have hjd2 : j = d := by omega
        have hV2 : V = n := by rw [hV, hjd2, Nat.sub_self, Nat.pow_zero, Nat.div_one]
        have hhv2 : hv = true := by rw [hhv]; exact decide_eq_true (by omega)
        obtain rfl := hhv2
        have hiod : i = o + d := by omega
        have hilt : i < s.size := by have := HS.out; omega
        have hilt' : (i : Int) < s.size := by omega
        have hsz : s.size ≤ 30 := by have := HS.out; omega
        have hi30 : (i : Int) ≤ 30 := by omega
        have HIOD := Lib.hid hiod
        have HV2 := Lib.hid hV2
        have HIG := Lib.hid hig
        have HSI : Hid (s.size = i + u) := Lib.hid (by have := HS.out; omega)
        clear hij hV hhv HA hjd2 hV2 hiod hig hjd hge
        have hBg : 57 < B i := by
          rw [HIOD.out, HBU.out]
          match k, hk with
          | 0, _ | 1, _ | 2, _ | 3, _ | 4, _ => decide
        have hBg1 : 48 ≤ B i := by omega
        have hBg2 : ¬ (B i ≤ 57) := by omega
        go_upto_region 21 with ((refine (CO.out _).mono ?_); rintro e w1 ⟨rfl, hc1, hb1⟩)
        have HW1 := Lib.hid (HW.out.on hb1)
        clear hc1 hb1 hBg hBg1 hBg2
        go_cut [85] from 36 to 85 (fun s85 wx => s85 = .bool true ∧ w1 = wx)
        case first =>
          rcases (show k = 0 ∨ k = 1 ∨ k = 2 ∨ k = 3 ∨ k = 4 by omega) with h | h | h | h | h
          all_goals
            have hb : B i = uHead k := by rw [HIOD.out, HBU.out]
            rw [h] at hb
            simp only [uHead] at hb
            clear h
            go_wp2_with fail
            go_meet
            case rel => exact ⟨rfl, rfl⟩
        obtain ⟨rfl, rfl⟩ := hcut
        go_upto_region 24 with fail
        go_cut [107] from 90 to 107 (fun s107 wx => s107 = .bool (decide (k = 4)) ∧ w1 = wx)
        case first =>
          rcases (show k = 0 ∨ k = 1 ∨ k = 2 ∨ k = 3 ∨ k = 4 by omega) with h | h | h | h | h
          · have hb : B i = 100 := by rw [HIOD.out, HBU.out, h]; rfl
            have H4 := Lib.hid h
            clear h
            go_wp2_with fail
            go_meet
            case rel => exact ⟨by rw [H4.out]; rfl, rfl⟩
          · have hb : B i = 104 := by rw [HIOD.out, HBU.out, h]; rfl
            have H4 := Lib.hid h
            clear h
            go_wp2_with fail
            go_meet
            case rel => exact ⟨by rw [H4.out]; rfl, rfl⟩
          · have hb : B i = 109 := by rw [HIOD.out, HBU.out, h]; rfl
            have hss : ¬ ((i : Int) + 1 < s.size) := by have e := HU.out; rw [h] at e; have e2 : 1 = u := e; have := HSI.out; omega
            have H4 := Lib.hid h
            clear h
            go_wp2_with fail
            go_meet
            case rel => exact ⟨by rw [H4.out]; rfl, rfl⟩
          · have hb : B i = 115 := by rw [HIOD.out, HBU.out, h]; rfl
            have H4 := Lib.hid h
            clear h
            go_wp2_with fail
            go_meet
            case rel => exact ⟨by rw [H4.out]; rfl, rfl⟩
          · have hb : B i = 109 := by rw [HIOD.out, HBU.out, h]; rfl
            have hb4 : B (i + 1) = 115 := by rw [HIOD.out]; exact HB2.out h
            have hss : (i : Int) + 1 < s.size := by have e := HU.out; rw [h] at e; have e2 : 2 = u := e; have := HSI.out; omega
            have hss2 : i + 1 < s.size := by omega
            have hti : ((i : Int) + 1).toNat = i + 1 := by omega
            have H4 := Lib.hid h
            clear h
            go_wp2_with fail
            go_meet
            case rel => exact ⟨by rw [H4.out]; rfl, rfl⟩
        obtain ⟨rfl, rfl⟩ := hcut
        go_upto_if 107 with fail
        go_cut [4, 9] from 107 to 114 (fun s4 s9 wx => (∃ i2 : Nat, s4 = .int .i64 i2 ∧ i2 + 1 = s.size) ∧ s9 = .string ⟨(uName k).toArray⟩ ∧ w1 = wx)
        case first =>
          rcases Classical.em (k = 4) with h | h
          · have hu2' : u = 2 := by have e := HU.out; rw [h] at e; exact e.symm
            have hd4 : decide (k = 4) = true := decide_eq_true h
            have H4 := Lib.hid h
            clear h
            go_wp2_with fail
            go_meet
            case rel => exact ⟨⟨i + 1, by congr 1, by have := HSI.out; omega⟩, by rw [H4.out]; rfl, rfl⟩
          · have hu2' : u = 1 := by
              have e := HU.out
              rw [← e]
              match k, hk, h with
              | 0, _, _ | 1, _, _ | 2, _, _ | 3, _, _ => rfl
              | 4, _, h => exact absurd rfl h
            have hd4 : decide (k = 4) = false := decide_eq_false h
            have hti : ((i : Int) + 1).toNat = i + 1 := by omega
            have hss : (i : Int) + 1 ≤ s.size := by omega
            have hss2 : i + 1 ≤ s.size := by omega
            have H4 := Lib.hid h
            clear h
            go_wp2_with fail
            go_meet
            case rel => exact ⟨⟨i, rfl, by have := HSI.out; omega⟩, by rw [HIOD.out]; exact congrArg Value.string (HUS.out H4.out), rfl⟩
        obtain ⟨⟨i2, rfl, hi2⟩, rfl, rfl⟩ := hcut
        have HI2 := Lib.hid hi2
        have hi2s : (i2 : Int) ≤ 30 := by omega
        clear hi2 hilt hilt' hi30
        go_upto_block 2 with fail
        go_cut [5, 12] from 115 to 130 (fun s5 s12 wx => (∃ x : Nat, s5 = .int .i64 x ∧ x ≤ 5) ∧ s12 = .bool true ∧ St w w.heap.size a wx)
        case first =>
          go_wp2_with fail
          go_loopg [5, 12] (k + 1) (fun gi s5 s12 wi => ∃ t : Nat, t + gi = k + 1 ∧ s5 = .int .i64 t ∧ s12 = .bool (decide (gi = 0)) ∧ St w w.heap.size a wi)
          case atStart => exact ⟨0, by omega, rfl, by simp, HW1.out⟩
          case round =>
            obtain ⟨t, htg, rfl, rfl, hwi⟩ := hrel
            have HWI := Lib.hid hwi
            clear hwi
            cases gk with
            | zero =>
              have HT := Lib.hid htg
              have ht5 : t ≤ 5 := by omega
              clear htg
              go_wp2_with fail
              go_meet
              case rel => exact ⟨⟨t, rfl, ht5⟩, rfl, HWI.out⟩
            | succ gi =>
              have ht5 : (t : Int) < 5 := by omega
              have ht5n : t < 5 := by omega
              have HT := Lib.hid htg
              have hdd : decide (gi + 1 = 0) = false := by simp
              obtain ⟨U, hU⟩ : ∃ U, uName t = U := ⟨_, rfl⟩
              clear htg
              rcases Classical.em (t = k) with h | h
              · have hq : (uName k == U) = true := by rw [← hU, h]; simp
                have H := Lib.hid h
                have HUU := Lib.hid hU
                clear h hU
                go_wp2_with ((refine (CO.out _).mono ?_); rintro e wa ⟨rfl, hca, hba⟩; have hcc := hca t ht5n; rw [HUU.out] at hcc; clear hca)
                go_roundg gi
                case measure => omega
                case rel => exact ⟨t + 1, by have := HT.out; omega, by congr 1, by congr 1; have := HT.out; have := H.out; simp; omega, (HWI.out.on (by assumption)).on hba⟩
              · have hq : (uName k == U) = false := by rw [← hU]; exact uName_ne k t hk ht5n h
                have H := Lib.hid h
                have HUU := Lib.hid hU
                clear h hU
                go_wp2_with ((refine (CO.out _).mono ?_); rintro e wa ⟨rfl, hca, hba⟩; have hcc := hca t ht5n; rw [HUU.out] at hcc; clear hca)
                go_roundg gi
                case measure => omega
                case rel => exact ⟨t + 1, by have := HT.out; omega, by congr 1, by congr 1; have := HT.out; have := H.out; simp; omega, (HWI.out.on (by assumption)).on hba⟩
        obtain ⟨⟨x, rfl, hx5⟩, rfl, hst2⟩ := hcut
        have HS2 := Lib.hid hst2
        have CU := Lib.hid unitMap
        obtain ⟨X, HX0⟩ : ∃ X : Nat, 9223372036854775807 / M = X := ⟨_, rfl⟩
        have hX : Int.tdiv 9223372036854775807 (M : Int) = X := by rw [quoMax, HX0]
        have hX9 : X ≤ 9223372036854775807 := by rw [← HX0]; exact Nat.div_le_self _ _
        have hM1 : 1 ≤ M := by have e := uSize_ge k; rw [HM.out] at e; exact e.1
        have hM2 : M ≤ 86400000 := by have e := uSize_ge k; rw [HM.out] at e; exact e.2
        have HX := Lib.hid HX0
        clear HX0
        have hM0 : (0 : Int) < M := by omega
        have hM0' : ((M : Int) == 0) = false := beq_eq_false_iff_ne.2 (by omega)
        have hXw : IntKind.i64.wrap (X : Int) = X := wrap_id (by omega) (by omega)
        clear hst2
        go_upto_if 145 with ((refine (CU.out _).mono ?_); rintro e w2 ⟨rfl, hm2, hb2⟩; have hl := unitLook hm2 k hk; rw [HM.out] at hl; clear hm2)
        have hS3 := HS2.out.on hb2
        rcases Nat.lt_or_ge X V with hbad | hgood
        · have hbad' : (X : Int) < V := by omega
          have e2 := hS3.err (.int .i64 0)
          obtain ⟨c1, f1, e1, l1, b1, l2, l3⟩ := hS3
          have HBB := Lib.hid b1
          clear l1 l2 l3 b1 hb2 hl
          go_wp2
          go_region
          go_wp2
          refine bodyPost_ret (v := .tuple #[.agg #[.int .i64 0], .iface 78 (.pointer (some a))]) (by simp [results, Tryd.results13, go_sem, c1]) rfl ?_
          exact PEnd.err (HBB.out.setCell (p := ⟨w.heap.size, 0, none⟩) (Nat.le_refl _) _).drew (by
            intro hle
            have h3 := HX.out; have h4 := HV2.out
            omega)
        · have hgood' : ¬ ((X : Int) < V) := by omega
          have hP9 : V * M ≤ 9223372036854775807 := by
            have h3 := HX.out
            have h4 : V * M ≤ X * M := Nat.mul_le_mul_right _ hgood
            have h5 : X * M ≤ 9223372036854775807 := by rw [← h3]; exact Nat.div_mul_le_self _ _
            omega
          obtain ⟨P, hP⟩ : ∃ P : Nat, V * M = P := ⟨_, rfl⟩
          rw [hP] at hP9
          have hPi : (V : Int) * M = P := by rw [← hP]; simp
          have hPw : IntKind.i64.wrap (P : Int) = P := wrap_id (by omega) (by omega)
          have hPs : ¬ ((9223372036854775807 : Int) - P < 0) := by omega
          have hPw2 : IntKind.i64.wrap (9223372036854775807 - (P : Int)) = 9223372036854775807 - (P : Int) := wrap_id (by omega) (by omega)
          have HS3 := Lib.hid hS3
          clear hS3 hb2 hP hl
          go_wp2
          go_roundg 0
          case measure => omega
          case rel =>
            refine ⟨i2 + 1, x, P, 0, _, false, by congr 1, rfl, by congr 1 <;> omega, rfl, rfl, rfl, by have := HI2.out; omega, by decide, by omega, HS3.out, .inr ⟨HI2.out, rfl, hx5, ?_⟩⟩
            have h3 := HX.out; have h4 := HV2.out
            omega
    · have hi2 : i = s.size := hi
      obtain rfl := hhv
      have hgk : gk = 0 := by omega
      obtain rfl := hgk
      have hnl : ¬ (i < s.size) := by omega
      have hnl' : ¬ ((i : Int) < s.size) := by omega
      have HOK := Lib.hid hok
      have HI := Lib.hid hi
      have HIG := Lib.hid hig
      clear hi hi2 hok hig HA
      have hS3 := HW.out
      obtain ⟨c1, f1, e1, l1, b1, l2, l3⟩ := hS3
      have HBB := Lib.hid b1
      clear l1 l2 l3 b1
      go_wp2
      refine bodyPost_ret (v := .tuple #[.agg #[.int .i64 (wrap64 (z * (T : Int)))], .nilIface]) (by simp [results, Tryd.results13, go_sem, c1]) rfl ?_
      exact PEnd.ok (HBB.out.setCell (p := ⟨w.heap.size, 0, none⟩) (Nat.le_refl _) _) HOK.out
end Go.Proofs.YtcggmabpbbieaaaDoor
