/-
  Patterns, in plain Lean: what the pieces of a pattern become, how the code matches, and what follows of it for the statements. No program in sight.
-/
namespace Go.Proofs.Ytcggmabpbbieaaa.Pat
abbrev Bs := List UInt8
/-- matchChunk. -/
def chunk : Bs → Bs → Option Bs
  | [], s => some s
  | _ :: _, [] => none
  | c :: cs, d :: ds => if c == d then chunk cs ds else none
/-- The search behind a wildcard: the rests of the text behind its first byte, its second one and so on. -/
def seek (lit : Bs) (last : Bool) : Bs → Option Bs
  | [] => none
  | _ :: t => match chunk lit t with
    | some r => if last && !r.isEmpty then seek lit last t else some r
    | none => seek lit last t
/-- Match over the components. -/
def matchC : List (Bool × Bs) → Bs → Bool
  | [], s => s.isEmpty
  | (wc, lit) :: rest, s =>
    if wc && lit.isEmpty then true
    else match chunk lit s with
      | some t => if t.isEmpty || !rest.isEmpty then matchC rest t
        else if wc then (match seek lit rest.isEmpty s with | some r => matchC rest r | none => false) else false
      | none => if wc then (match seek lit rest.isEmpty s with | some r => matchC rest r | none => false) else false
/-- A component handed to NewPattern: none is the wildcard. -/
def stepI (cs : List (Bool × Bs)) : Option Bs → List (Bool × Bs)
  | none => match cs.getLast? with
    | none => [(true, [])]
    | some (_, l) => if l.isEmpty then cs else cs ++ [(true, [])]
  | some s => match cs.getLast? with
    | none => [(false, s)]
    | some (b, l) => cs.dropLast ++ [(b, l ++ s)]
def build (l : List (Option Bs)) : List (Bool × Bs) := l.foldl stepI []
/-- What pattern hands to NewPattern, of one piece that is not the first one. -/
def item (s : Bs) : List (Option Bs) := none :: if s.isEmpty then [] else [some s]
def items : List Bs → List (Option Bs)
  | [] => []
  | s :: r => (if s.isEmpty then [] else [some s]) ++ r.flatMap item

theorem chunk_some : ∀ (c s r : Bs), chunk c s = some r → s = c ++ r
  | [], s, r, h => by simp [chunk] at h; simp [h]
  | _ :: _, [], _, h => by simp [chunk] at h
  | c :: cs, d :: ds, r, h => by
    simp only [chunk] at h
    split at h
    · rename_i hc
      rw [chunk_some cs ds r h, eq_of_beq hc]; rfl
    · cases h
theorem chunk_append (c r : Bs) : chunk c (c ++ r) = some r := by
  induction c with
  | nil => rfl
  | cons a c ih => simp [chunk, ih]
theorem chunk_none {c s : Bs} (h : chunk c s = none) : ¬ c <+: s := by
  rintro ⟨r, rfl⟩
  rw [chunk_append] at h
  cases h
theorem seek_some (lit : Bs) (last : Bool) : ∀ (s r : Bs), seek lit last s = some r → (∃ p, s = p ++ lit ++ r) ∧ (last = true → r = [])
  | [], r, h => by simp [seek] at h
  | x :: t, r, h => by
    have rec1 : seek lit last t = some r → (∃ p, x :: t = p ++ lit ++ r) ∧ (last = true → r = []) := fun h' => by
      obtain ⟨⟨p, hp⟩, hl⟩ := seek_some lit last t r h'
      exact ⟨⟨x :: p, by rw [hp]; simp⟩, hl⟩
    simp only [seek] at h
    cases hc : chunk lit t with
    | none => rw [hc] at h; exact rec1 h
    | some r' =>
      rw [hc] at h
      simp only at h
      split at h
      · exact rec1 h
      · rename_i hn
        cases h
        refine ⟨⟨[x], by rw [chunk_some _ _ _ hc]; simp⟩, fun hl => ?_⟩
        subst hl
        simpa using hn
/-- How much text the components need. -/
def need (cs : List (Bool × Bs)) : Nat := (cs.map (·.2.length)).sum
/-- The wildcard that is alone stands last. -/
def Fine : List (Bool × Bs) → Prop
  | [] => True
  | (wc, lit) :: rest => (wc = true → lit = [] → rest = []) ∧ Fine rest
theorem matchC_need : ∀ (cs : List (Bool × Bs)), Fine cs → ∀ s, matchC cs s = true →
    need cs ≤ s.length ∧ (∀ lit rest, cs = (false, lit) :: rest → lit <+: s) ∧ (∀ wc lit, cs.getLast? = some (wc, lit) → lit <:+ s)
  | [], _, s, h => by simp [need]
  | (wc, lit) :: rest, hf, s, h => by
    obtain ⟨hf1, hf2⟩ := hf
    by_cases hz : (wc && lit.isEmpty) = true
    · simp at hz
      obtain ⟨rfl, rfl⟩ := hz
      obtain rfl := hf1 rfl rfl
      refine ⟨by simp [need], fun l r hl => by simp at hl, fun w l hl => by simp at hl; rw [hl.2]; exact List.nil_suffix⟩
    · -- the rest of the text behind a piece that was found
      have step : ∀ p t, s = p ++ lit ++ t → (wc = false → p = []) → (rest = [] → t = []) → matchC rest t = true →
          need ((wc, lit) :: rest) ≤ s.length ∧ (∀ l r, (wc, lit) :: rest = (false, l) :: r → l <+: s) ∧ (∀ w l, ((wc, lit) :: rest).getLast? = some (w, l) → l <:+ s) := by
        intro p t hs hp ht hm
        obtain ⟨h1, _, h3⟩ := matchC_need rest hf2 t hm
        refine ⟨?_, ?_, ?_⟩
        · rw [hs]; simp only [need, List.map_cons, List.sum_cons, List.length_append] at h1 ⊢; omega
        · intro l r hl
          simp at hl
          obtain ⟨⟨rfl, rfl⟩, rfl⟩ := hl
          rw [hp rfl] at hs
          exact ⟨t, by simpa using hs.symm⟩
        · intro w l hl
          cases hr : rest with
          | nil =>
            rw [hr] at hl
            simp at hl
            obtain ⟨rfl, rfl⟩ := hl
            rw [ht hr] at hs
            exact ⟨p, by simpa using hs.symm⟩
          | cons x xs =>
            rw [hr, List.getLast?_cons_cons, ← hr] at hl
            obtain ⟨q, hq⟩ := h3 w l hl
            exact ⟨p ++ lit ++ q, by rw [hs, ← hq]; simp⟩
      have sk : ∀ r, wc = true → seek lit rest.isEmpty s = some r → matchC rest r = true → 
          need ((wc, lit) :: rest) ≤ s.length ∧ (∀ l r, (wc, lit) :: rest = (false, l) :: r → l <+: s) ∧ (∀ w l, ((wc, lit) :: rest).getLast? = some (w, l) → l <:+ s) := by
        intro r hw hs hm
        obtain ⟨⟨p, hp⟩, hl⟩ := seek_some _ _ _ _ hs
        exact step p r hp (fun h => by rw [hw] at h; cases h) (fun h => hl (by rw [h]; rfl)) hm
      have wd : (if wc then (match seek lit rest.isEmpty s with | some r => matchC rest r | none => false) else false) = true →
          need ((wc, lit) :: rest) ≤ s.length ∧ (∀ l r, (wc, lit) :: rest = (false, l) :: r → l <+: s) ∧ (∀ w l, ((wc, lit) :: rest).getLast? = some (w, l) → l <:+ s) := by
        intro h
        split at h
        · rename_i hw
          cases hs : seek lit rest.isEmpty s with
          | none => rw [hs] at h; cases h
          | some r => rw [hs] at h; exact sk r hw hs h
        · cases h
      simp only [matchC] at h
      rw [if_neg (by simpa using hz)] at h
      cases hc : chunk lit s with
      | none => rw [hc] at h; exact wd h
      | some t =>
        rw [hc] at h
        simp only at h
        split at h
        · rename_i ht
          refine step [] t (by simpa using chunk_some _ _ _ hc) (fun _ => rfl) (fun hr => ?_) h
          subst hr
          simpa using ht
        · exact wd h
/-! ### What the pieces become -/
/-- The components behind the first one. -/
def tailC : List Bs → List (Bool × Bs)
  | [] => []
  | [s] => [(true, s)]
  | s :: r => if s.isEmpty then tailC r else (true, s) :: tailC r
def comps : List Bs → List (Bool × Bs)
  | [] => []
  | s :: r => (if s.isEmpty then [] else [(false, s)]) ++ tailC r
/-- How far the fold has come: nothing, or components with a last one whose text is not empty, or a lone wildcard at the end. -/
theorem fold_tail : ∀ (r : List Bs) (cs : List (Bool × Bs)), (∀ b l, cs.getLast? = some (b, l) → l ≠ []) →
    (r.flatMap item).foldl stepI cs = cs ++ tailC r ∧ (r ≠ [] → (r.flatMap item).foldl stepI (cs ++ [(true, [])]) = cs ++ tailC r)
  | [], cs, _ => by simp [tailC]
  | s :: r, cs, hcs => by
    have h1 : stepI cs none = cs ++ [(true, [])] := by
      unfold stepI
      cases hg : cs.getLast? with
      | none =>
        rw [List.getLast?_eq_none_iff] at hg
        simp [hg]
      | some x =>
        obtain ⟨b, l⟩ := x
        simp only
        rw [if_neg (by simpa using hcs b l hg)]
    have h2 : stepI (cs ++ [(true, [])]) none = cs ++ [(true, [])] := by simp [stepI]
    have key : ((s :: r).flatMap item).foldl stepI (cs ++ [(true, [])]) = cs ++ tailC (s :: r) := by
      simp only [List.flatMap_cons, List.foldl_append, item, List.foldl_cons, h2]
      by_cases hs : s = []
      · subst hs
        simp only [List.isEmpty_nil, if_true, List.foldl_nil]
        cases r with
        | nil => simp [tailC]
        | cons x r' =>
          rw [(fold_tail (x :: r') cs hcs).2 (by simp)]
          simp [tailC]
      · have : (if s.isEmpty = true then ([] : List (Option Bs)) else [some s]) = [some s] := by simp [hs]
        rw [this]
        have h3 : stepI (cs ++ [(true, [])]) (some s) = cs ++ [(true, s)] := by simp [stepI]
        simp only [List.foldl_cons, List.foldl_nil, h3]
        rw [(fold_tail r (cs ++ [(true, s)]) (by intro b l h; simp at h; rw [← h.2]; exact hs)).1]
        cases r with
        | nil => simp [tailC]
        | cons x r' => simp [tailC, hs]
    refine ⟨?_, fun _ => key⟩
    rw [← key]
    simp only [List.flatMap_cons, List.foldl_append, item, List.foldl_cons, h1, h2]
theorem comps_cons (s : Bs) (r : List Bs) : comps (s :: r) = (if s.isEmpty then [] else [(false, s)]) ++ tailC r := rfl
theorem build_items (p : List Bs) : build (items p) = comps p := by
  cases p with
  | nil => rfl
  | cons s r =>
    rw [comps_cons]
    unfold build items
    rw [List.foldl_append]
    by_cases hs : s = []
    · subst hs
      simp only [List.isEmpty_nil, if_true, List.foldl_nil, List.nil_append]
      simpa using (fold_tail r [] (by simp)).1
    · have h0 : (if s.isEmpty = true then ([] : List (Option Bs)) else [some s]) = [some s] := by simp [hs]
      have h1 : (if s.isEmpty = true then ([] : List (Bool × Bs)) else [(false, s)]) = [(false, s)] := by simp [hs]
      rw [h0, h1]
      have h2 : stepI [] (some s) = [(false, s)] := rfl
      simp only [List.foldl_cons, List.foldl_nil, h2]
      exact (fold_tail r [(false, s)] (by intro b l h; simp at h; rw [← h.2]; exact hs)).1
theorem tailC_fine : ∀ r, Fine (tailC r)
  | [] => trivial
  | [s] => ⟨fun _ _ => rfl, trivial⟩
  | s :: x :: r => by
    unfold tailC
    split
    · exact tailC_fine (x :: r)
    · rename_i hs
      exact ⟨fun _ h => absurd (by simp [h]) hs, tailC_fine (x :: r)⟩
theorem comps_fine (p : List Bs) : Fine (comps p) := by
  cases p with
  | nil => trivial
  | cons s r =>
    rw [comps_cons]
    split
    · exact tailC_fine r
    · exact ⟨fun h => (by cases h), tailC_fine r⟩
theorem tailC_need : ∀ r, need (tailC r) = (r.map List.length).sum
  | [] => rfl
  | [s] => by simp [tailC, need]
  | s :: x :: r => by
    have ih := tailC_need (x :: r)
    unfold tailC
    split
    · rename_i hs
      have : s = [] := by simpa using hs
      subst this
      rw [ih]; simp
    · simp only [need, List.map_cons, List.sum_cons] at ih ⊢
      rw [ih]
theorem comps_need (p : List Bs) : need (comps p) = (p.map List.length).sum := by
  cases p with
  | nil => rfl
  | cons s r =>
    have ht := tailC_need r
    rw [comps_cons]
    split
    · rename_i hs
      have : s = [] := by simpa using hs
      subst this
      simpa using ht
    · simp only [need, List.singleton_append, List.map_cons, List.sum_cons] at ht ⊢
      rw [ht]
theorem tailC_last : ∀ r s, r.getLast? = some s → ∃ w, (tailC r).getLast? = some (w, s)
  | [], s, h => by simp at h
  | [x], s, h => by simp at h; subst h; exact ⟨true, rfl⟩
  | x :: y :: r, s, h => by
    rw [List.getLast?_cons_cons] at h
    obtain ⟨w, hw⟩ := tailC_last (y :: r) s h
    refine ⟨w, ?_⟩
    unfold tailC
    split
    · exact hw
    · cases ht : tailC (y :: r) with
      | nil => rw [ht] at hw; simp at hw
      | cons z zs => rw [List.getLast?_cons_cons, ← ht]; exact hw
/-- ████ A text that matches is as long as the pieces together, begins with the first one and ends with the last one. -/
theorem match_len (a : Bs) (p : List Bs) (s b : Bs) (hb : (a :: p).getLast? = some b) (h : matchC (comps (a :: p)) s = true) :
    ((a :: p).map List.length).sum ≤ s.length ∧ a <+: s ∧ b <:+ s := by
  obtain ⟨h1, h2, h3⟩ := matchC_need _ (comps_fine (a :: p)) s h
  rw [comps_need] at h1
  refine ⟨h1, ?_, ?_⟩
  · by_cases ha : a = []
    · subst ha; exact List.nil_prefix
    · exact h2 a (tailC p) (by simp [comps, ha])
  · cases p with
    | nil =>
      simp at hb
      subst hb
      by_cases ha : a = []
      · subst ha; exact List.nil_suffix
      · exact h3 false a (by simp [comps, ha, tailC])
    | cons y r =>
      rw [List.getLast?_cons_cons] at hb
      obtain ⟨w, hw⟩ := tailC_last _ _ hb
      refine h3 w b ?_
      cases ht : tailC (y :: r) with
      | nil => rw [ht] at hw; simp at hw
      | cons z zs =>
        rw [comps_cons]
        rw [ht] at hw ⊢
        split
        · exact hw
        · rw [List.singleton_append, List.getLast?_cons_cons]; exact hw
/-- ████ One piece matches itself alone. -/
theorem match_one (s t : Bs) : matchC (comps [s]) t = (s == t) := by
  by_cases hs : s = []
  · subst hs
    simp only [comps, tailC, List.isEmpty_nil, if_true, List.nil_append, matchC]
    cases t <;> rfl
  · simp only [comps, tailC, List.append_nil]
    rw [if_neg (by simpa using hs)]
    simp only [matchC, Bool.false_and, Bool.false_eq_true, if_false, List.isEmpty_nil, Bool.not_true, Bool.or_false]
    cases hc : chunk s t with
    | none =>
      have : ¬ s = t := by rintro rfl; exact chunk_none hc (List.prefix_refl _)
      simp [this]
    | some r =>
      have := chunk_some _ _ _ hc
      subst this
      cases r <;> simp
theorem tailC_stars : ∀ n, tailC (List.replicate (n + 1) []) = [(true, [])]
  | 0 => rfl
  | n + 1 => by
    have := tailC_stars n
    rw [List.replicate_succ] at this
    rw [List.replicate_succ, List.replicate_succ]
    simp [tailC, this]
/-- ████ Wildcards alone match every text. -/
theorem match_stars (n : Nat) (t : Bs) : matchC (comps (List.replicate (n + 2) [])) t = true := by
  rw [List.replicate_succ]
  simp [comps, tailC_stars, matchC]
end Go.Proofs.Ytcggmabpbbieaaa.Pat
