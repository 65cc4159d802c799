/-
  Plain laws on slash-separated paths, over lists of bytes alone: no program, no walk. What path.Clean computes ('Pa.clean') is the rendering ('rnd') of a stack of elements ('stk'); a rendering is read back as the same stack, so Clean, Join, Dir and Base are laws on stacks.
-/
import Derived.Lib.CleanSame
import Derived.Lib.JoinSame2
import Derived.Lib.PathFns2
namespace Go.Proofs.YtgigodblbiiahaaDoor.Wm
open Go Go.Lib Go.Lib.Pa

abbrev Bs := List UInt8

/-- What the elements E make of the stack st. -/
def fold (ro : Bool) (st : List Bs) (E : List Bs) : List Bs := E.foldl (cleanStep ro) st

theorem fold_nil (ro : Bool) (st : List Bs) : fold ro st [] = st := rfl
theorem fold_cons (ro : Bool) (st : List Bs) (e : Bs) (E : List Bs) : fold ro st (e :: E) = fold ro (cleanStep ro st e) E := rfl
theorem fold_append (ro : Bool) (st : List Bs) (E F : List Bs) : fold ro st (E ++ F) = fold ro (fold ro st E) F := by unfold fold; rw [List.foldl_append]
theorem fold_snoc (ro : Bool) (st : List Bs) (E : List Bs) (e : Bs) : fold ro st (E ++ [e]) = cleanStep ro (fold ro st E) e := by rw [fold_append]; rfl

/-- The stack of a path: its elements that are left, the last one first. -/
def stk (l : Bs) : List Bs := fold (isAbs l) [] (els l)

/-- A stack, rendered. -/
def rnd (ro : Bool) (st : List Bs) : Bs :=
  if ro then 47 :: ([47] : Bs).intercalate st.reverse else if st = [] then [46] else ([47] : Bs).intercalate st.reverse

/-- What a stack of Clean's looks like. -/
def Good (ro : Bool) : List Bs → Prop
  | [] => True
  | x :: r => Good ro r ∧ 47 ∉ x ∧ x ≠ [] ∧ x ≠ [46] ∧ (x = [46, 46] → ro = false ∧ ∀ y, y ∈ r → y = [46, 46])

theorem Good.no47 {ro : Bool} : ∀ {st : List Bs}, Good ro st → ∀ e, e ∈ st → 47 ∉ e
  | [], _, e, h => by cases h
  | x :: r, g, e, h => by
    rcases List.mem_cons.1 h with h | h
    · subst h; exact g.2.1
    · exact g.1.no47 e h
theorem Good.ne {ro : Bool} : ∀ {st : List Bs}, Good ro st → ∀ e, e ∈ st → e ≠ []
  | [], _, e, h => by cases h
  | x :: r, g, e, h => by
    rcases List.mem_cons.1 h with h | h
    · subst h; exact g.2.2.1
    · exact g.1.ne e h
theorem Good.ndot {ro : Bool} : ∀ {st : List Bs}, Good ro st → ∀ e, e ∈ st → e ≠ [46]
  | [], _, e, h => by cases h
  | x :: r, g, e, h => by
    rcases List.mem_cons.1 h with h | h
    · subst h; exact g.2.2.2.1
    · exact g.1.ndot e h
theorem Good.names {st : List Bs} (g : Good true st) : ∀ e, e ∈ st → e ≠ [46, 46] := by
  induction st with
  | nil => intro e h; cases h
  | cons x r ih =>
    intro e h
    rcases List.mem_cons.1 h with h | h
    · subst h; intro e0; exact absurd (g.2.2.2.2 e0).1 (by simp)
    · exact ih g.1 e h

theorem step_dd_nil (ro : Bool) : cleanStep ro [] [46, 46] = if ro then [] else [[46, 46]] := by simp [cleanStep]
theorem step_dd_dd (ro : Bool) (r : List Bs) : cleanStep ro ([46, 46] :: r) [46, 46] = [46, 46] :: [46, 46] :: r := by simp [cleanStep]
theorem step_dd_name (ro : Bool) (x : Bs) (r : List Bs) (h : x ≠ [46, 46]) : cleanStep ro (x :: r) [46, 46] = r := by simp [cleanStep, h]

/-- One element, by its kind. -/
theorem step_cases (ro : Bool) (st : List Bs) (e : Bs) :
    ((e = [] ∨ e = [46]) ∧ cleanStep ro st e = st) ∨ (e ≠ [] ∧ e ≠ [46] ∧ e ≠ [46, 46] ∧ cleanStep ro st e = e :: st) ∨
    (e = [46, 46] ∧ ((st = [] ∧ ro = true ∧ cleanStep ro st e = []) ∨ (st = [] ∧ ro = false ∧ cleanStep ro st e = [e]) ∨
      (∃ r, st = [46, 46] :: r ∧ cleanStep ro st e = e :: st) ∨ (∃ x r, st = x :: r ∧ x ≠ [46, 46] ∧ cleanStep ro st e = r))) := by
  by_cases h0 : e = []
  · subst h0; exact .inl ⟨.inl rfl, step_nil ro st⟩
  by_cases h1 : e = [46]
  · subst h1; exact .inl ⟨.inr rfl, step_dot ro st⟩
  by_cases h2 : e = [46, 46]
  · subst h2
    refine .inr (.inr ⟨rfl, ?_⟩)
    cases st with
    | nil =>
      cases ro with
      | true => exact .inl ⟨rfl, rfl, by simp [cleanStep]⟩
      | false => exact .inr (.inl ⟨rfl, rfl, by simp [cleanStep]⟩)
    | cons x r =>
      by_cases hx : x = [46, 46]
      · subst hx; exact .inr (.inr (.inl ⟨r, rfl, step_dd_dd ro r⟩))
      · exact .inr (.inr (.inr ⟨x, r, rfl, hx, step_dd_name ro x r hx⟩))
  · exact .inr (.inl ⟨h0, h1, h2, step_elem ro st e h0 h1 h2⟩)

theorem Good.step {ro : Bool} {st : List Bs} (g : Good ro st) {e : Bs} (he : 47 ∉ e) : Good ro (cleanStep ro st e) := by
  rcases step_cases ro st e with ⟨_, h⟩ | ⟨h0, h1, h2, h⟩ | ⟨rfl, ⟨_, _, h⟩ | ⟨rfl, hr, h⟩ | ⟨r, rfl, h⟩ | ⟨x, r, rfl, _, h⟩⟩
  · rw [h]; exact g
  · rw [h]; exact ⟨g, he, h0, h1, fun e0 => absurd e0 h2⟩
  · rw [h]; trivial
  · rw [h]; exact ⟨trivial, he, by decide, by decide, fun _ => ⟨hr, fun y hy => by cases hy⟩⟩
  · rw [h]
    refine ⟨g, he, by decide, by decide, fun _ => ⟨(g.2.2.2.2 rfl).1, fun y hy => ?_⟩⟩
    rcases List.mem_cons.1 hy with hy | hy
    · exact hy
    · exact (g.2.2.2.2 rfl).2 y hy
  · rw [h]; exact g.1

theorem Good.fold {ro : Bool} : ∀ {E : List Bs} {st : List Bs}, Good ro st → (∀ e, e ∈ E → 47 ∉ e) → Good ro (fold ro st E)
  | [], _, g, _ => g
  | e :: E, _, g, h => (g.step (h e (by simp))).fold fun x hx => h x (by simp [hx])

theorem els_no47 : ∀ (l : Bs) (e : Bs), e ∈ els l → 47 ∉ e
  | [], e, h => by
    rw [els] at h
    rcases List.mem_cons.1 h with h | h
    · subst h; simp
    · cases h
  | c :: t, e, h => by
    obtain ⟨x, r, hx⟩ := els_ne t
    have ih := els_no47 t
    by_cases hc : c = 47
    · rw [els, if_pos hc] at h
      rcases List.mem_cons.1 h with h | h
      · subst h; simp
      · exact ih e h
    · rw [els, if_neg hc, hx] at h
      rcases List.mem_cons.1 h with h | h
      · subst h
        intro h47
        rcases List.mem_cons.1 h47 with h47 | h47
        · exact hc h47.symm
        · exact ih x (by rw [hx]; simp) h47
      · exact ih e (by rw [hx]; simp [h])

theorem good_stk (l : Bs) : Good (isAbs l) (stk l) := Good.fold (st := []) trivial (els_no47 l)
theorem good_fold (ro : Bool) (l : Bs) : Good ro (fold ro [] (els l)) := Good.fold (st := []) trivial (els_no47 l)

theorem els_one {e : Bs} (h : 47 ∉ e) : els e = [e] := by
  have := els_elem e [] h (.inl rfl)
  rwa [List.append_nil] at this

theorem flatMap_els_id : ∀ (Y : List Bs), (∀ e, e ∈ Y → 47 ∉ e) → Y.flatMap els = Y
  | [], _ => rfl
  | y :: Y, h => by rw [List.flatMap_cons, els_one (h y (by simp)), flatMap_els_id Y (fun e he => h e (by simp [he]))]; rfl

theorem els_inter {Y : List Bs} (hY : Y ≠ []) (h : ∀ e, e ∈ Y → 47 ∉ e) : els (([47] : Bs).intercalate Y) = Y := by
  cases Y with
  | nil => exact absurd rfl hY
  | cons y Y => rw [els_J, flatMap_els_id _ h]

/-- The elements, joined again. -/
theorem inter_els : ∀ l : Bs, ([47] : Bs).intercalate (els l) = l
  | [] => by rw [els, J_one]
  | c :: t => by
    have ih := inter_els t
    obtain ⟨x, r, hx⟩ := els_ne t
    by_cases hc : c = 47
    · subst hc
      rw [els_slash, hx, J_cons, ← hx, ih]; rfl
    · rw [els, if_neg hc, hx]
      rw [hx] at ih
      cases r with
      | nil => rw [J_one] at ih ⊢; rw [ih]
      | cons z r => rw [J_cons] at ih ⊢; rw [← ih]; rfl

theorem inter_nil : ([47] : Bs).intercalate ([] : List Bs) = [] := by simp [List.intercalate]

/-- A stack, read again from its bottom. -/
theorem fold_rev {ro : Bool} : ∀ {st : List Bs}, Good ro st → fold ro [] st.reverse = st
  | [], _ => rfl
  | x :: r, g => by
    rw [List.reverse_cons, fold_snoc, fold_rev g.1]
    rcases step_cases ro r x with ⟨h | h, _⟩ | ⟨_, _, _, h⟩ | ⟨rfl, ⟨_, hr, _⟩ | ⟨rfl, _, h⟩ | ⟨r', rfl, h⟩ | ⟨y, r', rfl, hy, _⟩⟩
    · exact absurd h g.2.2.1
    · exact absurd h g.2.2.2.1
    · exact h
    · exact absurd (g.2.2.2.2 rfl).1 (by rw [hr]; simp)
    · exact h
    · exact h
    · exact absurd ((g.2.2.2.2 rfl).2 y (by simp)) hy

/-- Elements upon a stack: what they come to by themselves, not rooted, comes to the same upon it. -/
theorem fold_rel (ro : Bool) (st : List Bs) (E : List Bs) (hE : ∀ e, e ∈ E → 47 ∉ e) : fold ro st E = fold ro st (fold false [] E).reverse := by
  suffices h : ∀ n : Nat, ∀ E : List Bs, E.length = n → (∀ e, e ∈ E → 47 ∉ e) → fold ro st E = fold ro st (fold false [] E).reverse from h _ E rfl hE
  intro n
  induction n with
  | zero => intro E h _; rw [List.eq_nil_of_length_eq_zero h]; rfl
  | succ n ih =>
    intro E hn hE
    have hne : E ≠ [] := by intro e; subst e; simp at hn
    obtain ⟨F, e, rfl⟩ : ∃ F e, E = F ++ [e] := ⟨E.dropLast, E.getLast hne, (List.dropLast_concat_getLast hne).symm⟩
    have hF : ∀ e, e ∈ F → 47 ∉ e := fun x hx => hE x (by simp [hx])
    have ihF := ih F (by simpa using hn) hF
    have gF : Good false (fold false [] F) := Good.fold (st := []) trivial hF
    rw [fold_snoc, fold_snoc, ihF]
    generalize fold false [] F = s at gF
    rcases step_cases false s e with ⟨h | h, h'⟩ | ⟨h0, h1, h2, h⟩ | ⟨rfl, ⟨_, h, _⟩ | ⟨rfl, _, h⟩ | ⟨r, rfl, h⟩ | ⟨x, r, rfl, hx, h⟩⟩
    · rw [h', h, step_nil]
    · rw [h', h, step_dot]
    · rw [h, List.reverse_cons, fold_snoc]
    · cases h
    · rw [h]; rfl
    · rw [h, List.reverse_cons (a := [46, 46]) (as := [46, 46] :: r), fold_snoc]
    · rw [h, List.reverse_cons, fold_snoc, step_elem ro _ x gF.2.2.1 gF.2.2.2.1 hx, step_dd_name ro x _ hx]

theorem rnd_ne (ro : Bool) (st : List Bs) (g : Good ro st) : rnd ro st ≠ [] := by
  unfold rnd
  cases ro with
  | true => simp
  | false =>
    rw [if_neg (by simp)]
    split
    · simp
    · rename_i h
      obtain ⟨y, Y, hY⟩ : ∃ y Y, st.reverse = y :: Y := by
        cases hs : st.reverse with
        | nil => exact absurd (List.reverse_eq_nil_iff.1 hs) h
        | cons y Y => exact ⟨y, Y, rfl⟩
      rw [hY]
      exact (J_head y Y (g.ne y (by rw [← List.mem_reverse, hY]; simp))).2

theorem isAbs_nil : isAbs [] = false := rfl
theorem isAbs_cons (c : UInt8) (t : Bs) : isAbs (c :: t) = (c == 47) := by
  unfold isAbs; rw [List.head?_cons]; rfl
theorem isAbs_iff (l : Bs) : isAbs l = true ↔ ∃ t, l = 47 :: t := by
  cases l with
  | nil => simp [isAbs]
  | cons c t => rw [isAbs_cons]; simp
theorem isAbs_no47 {l : Bs} (h : 47 ∉ l) : isAbs l = false := by
  cases l with
  | nil => rfl
  | cons c t => rw [isAbs_cons]; simp; intro e; exact h (by rw [e]; simp)
theorem isAbs_head {l m : Bs} (h : l.head? = m.head?) : isAbs l = isAbs m := by unfold isAbs; rw [h]

theorem isAbs_rnd {ro : Bool} {st : List Bs} (g : Good ro st) : isAbs (rnd ro st) = ro := by
  unfold rnd
  cases ro with
  | true => rfl
  | false =>
    rw [if_neg (by simp)]
    split
    · rfl
    · rename_i h
      obtain ⟨y, Y, hY⟩ : ∃ y Y, st.reverse = y :: Y := by
        cases hs : st.reverse with
        | nil => exact absurd (List.reverse_eq_nil_iff.1 hs) h
        | cons y Y => exact ⟨y, Y, rfl⟩
      have hm : y ∈ st := by rw [← List.mem_reverse, hY]; simp
      rw [hY, isAbs_head (J_head y Y (g.ne y hm)).1]
      exact isAbs_no47 (g.no47 y hm)

theorem els_rnd {ro : Bool} {st : List Bs} (g : Good ro st) : els (rnd ro st) = if ro then [] :: (if st = [] then [[]] else st.reverse) else if st = [] then [[46]] else st.reverse := by
  have hr : st ≠ [] → els (([47] : Bs).intercalate st.reverse) = st.reverse := fun h => els_inter (by simpa using h) (fun e he => g.no47 e (by simpa using he))
  unfold rnd
  cases ro with
  | true =>
    simp only [if_true]
    rw [els_slash]
    by_cases h : st = []
    · subst h; simp [els]
    · rw [hr h, if_neg h]
  | false =>
    simp only [Bool.false_eq_true, if_false]
    by_cases h : st = []
    · rw [if_pos h, if_pos h]; decide
    · rw [if_neg h, if_neg h, hr h]

theorem fold_nils (ro : Bool) (st : List Bs) : fold ro st [[]] = st := step_nil ro st

/-- A rendered stack upon a stack. -/
theorem fold_els_rnd {ro : Bool} {st : List Bs} (g : Good ro st) (ro' : Bool) (s : List Bs) : fold ro' s (els (rnd ro st)) = fold ro' s st.reverse := by
  rw [els_rnd g]
  cases ro with
  | true =>
    simp only [if_true]
    rw [fold_cons, step_nil]
    by_cases h : st = []
    · subst h; rw [if_pos rfl, fold_nils]; rfl
    · rw [if_neg h]
  | false =>
    simp only [Bool.false_eq_true, if_false]
    by_cases h : st = []
    · subst h; rw [if_pos rfl, fold_cons, step_dot]; rfl
    · rw [if_neg h]

theorem stk_rnd {ro : Bool} {st : List Bs} (g : Good ro st) : stk (rnd ro st) = st := by
  unfold stk; rw [isAbs_rnd g, fold_els_rnd g, fold_rev g]

theorem inter_eq_nil {Y : List Bs} (h : ∀ e, e ∈ Y → e ≠ []) (h0 : ([47] : Bs).intercalate Y = []) : Y = [] := by
  cases Y with
  | nil => rfl
  | cons y Y => exact absurd h0 (J_head y Y (h y (by simp))).2

/-- WHAT Clean IS: the path's stack, rendered. -/
theorem clean_eq (l : Bs) : clean l = rnd (isAbs l) (stk l) := by
  rw [clean_eq_cleanEls]
  by_cases hne : l = []
  · subst hne; decide
  · cases hro : isAbs l with
    | true => rw [cleanEls_abs l hne hro]; unfold stk; rw [hro]; rfl
    | false =>
      rw [cleanEls_rel l hne hro]
      unfold stk rnd; rw [hro]
      have g := good_fold false l
      simp only [Bool.false_eq_true, if_false]
      by_cases h : fold false [] (els l) = []
      · rw [if_pos h, if_pos (by show ([47] : Bs).intercalate (fold false [] (els l)).reverse = []; rw [h]; exact inter_nil)]
      · rw [if_neg h, if_neg ?_]
        · rfl
        · intro h0
          have : (fold false [] (els l)).reverse = [] := inter_eq_nil (fun e he => g.ne e (by simpa using he)) h0
          exact h (by simpa using this)

theorem clean_ne (l : Bs) : clean l ≠ [] := by rw [clean_eq]; exact rnd_ne _ _ (good_stk l)
theorem isAbs_clean (l : Bs) : isAbs (clean l) = isAbs l := by rw [clean_eq]; exact isAbs_rnd (good_stk l)
theorem stk_clean (l : Bs) : stk (clean l) = stk l := by rw [clean_eq]; exact stk_rnd (good_stk l)
theorem clean_clean (l : Bs) : clean (clean l) = clean l := by rw [clean_eq (clean l), isAbs_clean, stk_clean, ← clean_eq]
theorem clean_rnd {ro : Bool} {st : List Bs} (g : Good ro st) : clean (rnd ro st) = rnd ro st := by rw [clean_eq, isAbs_rnd g, stk_rnd g]

/-- Two paths come to one result just where both begin alike and their stacks are one. -/
theorem clean_iff (p q : Bs) : clean p = clean q ↔ isAbs p = isAbs q ∧ stk p = stk q := by
  constructor
  · intro h
    exact ⟨by rw [← isAbs_clean p, h, isAbs_clean], by rw [← stk_clean p, h, stk_clean]⟩
  · rintro ⟨h1, h2⟩
    rw [clean_eq p, clean_eq q, h1, h2]

theorem clean_of {p q : Bs} (h1 : isAbs p = isAbs q) (h2 : ∀ ro, fold ro [] (els p) = fold ro [] (els q)) : clean p = clean q :=
  (clean_iff p q).2 ⟨h1, by unfold stk; rw [h1, h2]⟩

/-- A path that is not rooted, cleaned, upon a stack. -/
theorem fold_clean_rel (ro : Bool) (s : List Bs) (l : Bs) (h : isAbs l = false) : fold ro s (els (clean l)) = fold ro s (els l) := by
  rw [clean_eq, fold_els_rnd (good_stk l), fold_rel ro s (els l) (els_no47 l)]
  unfold stk; rw [h]

/-- A path, cleaned, at the beginning. -/
theorem fold_clean_start (l : Bs) : fold (isAbs l) [] (els (clean l)) = fold (isAbs l) [] (els l) := by
  have := stk_clean l
  unfold stk at this
  rwa [isAbs_clean] at this

theorem isAbs_append {a : Bs} (b : Bs) (ha : a ≠ []) : isAbs (a ++ b) = isAbs a := by
  cases a with
  | nil => exact absurd rfl ha
  | cons c t => rfl

/-- FnCleanWithin. -/
theorem clean_within (a b : Bs) (ha : a ≠ []) : clean (clean a ++ 47 :: b) = clean (a ++ 47 :: b) := by
  refine (clean_iff _ _).2 ⟨?_, ?_⟩
  · rw [isAbs_append _ (clean_ne a), isAbs_append _ ha, isAbs_clean]
  · unfold stk
    rw [isAbs_append _ (clean_ne a), isAbs_append _ ha, isAbs_clean, els_app, els_app, fold_append, fold_append, fold_clean_start]

/-! Lengths -/

/-- The bytes of elements, a slash behind each. -/
def wt (E : List Bs) : Nat := (E.map (fun e => e.length + 1)).sum

theorem wt_nil : wt [] = 0 := rfl
theorem wt_cons (e : Bs) (E : List Bs) : wt (e :: E) = e.length + 1 + wt E := by simp [wt]
theorem wt_append (E F : List Bs) : wt (E ++ F) = wt E + wt F := by simp [wt]
theorem wt_reverse (E : List Bs) : wt E.reverse = wt E := by
  induction E with
  | nil => rfl
  | cons e E ih => rw [List.reverse_cons, wt_append, ih, wt_cons, wt_cons, wt_nil]; omega
theorem wt_len (E : List Bs) : E.length ≤ wt E := by
  induction E with
  | nil => simp
  | cons e E ih => rw [wt_cons, List.length_cons]; omega
theorem wt_inter : ∀ E : List Bs, E ≠ [] → (([47] : Bs).intercalate E).length + 1 = wt E
  | [], h => absurd rfl h
  | [e], _ => by rw [J_one, wt_cons, wt_nil]
  | e :: f :: E, _ => by
    have := wt_inter (f :: E) (by simp)
    rw [J_cons, List.length_append, List.length_cons, wt_cons, ← this]; omega
theorem wt_els (l : Bs) : wt (els l) = l.length + 1 := by
  obtain ⟨e, r, h⟩ := els_ne l
  rw [← wt_inter (els l) (by rw [h]; simp), inter_els]

theorem wt_step (ro : Bool) (st : List Bs) (e : Bs) : wt (cleanStep ro st e) ≤ wt st + (e.length + 1) ∧ (wt (cleanStep ro st e) = wt st + (e.length + 1) → cleanStep ro st e = e :: st) := by
  rcases step_cases ro st e with ⟨_, h⟩ | ⟨_, _, _, h⟩ | ⟨rfl, ⟨rfl, _, h⟩ | ⟨rfl, _, h⟩ | ⟨r, rfl, h⟩ | ⟨x, r, rfl, _, h⟩⟩
  · rw [h]; exact ⟨by omega, fun h0 => by omega⟩
  · rw [h, wt_cons]; exact ⟨by omega, fun _ => rfl⟩
  · rw [h]; exact ⟨by simp [wt], fun h0 => by simp [wt] at h0⟩
  · rw [h]; exact ⟨by simp [wt], fun _ => rfl⟩
  · rw [h, wt_cons]; exact ⟨by omega, fun _ => rfl⟩
  · rw [h, wt_cons]; exact ⟨by omega, fun h0 => by omega⟩

theorem wt_fold (ro : Bool) : ∀ (E st : List Bs), wt (fold ro st E) ≤ wt st + wt E ∧ (wt (fold ro st E) = wt st + wt E → fold ro st E = E.reverse ++ st)
  | [], st => ⟨by rw [fold_nil, wt_nil]; omega, fun _ => rfl⟩
  | e :: E, st => by
    have h1 := wt_step ro st e
    have h2 := wt_fold ro E (cleanStep ro st e)
    rw [fold_cons, wt_cons]
    refine ⟨by omega, fun h => ?_⟩
    rw [h2.2 (by omega), h1.2 (by omega), List.reverse_cons, List.append_assoc]; rfl

theorem length_rnd_rel {st : List Bs} (h : st ≠ []) : (rnd false st).length + 1 = wt st := by
  unfold rnd
  rw [if_neg (by simp), if_neg h, wt_inter _ (by simpa using h), wt_reverse]
theorem length_rnd_abs {st : List Bs} (h : st ≠ []) : (rnd true st).length = wt st := by
  unfold rnd
  rw [if_pos rfl, List.length_cons, wt_inter _ (by simpa using h), wt_reverse]

/-- Clean's result is no longer than the path; as long as it: it is the path. -/
theorem clean_short {l : Bs} (hl : l ≠ []) : (clean l).length ≤ l.length ∧ ((clean l).length = l.length → clean l = l) := by
  have hpos : 0 < l.length := List.length_pos_iff.2 hl
  rw [clean_eq]
  cases hro : isAbs l with
  | true =>
    obtain ⟨t, rfl⟩ := (isAbs_iff l).1 hro
    have hs : stk (47 :: t) = fold true [] (els t) := by unfold stk; rw [hro, els_slash, fold_cons, step_nil]
    rw [hs]
    have hw := wt_fold true (els t) []
    rw [wt_nil, Nat.zero_add, wt_els] at hw
    by_cases h : fold true [] (els t) = []
    · rw [h]
      have : (rnd true []).length = 1 := by simp [rnd]
      rw [this]
      refine ⟨hpos, fun h1 => ?_⟩
      rw [List.length_cons] at h1
      have : t = [] := List.eq_nil_of_length_eq_zero (by omega)
      subst this; simp [rnd]
    · rw [length_rnd_abs h, List.length_cons]
      refine ⟨hw.1, fun h1 => ?_⟩
      have h2 := hw.2 h1
      unfold rnd
      rw [if_pos rfl, h2, List.append_nil, List.reverse_reverse, inter_els]
  | false =>
    have hs : stk l = fold false [] (els l) := by unfold stk; rw [hro]
    rw [hs]
    have hw := wt_fold false (els l) []
    rw [wt_nil, Nat.zero_add, wt_els] at hw
    by_cases h : fold false [] (els l) = []
    · rw [h]
      have : rnd false [] = [46] := by simp [rnd]
      rw [this]
      refine ⟨hpos, fun h1 => ?_⟩
      obtain ⟨c, rfl⟩ : ∃ c, l = [c] := by
        cases l with
        | nil => exact absurd rfl hl
        | cons c t =>
          have : t = [] := List.eq_nil_of_length_eq_zero (by simp only [List.length_cons, List.length_nil] at h1; omega)
          exact ⟨c, by rw [this]⟩
      rw [isAbs_cons] at hro
      have hc : c ≠ 47 := by simpa using hro
      rw [els_one (by simpa using fun e => hc e.symm)] at h
      rcases step_cases false [] [c] with ⟨h' | h', _⟩ | ⟨_, _, _, h'⟩ | ⟨h', _⟩
      · cases h'
      · exact h'.symm
      · exact absurd (h'.symm.trans h) (by simp)
      · cases h'
    · have hl1 := length_rnd_rel h
      refine ⟨by omega, fun h1 => ?_⟩
      have h2 := hw.2 (by omega)
      unfold rnd
      rw [if_neg (by simp), if_neg h, h2, List.append_nil, List.reverse_reverse, inter_els]

theorem clean_length (l : Bs) : 1 ≤ (clean l).length ∧ (clean l).length ≤ max l.length 1 := by
  refine ⟨List.length_pos_iff.2 (clean_ne l), ?_⟩
  by_cases h : l = []
  · subst h; decide
  · have := (clean_short h).1; omega

end Go.Proofs.YtgigodblbiiahaaDoor.Wm
