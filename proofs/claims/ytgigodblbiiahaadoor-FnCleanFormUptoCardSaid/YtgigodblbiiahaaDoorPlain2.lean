/-
  Plain laws on slash-separated paths, the second part: Split, Base, Ext, Dir, Join over lists of bytes. No program, no walk.
-/
import Derived.Test.YtgigodblbiiahaaDoorPlain
namespace Go.Proofs.YtgigodblbiiahaaDoor.Wm
open Go.Lib.Pa

/-! Split -/

theorem getElem?_mem {l : Bs} {j : Nat} {c : UInt8} (h : l[j]? = some c) : c ∈ l := List.mem_of_getElem? h

/-- Empty, or ended by a slash. -/
def Ends (a : Bs) : Prop := a = [] ∨ ∃ d, a = d ++ [47]

theorem split_mk {a b : Bs} (ha : Ends a) (hb : 47 ∉ b) : split (a ++ b) = (a, b) := by
  have key : lastIndexByte (a ++ b) 47 + 1 = (a.length : Int) := by
    rcases ha with rfl | ⟨d, rfl⟩
    · rw [List.nil_append]
      rcases lastIndexByte_spec b 47 with ⟨h, _⟩ | ⟨i, _, h, _⟩
      · rw [h]; rfl
      · exact absurd (getElem?_mem h) hb
    · have : lastIndexByte (d ++ [47] ++ b) 47 = (d.length : Int) := by
        refine lastIdx_eq_of _ 47 d.length _ (by simp) (by simp) ?_
        intro j hj _ h
        rw [List.append_assoc, List.getElem?_append_right (by omega), List.getElem?_append_right (by simp; omega)] at h
        exact hb (getElem?_mem h)
      rw [this]; simp
  unfold split
  rw [key, Int.toNat_natCast, List.take_left, List.drop_left]

theorem split_append (l : Bs) : (split l).1 ++ (split l).2 = l := by
  unfold split; exact List.take_append_drop _ _

theorem split_file (l : Bs) : 47 ∉ (split l).2 := by
  unfold split
  intro h
  obtain ⟨j, hj⟩ := List.getElem?_of_mem h
  rw [List.getElem?_drop] at hj
  rcases lastIndexByte_spec l 47 with ⟨_, h'⟩ | ⟨i, h1, _, h3⟩
  · exact h' _ hj
  · rw [h1] at hj; exact h3 _ (by omega) hj

theorem split_dir (l : Bs) : Ends (split l).1 := by
  unfold split
  rcases lastIndexByte_spec l 47 with ⟨h, _⟩ | ⟨i, h1, h2, _⟩
  · left; rw [h]; rfl
  · right
    refine ⟨l.take i, ?_⟩
    rw [h1, show ((i : Int) + 1).toNat = i + 1 by omega, List.take_add_one, h2]; rfl

theorem ends_no47 {a : Bs} (ha : Ends a) (h : 47 ∉ a) : a = [] := by
  rcases ha with h' | ⟨d, rfl⟩
  · exact h'
  · exact absurd (by simp) h

theorem split_dir_dir (l : Bs) : split (split l).1 = ((split l).1, []) := by
  have := split_mk (b := []) (split_dir l) (by simp)
  rwa [List.append_nil] at this
theorem split_file_file (l : Bs) : split (split l).2 = ([], (split l).2) := split_mk (a := []) (.inl rfl) (split_file l)

/-- A path's elements by Split: the last one is the file. -/
theorem els_split (l : Bs) : ((split l).1 = [] ∧ els l = [(split l).2]) ∨ ∃ d, (split l).1 = d ++ [47] ∧ els l = els d ++ [(split l).2] ∧ els (split l).1 = els d ++ [[]] := by
  have hl := split_append l
  rcases split_dir l with h | ⟨d, h⟩
  · left
    refine ⟨h, ?_⟩
    rw [h, List.nil_append] at hl
    rw [hl]
    have := split_file l
    rw [hl] at this
    exact els_one this
  · right
    refine ⟨d, h, ?_, ?_⟩
    · conv => lhs; rw [← hl]
      rw [h, List.append_assoc, List.singleton_append, els_app, els_one (split_file l)]
    · rw [h, els_app]; rfl

/-! Base -/

def slashes (k : Nat) : Bs := List.replicate k 47

theorem trim_slashes (l : Bs) (k : Nat) : trimSlashes (l ++ slashes k) = trimSlashes l := by
  unfold trimSlashes slashes
  rw [List.reverse_append, List.reverse_replicate]
  congr 1
  induction k with
  | zero => rfl
  | succ k ih => rw [List.replicate_succ, List.cons_append, List.dropWhile_cons_of_pos (by simp)]; exact ih
theorem trim_end (d : Bs) (c : UInt8) (h : c ≠ 47) : trimSlashes (d ++ [c]) = d ++ [c] := by
  unfold trimSlashes
  rw [List.reverse_append, List.reverse_singleton, List.singleton_append, List.dropWhile_cons_of_neg (by simpa using h), List.reverse_cons, List.reverse_reverse]
theorem snoc_of {l : Bs} (h : l ≠ []) : ∃ d c, l = d ++ [c] := ⟨l.dropLast, l.getLast h, (List.dropLast_concat_getLast h).symm⟩
theorem trim_file {a f : Bs} (hf : f ≠ []) (h47 : 47 ∉ f) : trimSlashes (a ++ f) = a ++ f := by
  obtain ⟨d, c, rfl⟩ := snoc_of hf
  rw [← List.append_assoc]
  exact trim_end _ c (fun e => h47 (by rw [e]; simp))

theorem base_mk {a f : Bs} (k : Nat) (ha : Ends a) (hf : f ≠ []) (h47 : 47 ∉ f) : base (a ++ f ++ slashes k) = f := by
  unfold base
  rw [trim_slashes, trim_file hf h47, split_mk ha h47, if_neg (by simp [hf]), if_neg hf]
theorem base_file {a f : Bs} (ha : Ends a) (hf : f ≠ []) (h47 : 47 ∉ f) : base (a ++ f) = f := by
  have := base_mk 0 ha hf h47
  rwa [slashes, List.replicate_zero, List.append_nil] at this
theorem base_slashes (k : Nat) : base (slashes (k + 1)) = [47] := by
  have : trimSlashes (slashes (k + 1)) = [] := by
    have := trim_slashes [] (k + 1)
    rw [List.nil_append] at this
    rw [this]; rfl
  unfold base
  rw [this, if_neg (by simp [slashes, List.replicate_succ])]
  rfl

theorem tail_slashes (l : Bs) : ∃ t k, l = t ++ slashes k ∧ (t = [] ∨ ∃ d c, t = d ++ [c] ∧ c ≠ 47) := by
  suffices h : ∀ n : Nat, ∀ l : Bs, l.length = n → ∃ t k, l = t ++ slashes k ∧ (t = [] ∨ ∃ d c, t = d ++ [c] ∧ c ≠ 47) from h _ l rfl
  intro n
  induction n with
  | zero => intro l h; exact ⟨[], 0, by rw [List.eq_nil_of_length_eq_zero h]; rfl, .inl rfl⟩
  | succ n ih =>
    intro l h
    obtain ⟨d, c, rfl⟩ := snoc_of (l := l) (by intro e; subst e; simp at h)
    by_cases hc : c = 47
    · subst hc
      obtain ⟨t, k, hd, ht⟩ := ih d (by simpa using h)
      refine ⟨t, k + 1, ?_, ht⟩
      rw [hd, List.append_assoc, slashes, slashes, List.replicate_succ']
    · exact ⟨d ++ [c], 0, by simp [slashes], .inr ⟨d, c, rfl, hc⟩⟩

/-- A path is slashes alone, or an element that is not empty with slashes behind it. -/
theorem base_cases (l : Bs) : (∃ k, l = slashes k) ∨ ∃ a f k, l = a ++ f ++ slashes k ∧ Ends a ∧ f ≠ [] ∧ 47 ∉ f := by
  obtain ⟨t, k, rfl, rfl | ⟨d, c, rfl, hc⟩⟩ := tail_slashes l
  · exact .inl ⟨k, rfl⟩
  · right
    refine ⟨(split (d ++ [c])).1, (split (d ++ [c])).2, k, by rw [split_append], split_dir _, ?_, split_file _⟩
    intro h
    have hs := split_append (d ++ [c])
    rw [h, List.append_nil] at hs
    rcases split_dir (d ++ [c]) with h' | ⟨d', h'⟩
    · rw [h'] at hs; simp at hs
    · rw [h'] at hs
      have := congrArg List.getLast? hs
      simp at this
      exact hc this.symm

theorem base_nil' : base [] = [46] := rfl
theorem base_ne (l : Bs) : base l ≠ [] := by
  unfold base; split
  · simp
  · split
    · simp
    · assumption
theorem slashes_succ_ne (k : Nat) : slashes (k + 1) ≠ [] := by simp [slashes, List.replicate_succ]
theorem base_form (l : Bs) : base l = [47] ∨ 47 ∉ base l := by
  rcases base_cases l with ⟨k, rfl⟩ | ⟨a, f, k, rfl, ha, hf, h47⟩
  · cases k with
    | zero => right; decide
    | succ k => left; exact base_slashes k
  · right; rw [base_mk k ha hf h47]; exact h47
theorem base_base (l : Bs) : base (base l) = base l := by
  rcases base_form l with h | h
  · rw [h]; decide
  · have := base_file (a := []) (.inl rfl) (base_ne l) h
    rwa [List.nil_append] at this
theorem slashes_add (j k : Nat) : slashes j ++ slashes k = slashes (j + k) := by simp [slashes]
/-- Slashes at the end make no difference. -/
theorem base_trailing (l : Bs) (n : Nat) (hl : l ≠ []) : base (l ++ slashes n) = base l := by
  rcases base_cases l with ⟨k, rfl⟩ | ⟨a, f, k, rfl, ha, hf, h47⟩
  · cases k with
    | zero => exact absurd rfl hl
    | succ k => rw [slashes_add, show k + 1 + n = (k + n) + 1 by omega, base_slashes, base_slashes]
  · rw [List.append_assoc, slashes_add, base_mk _ ha hf h47, base_mk _ ha hf h47]
theorem ends_app {a : Bs} (b : Bs) (ha : Ends a) : Ends (b ++ 47 :: a) := by
  rcases ha with rfl | ⟨d, rfl⟩
  · exact .inr ⟨b, rfl⟩
  · exact .inr ⟨b ++ 47 :: d, by simp⟩
/-- Nor does anything before a slash, if the path is not slashes alone. -/
theorem base_before (b l : Bs) (hl : ¬ ∃ k, l = slashes k) : base (b ++ 47 :: l) = base l := by
  rcases base_cases l with h | ⟨a, f, k, rfl, ha, hf, h47⟩
  · exact absurd h hl
  · have e : b ++ 47 :: (a ++ f ++ slashes k) = (b ++ 47 :: a) ++ f ++ slashes k := by simp
    rw [e, base_mk _ (ends_app b ha) hf h47, base_mk _ ha hf h47]
/-- A path without a slash at its end: Base is the file of Split. -/
theorem base_split {l : Bs} (hl : l ≠ []) (h : ∀ d, l ≠ d ++ [47]) : base l = (split l).2 ∧ (split l).2 ≠ [] := by
  have hf : (split l).2 ≠ [] := by
    intro hf
    have hs := split_append l
    rw [hf, List.append_nil] at hs
    rcases split_dir l with h' | ⟨d, h'⟩
    · rw [h'] at hs; exact hl hs.symm
    · exact h d (by rw [← hs, h'])
  have := base_file (split_dir l) hf (split_file l)
  rw [split_append] at this
  exact ⟨this, hf⟩

/-! Ext -/

theorem ext_split (l : Bs) : ext l = ext (split l).2 := by
  unfold ext; rw [split_file_file]

/-- What Ext is: the file's part from its last dot on. -/
theorem ext_mk {a n e : Bs} (ha : Ends a) (hn : 47 ∉ n) (he : 47 ∉ e) (hd : 46 ∉ e) : ext (a ++ (n ++ 46 :: e)) = 46 :: e := by
  have h47 : 47 ∉ n ++ 46 :: e := by simp [hn, he]
  have hi : lastIndexByte (n ++ 46 :: e) 46 = (n.length : Int) := by
    refine lastIdx_eq_of _ 46 n.length _ (by simp) (by simp) ?_
    intro j hj _ h
    rw [List.getElem?_append_right (by omega), List.getElem?_cons, if_neg (by omega)] at h
    exact hd (getElem?_mem h)
  unfold ext
  rw [split_mk ha h47, hi, if_pos (by omega), Int.toNat_natCast, List.drop_left]
theorem ext_none {a f : Bs} (ha : Ends a) (hf : 47 ∉ f) (hd : 46 ∉ f) : ext (a ++ f) = [] := by
  have hi : lastIndexByte f 46 = -1 := by
    rcases lastIndexByte_spec f 46 with ⟨h, _⟩ | ⟨i, _, h, _⟩
    · exact h
    · exact absurd (getElem?_mem h) hd
  unfold ext
  rw [split_mk ha hf, hi, if_neg (by omega)]

/-- The last c of a list, or none. -/
theorem last_cases (l : Bs) (c : UInt8) : c ∉ l ∨ ∃ a b, l = a ++ c :: b ∧ c ∉ b := by
  induction l with
  | nil => left; simp
  | cons x t ih =>
    rcases ih with h | ⟨a, b, rfl, h⟩
    · by_cases hx : x = c
      · subst hx; exact .inr ⟨[], t, rfl, h⟩
      · left; simp [h]; exact fun e => hx e.symm
    · exact .inr ⟨x :: a, b, rfl, h⟩

theorem ext_cases (l : Bs) : (46 ∉ (split l).2 ∧ ext l = []) ∨ ∃ n e, (split l).2 = n ++ 46 :: e ∧ 46 ∉ e ∧ 47 ∉ e ∧ ext l = 46 :: e := by
  have hf := split_file l
  rcases last_cases (split l).2 46 with h | ⟨n, e, h, he⟩
  · left
    refine ⟨h, ?_⟩
    have := ext_none (split_dir l) hf h
    rwa [split_append] at this
  · right
    rw [h] at hf
    have h1 : 47 ∉ n := fun hm => hf (by simp [hm])
    have h2 : 47 ∉ e := fun hm => hf (by simp [hm])
    have := ext_mk (split_dir l) h1 h2 he
    rw [← h, split_append] at this
    exact ⟨n, e, h, he, h2, this⟩

theorem ext_added (p e : Bs) (h1 : 46 ∉ e) (h2 : 47 ∉ e) : ext (p ++ 46 :: e) = 46 :: e ∧ ext (p ++ 47 :: e) = [] := by
  constructor
  · have hs := split_append p
    have := ext_mk (split_dir p) (split_file p) h2 h1
    rwa [← List.append_assoc, hs] at this
  · have := ext_none (a := p ++ [47]) (.inr ⟨p, rfl⟩) h2 h1
    rwa [List.append_assoc, List.singleton_append] at this

/-! Dir -/

theorem rnd_cons_cons (ro : Bool) (x y : Bs) (r : List Bs) : rnd ro (x :: y :: r) = rnd ro (y :: r) ++ 47 :: x := by
  unfold rnd
  have : ([47] : Bs).intercalate (x :: y :: r).reverse = ([47] : Bs).intercalate (y :: r).reverse ++ 47 :: x := by
    rw [List.reverse_cons (a := x), inter_snoc x _ (by simp)]
  cases ro with
  | true => rw [if_pos rfl, if_pos rfl, this]; rfl
  | false => rw [if_neg (by simp), if_neg (by simp), if_neg (by simp), if_neg (by simp), this]
theorem rnd_one_abs (x : Bs) : rnd true [x] = 47 :: x := by simp [rnd]
theorem rnd_one_rel (x : Bs) : rnd false [x] = x := by simp [rnd]
theorem rnd_nil_abs : rnd true [] = [47] := by simp [rnd]
theorem rnd_nil_rel : rnd false [] = [46] := by simp [rnd]

/-- What Split makes of a rendered stack. -/
theorem split_rnd {ro : Bool} {x : Bs} {r : List Bs} (g : Good ro (x :: r)) : split (rnd ro (x :: r)) = ((if r = [] then (if ro then [47] else []) else rnd ro r ++ [47]), x) := by
  have hx := g.2.1
  cases r with
  | nil =>
    rw [if_pos rfl]
    cases ro with
    | true => rw [rnd_one_abs]; exact split_mk (a := [47]) (.inr ⟨[], rfl⟩) hx
    | false => rw [rnd_one_rel]; exact split_mk (a := []) (.inl rfl) hx
  | cons y r =>
    rw [if_neg (by simp), rnd_cons_cons]
    have := split_mk (a := rnd ro (y :: r) ++ [47]) (b := x) (.inr ⟨_, rfl⟩) hx
    rwa [List.append_assoc, List.singleton_append] at this

theorem clean_slash {l : Bs} (hl : l ≠ []) : clean (l ++ [47]) = clean l := by
  refine (clean_iff _ _).2 ⟨isAbs_append _ hl, ?_⟩
  unfold stk
  rw [isAbs_append _ hl, els_app l [], fold_append]
  exact fold_nils _ _

/-- Dir of a rendered stack: the top is gone. -/
theorem dir_rnd {ro : Bool} {st : List Bs} (g : Good ro st) : dir (rnd ro st) = rnd ro st.tail := by
  unfold dir
  cases st with
  | nil => cases ro <;> decide
  | cons x r =>
    rw [split_rnd g]
    show clean (if r = [] then _ else _) = rnd ro r
    by_cases hr : r = []
    · subst hr; rw [if_pos rfl]; cases ro <;> decide
    · rw [if_neg hr, clean_slash (rnd_ne ro r g.1), clean_rnd g.1]
theorem dir_clean (p : Bs) : dir (clean p) = rnd (isAbs p) (stk p).tail := by rw [clean_eq, dir_rnd (good_stk p)]
theorem dir_ne (p : Bs) : dir p ≠ [] := clean_ne _

theorem base_rnd {ro : Bool} {x : Bs} {r : List Bs} (g : Good ro (x :: r)) : base (rnd ro (x :: r)) = x := by
  have h := split_rnd g
  have hs := split_append (rnd ro (x :: r))
  have hd := split_dir (rnd ro (x :: r))
  rw [h] at hs hd
  rw [← hs]
  exact base_file hd g.2.2.1 g.2.1

/-- A stack's top, put upon the rest. -/
theorem Good.top {ro : Bool} {x : Bs} {r : List Bs} (g : Good ro (x :: r)) : cleanStep ro r x = x :: r := by
  have h := fold_rev g
  rwa [List.reverse_cons, fold_snoc, fold_rev g.1] at h

/-! Join -/

theorem join_one {p : Bs} (hp : p ≠ []) : join [p] = clean p := by
  unfold join; simp [hp]
theorem join_two {p q : Bs} (hp : p ≠ []) (hq : q ≠ []) : join [p, q] = clean (p ++ 47 :: q) := by
  unfold join
  rw [List.filter_cons_of_pos (by simpa using hp), List.filter_cons_of_pos (by simpa using hq), List.filter_nil, if_neg (by simp), J_cons, J_one]
/-- The elements that are not empty. -/
def full (xs : List Bs) : List Bs := xs.filter (· ≠ [])
theorem join_eq (xs : List Bs) : join xs = if full xs = [] then [] else clean (([47] : Bs).intercalate (full xs)) := rfl
theorem full_append (xs ys : List Bs) : full (xs ++ ys) = full xs ++ full ys := List.filter_append _ _
theorem full_cons_ne {x : Bs} (xs : List Bs) (hx : x ≠ []) : full (x :: xs) = x :: full xs := List.filter_cons_of_pos (by simpa using hx)
theorem full_cons_nil (xs : List Bs) : full ([] :: xs) = full xs := List.filter_cons_of_neg (by simp)
theorem mem_full {x : Bs} {xs : List Bs} (h : x ∈ full xs) : x ≠ [] := by simpa using (List.mem_filter.1 h).2
theorem full_nil_iff (xs : List Bs) : full xs = [] ↔ ∀ x, x ∈ xs → x = [] := by
  unfold full
  rw [List.filter_eq_nil_iff]
  simp
theorem join_nil_iff (xs : List Bs) : join xs = [] ↔ full xs = [] := by
  rw [join_eq]
  constructor
  · intro h
    split at h
    · assumption
    · exact absurd h (clean_ne _)
  · intro h; rw [if_pos h]

/-- Elements that are not empty, joined by slashes: how the text begins, and its elements. -/
theorem isAbs_inter {y : Bs} (Y : List Bs) (hy : y ≠ []) : isAbs (([47] : Bs).intercalate (y :: Y)) = isAbs y := isAbs_head (J_head y Y hy).1
theorem fold_inter (ro : Bool) (s : List Bs) (y : Bs) (Y : List Bs) : fold ro s (els (([47] : Bs).intercalate (y :: Y))) = fold ro (fold ro s (els y)) (Y.flatMap els) := by
  rw [els_J, List.flatMap_cons, fold_append]

theorem join_cons {y : Bs} {Y : List Bs} {xs : List Bs} (h : full xs = y :: Y) : join xs = rnd (isAbs y) (fold (isAbs y) (fold (isAbs y) [] (els y)) (Y.flatMap els)) := by
  have hy : y ≠ [] := mem_full (by rw [h]; simp)
  rw [join_eq, h, if_neg (by simp), clean_eq]
  unfold stk
  rw [isAbs_inter Y hy, fold_inter]
theorem full_cases (xs : List Bs) : full xs = [] ∨ ∃ y Y, full xs = y :: Y ∧ y ≠ [] := by
  cases h : full xs with
  | nil => exact .inl rfl
  | cons y Y => exact .inr ⟨y, Y, rfl, mem_full (by rw [h]; simp)⟩
theorem good_flat {ro : Bool} {st : List Bs} (g : Good ro st) (Y : List Bs) : Good ro (fold ro st (Y.flatMap els)) :=
  g.fold (fun e he => by
    obtain ⟨y, _, hy⟩ := List.mem_flatMap.1 he
    exact els_no47 y e hy)
theorem isAbs_join {xs : List Bs} {y : Bs} {Y : List Bs} (h : full xs = y :: Y) : isAbs (join xs) = isAbs y := by
  rw [join_cons h]; exact isAbs_rnd (good_flat (good_fold _ _) Y)
theorem stk_join {xs : List Bs} {y : Bs} {Y : List Bs} (h : full xs = y :: Y) : stk (join xs) = fold (isAbs y) (fold (isAbs y) [] (els y)) (Y.flatMap els) := by
  rw [join_cons h]; exact stk_rnd (good_flat (good_fold _ _) Y)
theorem join_ne {xs : List Bs} (h : full xs ≠ []) : join xs ≠ [] := fun e => h ((join_nil_iff xs).1 e)
theorem clean_join {xs : List Bs} (h : full xs ≠ []) : clean (join xs) = join xs := by
  rw [join_eq, if_neg h, clean_clean]

theorem fold_flat_app (ro : Bool) (s : List Bs) (X Y : List Bs) : fold ro s ((X ++ Y).flatMap els) = fold ro (fold ro s (X.flatMap els)) (Y.flatMap els) := by
  rw [List.flatMap_append, fold_append]

/-- To join the first elements first. -/
theorem join_left (xs ys : List Bs) : join (join xs :: ys) = join (xs ++ ys) := by
  rcases full_cases xs with h | ⟨y, Y, h, hy⟩
  · have : join xs = [] := (join_nil_iff xs).2 h
    rw [this, join_eq, join_eq, full_cons_nil, full_append, h, List.nil_append]
  · have hj : join xs ≠ [] := join_ne (by rw [h]; simp)
    rw [join_cons (full_cons_ne ys hj), join_cons (xs := xs ++ ys) (y := y) (Y := Y ++ full ys) (by rw [full_append, h]; rfl), isAbs_join h]
    have := stk_join h
    unfold stk at this
    rw [isAbs_join h] at this
    rw [this, fold_flat_app]

/-- To join the last elements first, unless they begin with a slash. -/
theorem join_right (xs ys : List Bs) (hr : ∀ y Y, full ys = y :: Y → isAbs y = false) : join (xs ++ [join ys]) = join (xs ++ ys) := by
  rcases full_cases ys with h | ⟨y, Y, h, hy⟩
  · have : join ys = [] := (join_nil_iff ys).2 h
    rw [this, join_eq, join_eq, full_append, full_append, h, full_cons_nil]
    rfl
  · have hj : join ys ≠ [] := join_ne (by rw [h]; simp)
    have hf : full [join ys] = [join ys] := full_cons_ne [] hj
    have hab := hr y Y h
    rcases full_cases xs with hx | ⟨x, X, hx, hx0⟩
    · have e1 : full (xs ++ [join ys]) = [join ys] := by rw [full_append, hx, hf]; rfl
      have e2 : full (xs ++ ys) = y :: Y := by rw [full_append, hx, h]; rfl
      rw [join_cons e1, join_cons e2, isAbs_join h]
      have := stk_join h
      unfold stk at this
      rw [isAbs_join h] at this
      rw [this]; rfl
    · have e1 : full (xs ++ [join ys]) = x :: (X ++ [join ys]) := by rw [full_append, hx, hf]; rfl
      have e2 : full (xs ++ ys) = x :: (X ++ y :: Y) := by rw [full_append, hx, h]; rfl
      rw [join_cons e1, join_cons e2, fold_flat_app, fold_flat_app]
      congr 1
      have hcl : join ys = clean (([47] : Bs).intercalate (y :: Y)) := by rw [join_eq, h, if_neg (by simp)]
      rw [List.flatMap_cons, List.flatMap_nil, List.append_nil, hcl, fold_clean_rel _ _ _ (by rw [isAbs_inter Y hy]; exact hab), els_J]

/-- To clean one element first, if it is the first one or does not begin with a slash. -/
theorem join_clean (xs ys : List Bs) (e : Bs) (he : e ≠ []) (h : xs = [] ∨ isAbs e = false) : join (xs ++ clean e :: ys) = join (xs ++ e :: ys) := by
  have hce := clean_ne e
  rcases full_cases xs with hx | ⟨x, X, hx, hx0⟩
  · have e1 : full (xs ++ clean e :: ys) = clean e :: full ys := by rw [full_append, hx, full_cons_ne ys hce]; rfl
    have e2 : full (xs ++ e :: ys) = e :: full ys := by rw [full_append, hx, full_cons_ne ys he]; rfl
    rw [join_cons e1, join_cons e2, isAbs_clean, fold_clean_start]
  · have hab : isAbs e = false := by
      rcases h with rfl | h
      · simp [full] at hx
      · exact h
    have e1 : full (xs ++ clean e :: ys) = x :: (X ++ clean e :: full ys) := by rw [full_append, hx, full_cons_ne ys hce]; rfl
    have e2 : full (xs ++ e :: ys) = x :: (X ++ e :: full ys) := by rw [full_append, hx, full_cons_ne ys he]; rfl
    rw [join_cons e1, join_cons e2, fold_flat_app, fold_flat_app, List.flatMap_cons, List.flatMap_cons, fold_append, fold_append, fold_clean_rel _ _ _ hab]

theorem join_empty_more (xs ys : List Bs) : join (xs ++ [] :: ys) = join (xs ++ ys) := by
  rw [join_eq, join_eq, full_append, full_append, full_cons_nil]

/-- A path, cut at a slash that is not its first byte. -/
theorem join_pieces {a : Bs} (b : Bs) (ha : a ≠ []) : join [a, b] = clean (a ++ 47 :: b) := by
  by_cases hb : b = []
  · subst hb
    have : join [a, []] = join [a] := by
      rw [join_eq, join_eq, full_cons_ne _ ha, full_cons_nil, full_cons_ne _ ha]
    rw [this, join_one ha]
    exact (clean_slash ha).symm
  · exact join_two ha hb

/-- Base and Dir of what was joined with a name. -/
theorem join_name (xs : List Bs) (e : Bs) (h0 : e ≠ []) (h1 : e ≠ [46]) (h2 : e ≠ [46, 46]) (h47 : 47 ∉ e) :
    base (join (xs ++ [e])) = e ∧ dir (join (xs ++ [e])) = if join xs = [] then [46] else join xs := by
  have hfe : full [e] = [e] := full_cons_ne [] h0
  rcases full_cases xs with hx | ⟨x, X, hx, hx0⟩
  · have e1 : full (xs ++ [e]) = [e] := by rw [full_append, hx, hfe]; rfl
    have hab := isAbs_no47 h47
    have hs : join (xs ++ [e]) = rnd false [e] := by
      rw [join_cons e1, hab, els_one h47, fold_cons, step_elem _ _ _ h0 h1 h2]; rfl
    have g : Good false [e] := ⟨trivial, h47, h0, h1, fun e' => absurd e' h2⟩
    rw [hs, base_rnd g, dir_rnd g, if_pos ((join_nil_iff xs).2 hx)]
    exact ⟨rfl, rnd_nil_rel⟩
  · have e1 : full (xs ++ [e]) = x :: (X ++ [e]) := by rw [full_append, hx, hfe]; rfl
    have gX := good_flat (good_fold (isAbs x) x) X
    have hs : join (xs ++ [e]) = rnd (isAbs x) (e :: fold (isAbs x) (fold (isAbs x) [] (els x)) (X.flatMap els)) := by
      rw [join_cons e1, fold_flat_app]
      show rnd _ (fold _ _ (els e ++ [])) = _
      rw [List.append_nil, els_one h47, fold_cons, step_elem _ _ _ h0 h1 h2]; rfl
    have g : Good (isAbs x) (e :: fold (isAbs x) (fold (isAbs x) [] (els x)) (X.flatMap els)) := ⟨gX, h47, h0, h1, fun e' => absurd e' h2⟩
    rw [hs, base_rnd g, dir_rnd g, if_neg (join_ne (by rw [hx]; simp)), join_cons hx]
    exact ⟨rfl, rfl⟩

/-- Dir and Base of a clean path, joined again. -/
theorem join_dir_base (p : Bs) : join [dir (clean p), base (clean p)] = clean p := by
  have g := good_stk p
  rw [dir_clean, clean_eq]
  generalize stk p = st at g
  generalize isAbs p = ro at g
  cases st with
  | nil => cases ro <;> decide
  | cons x r =>
    rw [base_rnd g, List.tail_cons, join_two (rnd_ne ro r g.1) g.2.2.1, clean_eq]
    have hab : isAbs (rnd ro r ++ 47 :: x) = ro := by rw [isAbs_append _ (rnd_ne ro r g.1), isAbs_rnd g.1]
    have hst : stk (rnd ro r ++ 47 :: x) = x :: r := by
      have h1 := stk_rnd g.1
      unfold stk at h1 ⊢
      rw [isAbs_rnd g.1] at h1
      rw [hab, els_app, fold_append, h1, els_one g.2.1]
      exact g.top
    rw [hab, hst]

/-- Dir of a clean path is the path joined with two dots, if it is rooted or its last element is a name. -/
theorem dir_dotdot (p : Bs) (h : isAbs p = true ∨ ∃ x r, stk p = x :: r ∧ x ≠ [46, 46]) : dir (clean p) = join [clean p, [46, 46]] := by
  have g := good_stk p
  rw [dir_clean, join_two (clean_ne p) (by simp), clean_eq (clean p ++ _)]
  have hab : isAbs (clean p ++ 47 :: [46, 46]) = isAbs p := by rw [isAbs_append _ (clean_ne p), isAbs_clean]
  have hst : stk (clean p ++ 47 :: [46, 46]) = cleanStep (isAbs p) (stk p) [46, 46] := by
    have h1 := stk_clean p
    unfold stk at h1 ⊢
    rw [isAbs_clean] at h1
    rw [hab, els_app, fold_append, h1]; rfl
  rw [hab, hst]
  congr 1
  rcases step_cases (isAbs p) (stk p) [46, 46] with ⟨h' | h', _⟩ | ⟨_, _, h', _⟩ | ⟨_, ⟨h1, _, h'⟩ | ⟨h1, h2, h'⟩ | ⟨r, h1, h'⟩ | ⟨x, r, h1, _, h'⟩⟩
  · cases h'
  · cases h'
  · exact absurd rfl h'
  · rw [h', h1]; rfl
  · rcases h with h | ⟨x, r, h, _⟩
    · rw [h] at h2; cases h2
    · rw [h1] at h; cases h
  · rcases h with h | ⟨x, r', h, hx⟩
    · rw [h1, h] at g
      exact absurd (g.2.2.2.2 rfl).1 (by simp)
    · rw [h1] at h; cases h; exact absurd rfl hx
  · rw [h', h1]; rfl

/-- Dir of a clean path by its last slash. -/
theorem dir_clean_cases (p : Bs) : (clean p = [47] ∧ dir (clean p) = [47]) ∨ (clean p = [46] ∧ dir (clean p) = [46]) ∨
    (clean p ≠ [47] ∧ clean p ≠ [46] ∧ ((47 ∉ clean p ∧ dir (clean p) = [46]) ∨ (∃ x, clean p = 47 :: x ∧ 47 ∉ x ∧ dir (clean p) = [47]) ∨ ∃ d x, d ≠ [] ∧ clean p = d ++ 47 :: x ∧ 47 ∉ x ∧ dir (clean p) = d)) := by
  have g := good_stk p
  rw [dir_clean, clean_eq]
  generalize stk p = st at g
  generalize isAbs p = ro at g
  cases st with
  | nil =>
    cases ro with
    | true => left; exact ⟨rnd_nil_abs, rnd_nil_abs⟩
    | false => right; left; exact ⟨rnd_nil_rel, rnd_nil_rel⟩
  | cons x r =>
    right; right
    have hn : ∀ c, rnd ro [] = [c] → rnd ro (x :: r) ≠ [c] := by
      intro c hc h
      have := congrArg stk (h.trans hc.symm)
      rw [stk_rnd g, stk_rnd (ro := ro) (st := []) trivial] at this
      cases this
    have hab := isAbs_rnd g
    refine ⟨?_, ?_, ?_⟩
    · cases ro with
      | true => exact hn 47 rnd_nil_abs
      | false => intro h; rw [h] at hab; exact absurd hab (by decide)
    · cases ro with
      | true => intro h; rw [h] at hab; exact absurd hab (by decide)
      | false => exact hn 46 rnd_nil_rel
    · rw [List.tail_cons]
      cases r with
      | nil =>
        cases ro with
        | true => right; left; exact ⟨x, rnd_one_abs x, g.2.1, rnd_nil_abs⟩
        | false => left; exact ⟨by rw [rnd_one_rel]; exact g.2.1, rnd_nil_rel⟩
      | cons y r => right; right; exact ⟨rnd ro (y :: r), x, rnd_ne _ _ g.1, rnd_cons_cons ro x y r, g.2.1, rfl⟩

/-! Dir, again and again -/

def dirs : Nat → Bs → Bs
  | 0, p => p
  | n + 1, p => dir (dirs n p)

theorem dirs_rnd {ro : Bool} {st : List Bs} (g : Good ro st) : ∀ n, dirs n (rnd ro st) = rnd ro (st.drop n) ∧ Good ro (st.drop n)
  | 0 => ⟨rfl, g⟩
  | n + 1 => by
    obtain ⟨h, g'⟩ := dirs_rnd g n
    have e : st.drop (n + 1) = (st.drop n).tail := by rw [List.tail_drop]
    refine ⟨by rw [dirs, h, dir_rnd g', e], ?_⟩
    rw [e]
    cases hd : st.drop n with
    | nil => trivial
    | cons x r => rw [hd] at g'; exact g'.1
theorem dirs_succ (n : Nat) (p : Bs) : dirs (n + 1) p = dirs n (dir p) := by
  induction n with
  | zero => rfl
  | succ n ih => rw [dirs, ih]; rfl

theorem isAbs_split (p : Bs) : isAbs (split p).1 = isAbs p := by
  have hs := split_append p
  by_cases h : (split p).1 = []
  · rw [h] at hs ⊢
    rw [List.nil_append] at hs
    have := split_file p
    rw [hs] at this
    rw [isAbs_no47 this]; rfl
  · conv => rhs; rw [← hs]
    exact (isAbs_append _ h).symm

/-- Dir of Dir and so on ends at the root or at the dot. -/
theorem dirs_end (p : Bs) : dirs (p.length + 1) p = if isAbs p then [47] else [46] := by
  rw [dirs_succ]
  have hd : dir p = rnd (isAbs p) (stk (split p).1) := by unfold dir; rw [clean_eq, isAbs_split]
  have g : Good (isAbs p) (stk (split p).1) := by rw [← isAbs_split p]; exact good_stk _
  have hlen : (stk (split p).1).length ≤ p.length := by
    have hw := (wt_fold (isAbs (split p).1) (els (split p).1) []).1
    rw [wt_nil, Nat.zero_add, wt_els] at hw
    have hb := split_fst_le p
    have h2 : 2 * (stk (split p).1).length ≤ wt (stk (split p).1) := by
      have gs := good_stk (split p).1
      generalize stk (split p).1 = st at gs
      generalize isAbs (split p).1 = ro at gs
      induction st with
      | nil => simp
      | cons x r ih =>
        have := ih gs.1
        have hx : 0 < x.length := List.length_pos_iff.2 gs.2.2.1
        rw [wt_cons, List.length_cons]; omega
    unfold stk at h2 ⊢
    omega
  rw [hd, (dirs_rnd g p.length).1, List.drop_of_length_le hlen]
  cases isAbs p
  · exact rnd_nil_rel
  · exact rnd_nil_abs

/-! The first element that is not empty -/

def fstOf (xs : List Bs) : Bs := (full xs).headD []
theorem fstOf_nil : fstOf [] = [] := rfl
theorem fstOf_snoc (xs : List Bs) (x : Bs) : fstOf (xs ++ [x]) = if fstOf xs = [] then x else fstOf xs := by
  unfold fstOf
  rw [full_append]
  rcases full_cases xs with h | ⟨y, Y, h, hy⟩
  · rw [h, List.nil_append]
    by_cases hx : x = []
    · subst hx; simp [full]
    · rw [full_cons_ne _ hx]; simp
  · rw [h]
    show y = if y = [] then x else y
    rw [if_neg hy]
theorem fstOf_join (xs : List Bs) : (join xs = [] ∧ fstOf xs = []) ∨ (join xs ≠ [] ∧ fstOf xs ≠ [] ∧ isAbs (join xs) = isAbs (fstOf xs)) := by
  rcases full_cases xs with h | ⟨y, Y, h, hy⟩
  · left; exact ⟨(join_nil_iff xs).2 h, by unfold fstOf; rw [h]; rfl⟩
  · right
    have e : fstOf xs = y := by unfold fstOf; rw [h]; rfl
    exact ⟨join_ne (by rw [h]; simp), by rw [e]; exact hy, by rw [e]; exact isAbs_join h⟩

/-! Other bytes in the names -/

/-- Both f's values and what it leaves alone: slashes and dots stay, nothing else becomes one. -/
def Keeps (f : UInt8 → UInt8) : Prop := (∀ c, f c = 47 ↔ c = 47) ∧ ∀ c, f c = 46 ↔ c = 46

theorem map_no47 {f : UInt8 → UInt8} (hf : Keeps f) {l : Bs} (h : 47 ∉ l) : 47 ∉ l.map f := by
  intro hm
  obtain ⟨c, hc, hc'⟩ := List.mem_map.1 hm
  rw [(hf.1 c).1 hc'] at hc
  exact h hc
theorem els_map {f : UInt8 → UInt8} (hf : Keeps f) : ∀ l : Bs, els (l.map f) = (els l).map (List.map f)
  | [] => rfl
  | c :: t => by
    have ih := els_map hf t
    obtain ⟨e, r, h⟩ := els_ne t
    by_cases hc : c = 47
    · have hc' : f c = 47 := (hf.1 c).2 hc
      rw [List.map_cons, els, if_pos hc', els, if_pos hc, ih]; rfl
    · have hc' : f c ≠ 47 := fun e => hc ((hf.1 c).1 e)
      rw [List.map_cons, els, if_neg hc', els, if_neg hc, ih, h]; rfl
theorem map_dot {f : UInt8 → UInt8} (hf : Keeps f) (e : Bs) : e.map f = [46] ↔ e = [46] := by
  constructor
  · intro h
    obtain ⟨c, rfl⟩ : ∃ c, e = [c] := by
      cases e with
      | nil => cases h
      | cons c t => cases t with
        | nil => exact ⟨c, rfl⟩
        | cons d t => simp at h
    simp at h; rw [(hf.2 c).1 h]
  · rintro rfl; simp [(hf.2 46).2 rfl]
theorem map_dd {f : UInt8 → UInt8} (hf : Keeps f) (e : Bs) : e.map f = [46, 46] ↔ e = [46, 46] := by
  constructor
  · intro h
    obtain ⟨c, d, rfl⟩ : ∃ c d, e = [c, d] := by
      cases e with
      | nil => cases h
      | cons c t => cases t with
        | nil => simp at h
        | cons d t => cases t with
          | nil => exact ⟨c, d, rfl⟩
          | cons x t => simp at h
    simp at h; rw [(hf.2 c).1 h.1, (hf.2 d).1 h.2]
  · rintro rfl; simp [(hf.2 46).2 rfl]
theorem step_map {f : UInt8 → UInt8} (hf : Keeps f) (ro : Bool) (st : List Bs) (e : Bs) : cleanStep ro (st.map (List.map f)) (e.map f) = (cleanStep ro st e).map (List.map f) := by
  rcases step_cases ro st e with ⟨h | h, h'⟩ | ⟨h0, h1, h2, h⟩ | ⟨rfl, hh⟩
  · rw [h', h]; exact step_nil _ _
  · rw [h', (map_dot hf e).2 h]; exact step_dot _ _
  · rw [h]; exact step_elem _ _ _ (by simpa using h0) (fun e' => h1 ((map_dot hf e).1 e')) (fun e' => h2 ((map_dd hf e).1 e'))
  · rw [(map_dd hf [46, 46]).2 rfl]
    rcases hh with ⟨rfl, hr, h⟩ | ⟨rfl, hr, h⟩ | ⟨r, rfl, h⟩ | ⟨x, r, rfl, hx, h⟩
    · rw [h, hr]; rfl
    · rw [h, hr]; simp [(map_dd hf [46, 46]).2 rfl, cleanStep]
    · rw [h, List.map_cons, (map_dd hf [46, 46]).2 rfl, step_dd_dd]; simp [(hf.2 46).2 rfl]
    · rw [h, List.map_cons]; exact step_dd_name _ _ _ (fun e' => hx ((map_dd hf x).1 e'))
theorem fold_map {f : UInt8 → UInt8} (hf : Keeps f) (ro : Bool) : ∀ (E st : List Bs), fold ro (st.map (List.map f)) (E.map (List.map f)) = (fold ro st E).map (List.map f)
  | [], _ => rfl
  | e :: E, st => by rw [List.map_cons, fold_cons, fold_cons, step_map hf, fold_map hf]
theorem isAbs_map {f : UInt8 → UInt8} (hf : Keeps f) (l : Bs) : isAbs (l.map f) = isAbs l := by
  cases l with
  | nil => rfl
  | cons c t => rw [List.map_cons, isAbs_cons, isAbs_cons, Bool.eq_iff_iff]; simp [hf.1 c]
theorem inter_map {f : UInt8 → UInt8} (hf : Keeps f) : ∀ Y : List Bs, ([47] : Bs).intercalate (Y.map (List.map f)) = (([47] : Bs).intercalate Y).map f
  | [] => by simp [List.intercalate]
  | [y] => by rw [List.map_cons, List.map_nil, J_one, J_one]
  | y :: z :: Y => by
    have ih := inter_map hf (z :: Y)
    rw [List.map_cons] at ih
    rw [List.map_cons, List.map_cons, J_cons, J_cons, ih, List.map_append, List.map_cons, (hf.1 47).2 rfl]
theorem clean_map {f : UInt8 → UInt8} (hf : Keeps f) (l : Bs) : clean (l.map f) = (clean l).map f := by
  have hs : stk (l.map f) = (stk l).map (List.map f) := by
    unfold stk
    rw [isAbs_map hf, els_map hf]
    exact fold_map hf (isAbs l) (els l) []
  rw [clean_eq, clean_eq, isAbs_map hf, hs]
  generalize stk l = st
  unfold rnd
  cases isAbs l with
  | true => rw [if_pos rfl, if_pos rfl, ← List.map_reverse, inter_map hf, List.map_cons, (hf.1 47).2 rfl]
  | false =>
    simp only [Bool.false_eq_true, if_false]
    by_cases h : st = []
    · subst h; simp [(hf.2 46).2 rfl]
    · rw [if_neg (by simpa using h), if_neg h, ← List.map_reverse, inter_map hf]
theorem ends_map {f : UInt8 → UInt8} (hf : Keeps f) {a : Bs} (ha : Ends a) : Ends (a.map f) := by
  rcases ha with rfl | ⟨d, rfl⟩
  · exact .inl rfl
  · exact .inr ⟨d.map f, by simp [(hf.1 47).2 rfl]⟩
theorem split_map {f : UInt8 → UInt8} (hf : Keeps f) (l : Bs) : split (l.map f) = ((split l).1.map f, (split l).2.map f) := by
  have := split_mk (ends_map hf (split_dir l)) (map_no47 hf (split_file l))
  rwa [← List.map_append, split_append] at this
theorem dir_map {f : UInt8 → UInt8} (hf : Keeps f) (l : Bs) : dir (l.map f) = (dir l).map f := by
  unfold dir; rw [split_map hf, clean_map hf]
theorem slashes_map {f : UInt8 → UInt8} (hf : Keeps f) (k : Nat) : (slashes k).map f = slashes k := by
  simp [slashes, (hf.1 47).2 rfl]
theorem base_map {f : UInt8 → UInt8} (hf : Keeps f) (l : Bs) : base (l.map f) = (base l).map f := by
  rcases base_cases l with ⟨k, rfl⟩ | ⟨a, g, k, rfl, ha, hg, h47⟩
  · rw [slashes_map hf]
    cases k with
    | zero => show [46] = List.map f [46]; simp [(hf.2 46).2 rfl]
    | succ k => rw [base_slashes]; simp [(hf.1 47).2 rfl]
  · rw [List.map_append, List.map_append, slashes_map hf, base_mk k (ends_map hf ha) (by simpa using hg) (map_no47 hf h47), base_mk k ha hg h47]
theorem ext_map {f : UInt8 → UInt8} (hf : Keeps f) (l : Bs) : ext (l.map f) = (ext l).map f := by
  have no46 : ∀ {e : Bs}, 46 ∉ e → 46 ∉ e.map f := by
    intro e h hm
    obtain ⟨c, hc, hc'⟩ := List.mem_map.1 hm
    rw [(hf.2 c).1 hc'] at hc
    exact h hc
  have hs := split_append l
  rcases ext_cases l with ⟨h, h'⟩ | ⟨n, e, h, h46, h47, h'⟩
  · rw [h']
    have := ext_none (ends_map hf (split_dir l)) (map_no47 hf (split_file l)) (no46 h)
    rwa [← List.map_append, hs] at this
  · rw [h']
    have hn : 47 ∉ n := fun hm => split_file l (by rw [h]; simp [hm])
    have := ext_mk (ends_map hf (split_dir l)) (map_no47 hf hn) (map_no47 hf h47) (no46 h46)
    rw [show n.map f ++ 46 :: e.map f = (split l).2.map f by rw [h]; simp [(hf.2 46).2 rfl], ← List.map_append, hs] at this
    rw [this]; simp [(hf.2 46).2 rfl]

end Go.Proofs.YtgigodblbiiahaaDoor.Wm
