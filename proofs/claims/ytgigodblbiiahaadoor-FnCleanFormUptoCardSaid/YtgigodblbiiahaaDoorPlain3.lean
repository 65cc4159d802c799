/-
  Plain laws on slash-separated paths, the third part: elements that make no difference to Clean; the last place of a byte. No program, no walk.
-/
import Derived.Test.YtgigodblbiiahaaDoorPlain2
namespace Go.Proofs.YtgigodblbiiahaaDoor.Wm
open Go.Lib.Pa

theorem isAbs_app47 (a x y : Bs) : isAbs (a ++ 47 :: x) = isAbs (a ++ 47 :: y) := by
  cases a with
  | nil => rfl
  | cons c t => rfl

theorem clean_els {p q : Bs} (h1 : isAbs p = isAbs q) (h2 : ∀ ro, ro = isAbs q → fold ro [] (els p) = fold ro [] (els q)) : clean p = clean q :=
  (clean_iff p q).2 ⟨h1, by unfold stk; rw [h1, h2 _ rfl]⟩

/-- A slash more. -/
theorem clean_slashes (a b : Bs) : clean (a ++ 47 :: 47 :: b) = clean (a ++ 47 :: b) := by
  refine clean_els (isAbs_app47 _ _ _) fun ro _ => ?_
  rw [els_app, els_app, els_slash, fold_append, fold_append, fold_cons, step_nil]

/-- A dot more, between two slashes. -/
theorem clean_dot (a b : Bs) : clean (a ++ 47 :: 46 :: 47 :: b) = clean (a ++ 47 :: b) := by
  refine clean_els (isAbs_app47 _ _ _) fun ro _ => ?_
  have e : els (46 :: 47 :: b) = [46] :: els b := els_app [46] b
  rw [els_app, els_app, e, fold_append, fold_append, fold_cons, step_dot]

/-- A name and two dots more. -/
theorem fold_name_dd (ro : Bool) (s : List Bs) (e : Bs) (E : List Bs) (h0 : e ≠ []) (h1 : e ≠ [46]) (h2 : e ≠ [46, 46]) : fold ro s (e :: [46, 46] :: E) = fold ro s E := by
  rw [fold_cons, fold_cons, step_elem _ _ _ h0 h1 h2, step_dd_name _ _ _ h2]
theorem els_name_dd {e : Bs} (b : Bs) (h : 47 ∉ e) : els (e ++ 47 :: 46 :: 46 :: 47 :: b) = e :: [46, 46] :: els b := by
  have e1 : els (46 :: 46 :: 47 :: b) = [46, 46] :: els b := els_app [46, 46] b
  rw [els_app, els_one h, e1]; rfl
theorem clean_name_dd (a b e : Bs) (h0 : e ≠ []) (h1 : e ≠ [46]) (h2 : e ≠ [46, 46]) (h : 47 ∉ e) : clean (a ++ 47 :: (e ++ 47 :: 46 :: 46 :: 47 :: b)) = clean (a ++ 47 :: b) := by
  refine clean_els (isAbs_app47 _ _ _) fun ro _ => ?_
  rw [els_app a, els_app a, els_name_dd b h, fold_append, fold_append, fold_name_dd _ _ _ _ h0 h1 h2]

/-- At the beginning of a path that is not rooted. -/
theorem clean_dot_first (p : Bs) (h : isAbs p = false) : clean (46 :: 47 :: p) = clean p := by
  refine clean_els (by rw [h]; rfl) fun ro _ => ?_
  have e : els (46 :: 47 :: p) = [46] :: els p := els_app [46] p
  rw [e, fold_cons, step_dot]
theorem clean_name_first (p e : Bs) (hp : isAbs p = false) (h0 : e ≠ []) (h1 : e ≠ [46]) (h2 : e ≠ [46, 46]) (h : 47 ∉ e) : clean (e ++ 47 :: 46 :: 46 :: 47 :: p) = clean p := by
  refine clean_els (by rw [isAbs_append _ h0, isAbs_no47 h, hp]) fun ro _ => ?_
  rw [els_name_dd p h, fold_name_dd _ _ _ _ h0 h1 h2]

/-! The last place of a byte -/

theorem last_at {a b : Bs} {c : UInt8} (h : c ∉ b) : lastIndexByte (a ++ c :: b) c = (a.length : Int) := by
  refine lastIdx_eq_of _ c a.length _ (by simp) (by simp) ?_
  intro j hj _ h'
  rw [List.getElem?_append_right (by omega), List.getElem?_cons, if_neg (by omega)] at h'
  exact h (getElem?_mem h')
theorem last_none {l : Bs} {c : UInt8} (h : c ∉ l) : lastIndexByte l c = -1 := by
  rcases lastIndexByte_spec l c with ⟨h', _⟩ | ⟨i, _, h', _⟩
  · exact h'
  · exact absurd (getElem?_mem h') h

/-- Ext empty: no dot behind the last slash. -/
theorem ext_nil_last {l : Bs} (h : ext l = []) : lastIndexByte l 46 ≤ lastIndexByte l 47 := by
  have hs := split_append l
  have hb := lastIndexByte_bounds l 47
  rcases ext_cases l with ⟨h46, _⟩ | ⟨n, e, _, _, _, h'⟩
  · rcases lastIndexByte_spec l 46 with ⟨h1, _⟩ | ⟨i, h1, h2, _⟩
    · rw [h1]; exact hb.1
    · rcases split_dir l with hd | ⟨d, hd⟩
      · rw [hd, List.nil_append] at hs
        rw [hs] at h46
        exact absurd (getElem?_mem h2) h46
      · have h47 : lastIndexByte l 47 = (d.length : Int) := by
          conv => lhs; rw [← hs, hd, List.append_assoc, List.singleton_append]
          exact last_at (split_file l)
        rw [h1, h47]
        have hi : i < (split l).1.length := by
          by_cases hi : i < (split l).1.length
          · exact hi
          · rw [← hs, List.getElem?_append_right (by omega)] at h2
            exact absurd (getElem?_mem h2) h46
        rw [hd] at hi
        simp at hi
        omega
  · rw [h] at h'; cases h'
theorem ext_first_dot {l : Bs} (h : ext l ≠ []) : lastIndexByte (ext l) 46 = 0 := by
  rcases ext_cases l with ⟨_, h'⟩ | ⟨n, e, _, h46, _, h'⟩
  · exact absurd h' h
  · rw [h']; exact last_at (a := []) h46
theorem ext_no47 (l : Bs) : 47 ∉ ext l := by
  rcases ext_cases l with ⟨_, h'⟩ | ⟨n, e, _, _, h47, h'⟩
  · rw [h']; simp
  · rw [h']; simp [h47]
theorem ext_suffix (l : Bs) : ext l <:+ l := by
  rcases ext_cases l with ⟨_, h'⟩ | ⟨n, e, h, _, _, h'⟩
  · rw [h']; exact List.nil_suffix
  · rw [h']
    refine ⟨(split l).1 ++ n, ?_⟩
    rw [List.append_assoc, ← h, split_append]

end Go.Proofs.YtgigodblbiiahaaDoor.Wm
