/-
  The contracts of the reference's Base and Ext.
-/
import Derived.Test.YtoaepbobbfgbgaaDoorSpecB
namespace Go.Proofs.YtoaepbobbfgbgaaDoor.Wm
open Go Go.RowKit

theorem wt_sum (X : List (List UInt8)) : wt X = X.flatten.length + X.length := by
  induction X with
  | nil => rfl
  | cons x r ih => rw [wt_cons, ih, List.flatten_cons, List.length_append, List.length_cons]; omega
theorem els_sum {xs : List ByteArray} {l : List UInt8} (h : xs.map bs = Lib.Pa.els l) : sumLen xs + xs.length = l.length + 1 := by
  obtain ⟨x, r, hx⟩ := Lib.Pa.els_ne l
  have h1 := wt_inter (Lib.Pa.els l) (by rw [hx]; simp)
  have h2 := wt_sum (Lib.Pa.els l)
  rw [inter_els] at h1
  rw [← h, flatten_len, List.length_map] at h2
  rw [← h] at h1
  omega
theorem body_le (l : List UInt8) : (body l).length ≤ l.length := by
  unfold body
  split
  · rw [List.length_tail]; omega
  · exact Nat.le_refl _
theorem els_body (l : List UInt8) : Lib.Pa.els l = Lib.Pa.els (body l) ∨ Lib.Pa.els l = [] :: Lib.Pa.els (body l) := by
  unfold body
  cases h : Lib.Pa.isAbs l with
  | false => left; rfl
  | true =>
    obtain ⟨t, rfl⟩ := (isAbs_iff l).1 h
    right
    rw [if_pos rfl, Lib.Pa.els_slash]; rfl
theorem els_slashes (k : Nat) : Lib.Pa.els (slashes k) = List.replicate (k + 1) [] := by
  induction k with
  | zero => rfl
  | succ k ih =>
    unfold slashes at ih ⊢
    rw [List.replicate_succ, Lib.Pa.els_slash, ih, ← List.replicate_succ]
theorem els_file_slashes {f : List UInt8} (hf : 47 ∉ f) : ∀ k, Lib.Pa.els (f ++ slashes k) = f :: List.replicate k []
  | 0 => by unfold slashes; rw [List.replicate_zero, List.append_nil, els_one hf]; rfl
  | k + 1 => by
    have h := els_slashes k
    unfold slashes at h ⊢
    rw [List.replicate_succ, Lib.Pa.els_app, els_one hf, h]; rfl
/-- The last element that is not empty. -/
def lastFull (X : List (List UInt8)) : Option (List UInt8) := X.reverse.find? (fun e => !e.isEmpty)
theorem lastFull_snoc (X : List (List UInt8)) (x : List UInt8) : lastFull (X ++ [x]) = if x = [] then lastFull X else some x := by
  unfold lastFull
  rw [List.reverse_append, List.reverse_singleton, List.singleton_append, List.find?_cons]
  cases x <;> simp
theorem lastFull_nils (X : List (List UInt8)) : ∀ k, lastFull (X ++ List.replicate k []) = lastFull X
  | 0 => by simp
  | k + 1 => by rw [List.replicate_succ', ← List.append_assoc, lastFull_snoc, if_pos rfl, lastFull_nils X k]
theorem lastFull_cons (X : List (List UInt8)) : lastFull ([] :: X) = lastFull X := by
  unfold lastFull
  rw [List.reverse_cons, List.find?_append]
  simp
theorem lastFull_body (l : List UInt8) : lastFull (Lib.Pa.els (body l)) = lastFull (Lib.Pa.els l) := by
  rcases els_body l with h | h <;> rw [h]
  rw [lastFull_cons]
theorem base_els (l : List UInt8) (hl : l ≠ []) : Lib.Pa.base l = (lastFull (Lib.Pa.els (body l))).getD [47] := by
  rw [lastFull_body]
  rcases base_cases l with ⟨k, rfl⟩ | ⟨a, f, k, rfl, ha, hf, h47⟩
  · cases k with
    | zero => exact absurd rfl hl
    | succ k =>
      have := lastFull_nils [] (k + 1 + 1)
      rw [List.nil_append] at this
      rw [base_slashes, els_slashes, this]; rfl
  · rw [base_mk k ha hf h47]
    have h1 : lastFull (f :: List.replicate k []) = some f := by
      have := lastFull_nils [f] k
      rw [List.singleton_append] at this
      rw [this, show [f] = [] ++ [f] from rfl, lastFull_snoc, if_neg hf]
    rcases ha with rfl | ⟨d, rfl⟩
    · rw [List.nil_append, els_file_slashes h47, h1]; rfl
    · rw [List.append_assoc, List.append_assoc, List.singleton_append, Lib.Pa.els_app, els_file_slashes h47]
      have := lastFull_nils (Lib.Pa.els d ++ [f]) k
      rw [List.append_assoc, List.singleton_append] at this
      rw [this, lastFull_snoc, if_neg hf]; rfl
theorem last_body (l : List UInt8) : ∃ A, Lib.Pa.els (body l) = A ++ [(Lib.Pa.split l).2] := by
  have h : ∃ A, Lib.Pa.els l = A ++ [(Lib.Pa.split l).2] := by
    rcases els_split l with ⟨_, h⟩ | ⟨d, _, h, _⟩
    · exact ⟨[], h⟩
    · exact ⟨_, h⟩
  obtain ⟨A, hA⟩ := h
  rcases els_body l with h | h
  · exact ⟨A, h ▸ hA⟩
  · obtain ⟨x, r, hx⟩ := Lib.Pa.els_ne (body l)
    rw [hx] at h ⊢
    rw [hA] at h
    cases A with
    | nil => simp at h
    | cons y A =>
      rw [List.cons_append, List.cons.injEq] at h
      exact ⟨A, h.2.symm⟩


/-- What Ext's loop has found up to k. -/
def DotAt (L : List UInt8) (k : Nat) (q : List UInt8) : Prop := (46 ∉ L.take k ∧ q = []) ∨ ∃ a b, L = a ++ 46 :: b ∧ q = 46 :: b ∧ a.length < k ∧ 46 ∉ b.take (k - a.length - 1)
theorem dotAt_end {l : List UInt8} {q : List UInt8} (h : DotAt (Lib.Pa.split l).2 (Lib.Pa.split l).2.length q) : q = Lib.Pa.ext l := by
  have hf := split_file l
  have happ := split_append l
  rcases h with ⟨h, rfl⟩ | ⟨a, b, hL, rfl, ha, hb⟩
  · rw [List.take_length] at h
    have := ext_none (split_dir l) hf h
    rw [happ] at this; exact this.symm
  · rw [hL, List.length_append, List.length_cons, show a.length + (b.length + 1) - a.length - 1 = b.length by omega, List.take_length] at hb
    rw [hL] at hf
    have := ext_mk (a := (Lib.Pa.split l).1) (n := a) (e := b) (split_dir l) (fun e => hf (by simp [e])) (fun e => hf (by simp [e])) hb
    rw [← hL, happ] at this; exact this.symm
theorem dotAt_hit {L : List UInt8} {k : Nat} (hk : k < L.length) (h : L[k] = 46) : DotAt L (k + 1) (L.drop k) := by
  refine .inr ⟨L.take k, L.drop (k + 1), ?_, ?_, ?_, ?_⟩
  · conv => lhs; rw [← List.take_append_drop k L, List.drop_eq_getElem_cons hk, h]
  · rw [List.drop_eq_getElem_cons hk, h]
  · rw [List.length_take]; omega
  · rw [List.length_take, Nat.min_eq_left (by omega), show k + 1 - k - 1 = 0 by omega]; simp
theorem dotAt_miss {L : List UInt8} {k : Nat} (hk : k < L.length) (h : L[k] ≠ 46) {q : List UInt8} (hd : DotAt L k q) : DotAt L (k + 1) q := by
  rcases hd with ⟨h1, rfl⟩ | ⟨a, b, hL, rfl, ha, hb⟩
  · refine .inl ⟨?_, rfl⟩
    rw [List.take_succ_eq_append_getElem hk]
    intro e
    rcases List.mem_append.1 e with e | e
    · exact h1 e
    · rw [List.mem_singleton] at e; exact h e.symm
  · refine .inr ⟨a, b, hL, rfl, by omega, ?_⟩
    have hbl : k - a.length - 1 < b.length := by
      rw [hL, List.length_append, List.length_cons] at hk; omega
    rw [show k + 1 - a.length - 1 = (k - a.length - 1) + 1 by omega, List.take_succ_eq_append_getElem hbl]
    intro e
    rcases List.mem_append.1 e with e | e
    · exact hb e
    · rw [List.mem_singleton] at e
      apply h
      have h1 : L[k]? = b[k - a.length - 1]? := by
        rw [hL, List.getElem?_append_right (by omega), show k - a.length = (k - a.length - 1) + 1 by omega, List.getElem?_cons_succ]; simp
      rw [List.getElem?_eq_getElem hk, List.getElem?_eq_getElem hbl] at h1
      rw [Option.some.inj h1, ← e]


end Go.Proofs.YtoaepbobbfgbgaaDoor.Wm
