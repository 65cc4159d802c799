/-
  Plain laws for the statements that call strings.Trim, strings.TrimLeft, strings.Contains and strings.Split: over lists of bytes alone; no walk.
-/
import Derived.Test.YtgigodblbiiahaaDoorPlain2
import Derived.Test.YtgigodblbiiahaaDoorPlain3
import Derived.Lib.TrimByte
import Derived.Lib.SplitLaws
import Derived.Lib.IndexMore
namespace Go.Proofs.YtgigodblbiiahaaDoor.Wm
open Go Go.Lib Go.Lib.Pa

/-! ### Trim -/
theorem dropWhile_ne {l : Bs} {c : UInt8} (hm : c ∈ l) (hc : c ≠ 47) : l.dropWhile (· == 47) ≠ [] := by
  induction l with
  | nil => cases hm
  | cons b l ih =>
    rw [List.dropWhile_cons]
    split
    · rename_i hb
      rcases List.mem_cons.1 hm with e | e
      · subst e; exact absurd (beq_iff_eq.1 hb) hc
      · exact ih e
    · simp
theorem trimB_slashes (k : Nat) : Lib.trimB (slashes k) 47 = [] := by
  unfold Lib.trimB Lib.trimRightB Lib.trimLeftB slashes
  rw [List.reverse_replicate]
  have h : (List.replicate k (47 : UInt8)).dropWhile (· == 47) = [] := by
    induction k with
    | zero => rfl
    | succ k _ => simp
  rw [h]; rfl
theorem trimB_nil {l : Bs} (h : Lib.trimB l 47 = []) : ∃ k, l = slashes k := by
  rcases base_cases l with h1 | ⟨a, f, k, rfl, _, hf, h47⟩
  · exact h1
  · exfalso
    have e : Lib.trimRightB (a ++ f ++ slashes k) 47 = a ++ f := by
      show trimSlashes (a ++ f ++ slashes k) = a ++ f
      rw [trim_slashes, trim_file hf h47]
    unfold Lib.trimB at h
    rw [e] at h
    obtain ⟨c, hc⟩ := List.exists_mem_of_ne_nil f hf
    exact dropWhile_ne (c := c) (List.mem_append_right a hc) (fun e => h47 (e ▸ hc)) h

/-! ### TrimLeft, Dir -/
theorem left_slashes : ∀ l : Bs, ∃ k, l = slashes k ++ Lib.trimLeftB l 47
  | [] => ⟨0, rfl⟩
  | b :: l => by
    by_cases hb : b = 47
    · subst hb
      obtain ⟨k, hk⟩ := left_slashes l
      refine ⟨k + 1, ?_⟩
      have e : Lib.trimLeftB (47 :: l) 47 = Lib.trimLeftB l 47 := by simp [Lib.trimLeftB]
      rw [e]
      show _ = List.replicate (k + 1) 47 ++ _
      rw [List.replicate_succ, List.cons_append]
      exact congrArg (47 :: ·) hk
    · refine ⟨0, ?_⟩
      have e : Lib.trimLeftB (b :: l) 47 = b :: l := by simp [Lib.trimLeftB, hb]
      rw [e]; rfl
theorem clean_all_slashes : ∀ k, clean (slashes (k + 1)) = [47]
  | 0 => by show clean [47] = [47]; rw [clean_eq]; rfl
  | k + 1 => by
    have h := clean_slashes [] (slashes k)
    have e1 : slashes (k + 1 + 1) = [] ++ 47 :: 47 :: slashes k := rfl
    have e2 : slashes (k + 1) = [] ++ 47 :: slashes k := rfl
    rw [e1, h, ← e2]; exact clean_all_slashes k
theorem ends_slashes (k : Nat) : Ends (slashes k) := by
  cases k with
  | zero => exact .inl rfl
  | succ k => exact .inr ⟨slashes k, by have := slashes_add k 1; exact this.symm⟩
/-- Slashes, and then other bytes alone. -/
theorem dir_slashes {l : Bs} (h1 : Lib.trimLeftB l 47 ≠ l) (h2 : 47 ∉ Lib.trimLeftB l 47) : dir l = [47] := by
  obtain ⟨k, hk⟩ := left_slashes l
  cases k with
  | zero => exact absurd hk.symm h1
  | succ k =>
    generalize Lib.trimLeftB l 47 = r at *
    subst hk
    show clean (Pa.split (slashes (k + 1) ++ r)).1 = [47]
    rw [split_mk (ends_slashes _) h2]
    exact clean_all_slashes k

/-- What a result of Clean ends with. -/
theorem rnd_end {ro : Bool} {x : Bs} {r : List Bs} (g : Good ro (x :: r)) (d : Bs) : rnd ro (x :: r) ≠ d ++ [47] := by
  intro e
  have h1 := split_rnd g
  rw [e] at h1
  have h2 := split_mk (a := d ++ [47]) (b := []) (.inr ⟨d, rfl⟩) (by simp)
  rw [List.append_nil] at h2
  rw [h2] at h1
  exact g.2.2.1 (congrArg Prod.snd h1).symm
theorem clean_end {l d : Bs} (h : clean l = d ++ [47]) : clean l = [47] := by
  rw [clean_eq] at h ⊢
  cases hs : stk l with
  | nil =>
    rw [hs] at h
    cases hr : isAbs l with
    | true => exact rnd_nil_abs
    | false =>
      rw [hr, rnd_nil_rel] at h
      exfalso
      have hl := congrArg List.length h
      have : d = [] := by rw [List.length_append] at hl; exact List.eq_nil_of_length_eq_zero (by simpa using hl)
      subst this
      simp at h
  | cons x r =>
    exfalso
    have g := good_stk l
    rw [hs] at h g
    exact rnd_end g d h

/-! ### The form of a result of Clean -/
theorem clean_cases (l : Bs) : clean l = [47] ∨ clean l = [46] ∨ ∃ ro st, Good ro st ∧ st ≠ [] ∧ clean l = rnd ro st := by
  rw [clean_eq]
  have g := good_stk l
  cases hs : stk l with
  | nil =>
    cases isAbs l with
    | true => exact .inl rnd_nil_abs
    | false => exact .inr (.inl rnd_nil_rel)
  | cons x r => rw [hs] at g; exact .inr (.inr ⟨_, _, g, by simp, rfl⟩)
theorem rnd_no_pair {ro : Bool} {st : List Bs} (g : Good ro st) (hne : st ≠ []) (a b : Bs) : rnd ro st ≠ a ++ 47 :: 47 :: b := by
  intro e
  have h1 := els_rnd g
  rw [e, els_app, els_slash] at h1
  obtain ⟨x, r, hx⟩ := els_ne a
  rw [hx] at h1
  have key : ([] : Bs) ∈ st.reverse := by
    cases ro with
    | true =>
      rw [if_pos rfl, if_neg hne] at h1
      rw [List.cons_append] at h1
      have h2 := (List.cons.inj h1).2
      rw [← h2]; simp
    | false =>
      rw [if_neg (by simp), if_neg hne] at h1
      rw [← h1]; simp
  exact g.ne [] (List.mem_reverse.1 key) rfl
theorem contains_pair {l : Bs} (h : ∀ a b, l ≠ a ++ 47 :: 47 :: b) : Lib.contains l [47, 47] = false := by
  rcases Lib.index_spec l [47, 47] with ⟨h1, _⟩ | ⟨i, h1, h2, h3, _⟩
  · unfold Lib.contains; rw [h1]; rfl
  · exfalso
    unfold Lib.occAt at h3
    obtain ⟨b, hb⟩ := List.isPrefixOf_iff_prefix.1 h3
    refine h (l.take i) b ?_
    have := List.take_append_drop i l
    rw [← hb] at this
    exact this.symm
theorem rnd_not_suffix {ro : Bool} {st : List Bs} (g : Good ro st) (hne : st ≠ []) : Lib.hasSuffix (rnd ro st) [47] = false := by
  cases h : Lib.hasSuffix (rnd ro st) [47] with
  | false => rfl
  | true =>
    exfalso
    unfold Lib.hasSuffix at h
    obtain ⟨d, hd⟩ := List.isSuffixOf_iff_suffix.1 h
    cases st with
    | nil => exact hne rfl
    | cons x r => exact rnd_end g d hd.symm
theorem rnd_ne_slash {ro : Bool} {st : List Bs} (g : Good ro st) (hne : st ≠ []) : rnd ro st ≠ [47] := by
  cases st with
  | nil => exact absurd rfl hne
  | cons x r => exact rnd_end g []
theorem rnd_ne_dot {ro : Bool} {st : List Bs} (g : Good ro st) (hne : st ≠ []) : rnd ro st ≠ [46] := by
  intro e
  have h1 := els_rnd g
  rw [e, els_one (by decide)] at h1
  have key : [46] ∈ st.reverse ∨ (ro = true ∧ [[46]] = [] :: st.reverse) := by
    cases ro with
    | true => rw [if_pos rfl, if_neg hne] at h1; exact .inr ⟨rfl, h1⟩
    | false => rw [if_neg (by simp), if_neg hne] at h1; exact .inl (by rw [← h1]; simp)
  rcases key with k | ⟨_, k⟩
  · exact g.ndot [46] (List.mem_reverse.1 k) rfl
  · have := (List.cons.inj k).1; cases this

/-- Behind the first slash. -/
def unroot (l : Bs) : Bs := if isAbs l then l.tail else l
theorem els_unroot {ro : Bool} {st : List Bs} (g : Good ro st) (hne : st ≠ []) : els (unroot (rnd ro st)) = st.reverse := by
  have e : unroot (rnd ro st) = ([47] : Bs).intercalate st.reverse := by
    unfold unroot
    rw [isAbs_rnd g]
    cases ro with
    | true => simp [rnd]
    | false => simp [rnd, hne]
  rw [e]
  exact els_inter (by simpa using hne) (fun x hx => g.no47 x (List.mem_reverse.1 hx))

/-! ### Split at the slash -/
theorem index_one_none {l : Bs} (h : 47 ∉ l) : Lib.index l [47] = -1 := by
  refine Lib.index_none fun j _ => ?_
  cases ho : Lib.occAt l [47] j with
  | false => rfl
  | true => exact absurd (List.mem_of_getElem? (Lib.occAt_head rfl ho)) h
theorem index_one_at {a : Bs} (b : Bs) (h : 47 ∉ a) : Lib.index (a ++ 47 :: b) [47] = (a.length : Int) := by
  refine Lib.index_first (by simp) ?_ fun j hj => ?_
  · unfold Lib.occAt
    rw [List.drop_left]; rfl
  · cases ho : Lib.occAt (a ++ 47 :: b) [47] j with
    | false => rfl
    | true =>
      have h1 := Lib.occAt_head rfl ho
      rw [List.getElem?_append_left hj] at h1
      exact absurd (List.mem_of_getElem? h1) h
theorem first_slash (l : Bs) : 47 ∉ l ∨ ∃ a b, l = a ++ 47 :: b ∧ 47 ∉ a := by
  induction l with
  | nil => exact .inl (by simp)
  | cons c l ih =>
    by_cases hc : c = 47
    · subst hc; exact .inr ⟨[], l, rfl, by simp⟩
    · rcases ih with h | ⟨a, b, rfl, h⟩
      · exact .inl (fun e => (List.mem_cons.1 e).elim (fun e => hc e.symm) h)
      · exact .inr ⟨c :: a, b, rfl, fun e => (List.mem_cons.1 e).elim (fun e => hc e.symm) h⟩
theorem splitK_els : ∀ (n : Nat) (l : Bs), l.length ≤ n → Lib.splitK [47] 0 (l.count 47) l = els l
  | n, l, hn => by
    rcases first_slash l with h | ⟨a, b, rfl, h⟩
    · rw [List.count_eq_zero.2 h, els_one h]; rfl
    · have hc : (a ++ 47 :: b).count 47 = b.count 47 + 1 := by
        rw [List.count_append, List.count_eq_zero.2 h, List.count_cons_self]; omega
      cases n with
      | zero => simp at hn
      | succ n =>
        have ih := splitK_els n b (by simp at hn; omega)
        rw [hc, Lib.splitK, index_one_at b h, if_neg (fun e => by have := beq_iff_eq.1 e; omega)]
        have e1 : ((a.length : Int)).toNat + 0 = a.length := by omega
        have e2 : ((a.length : Int)).toNat + ([47] : Bs).length = a.length + 1 := by simp
        rw [e1, e2, List.take_left, List.drop_append, List.drop_of_length_le (by omega)]
        have e3 : a.length + 1 - a.length = 1 := by omega
        rw [e3, List.nil_append, List.drop_one, List.tail_cons, ih, els_app, els_one h]
        rfl
/-- strings.Split at the slash: the elements. -/
theorem splitB_els (s : ByteArray) : (Lib.splitB ⟨#[47]⟩ 0 (Lib.countB s ⟨#[47]⟩) s).map (·.data.toList) = els s.data.toList := by
  rw [Lib.splitB_data]
  have hc : Lib.countB s ⟨#[47]⟩ = s.data.toList.count 47 := Lib.count_one 47 s.data.toList
  rw [hc]
  exact splitK_els _ _ (Nat.le_refl _)

/-! ### .. at the beginning alone -/
/-- A name was met among the first k elements, or the path is rooted. -/
def named (ro : Bool) (L : List Bs) (k : Nat) : Bool := ro || (L.take k).any (fun e => decide (e ≠ [46, 46]))
theorem named_zero (ro : Bool) (L : List Bs) : named ro L 0 = ro := by unfold named; simp
theorem named_succ {ro : Bool} {L : List Bs} {k : Nat} {e : Bs} (h : L[k]? = some e) : named ro L (k + 1) = (named ro L k || decide (e ≠ [46, 46])) := by
  unfold named
  rw [List.take_add_one, h, List.any_append, Bool.or_assoc]
  congr 2
  simp
theorem good_reverse {ro : Bool} {st : List Bs} (g : Good ro st) {k : Nat} {e : Bs} (h : st.reverse[k]? = some e) : e ≠ [] ∧ e ≠ [46] ∧ (e = [46, 46] → named ro st.reverse k = false) := by
  have hm : e ∈ st := List.mem_reverse.1 (List.mem_of_getElem? h)
  refine ⟨g.ne e hm, g.ndot e hm, ?_⟩
  induction st generalizing k with
  | nil => simp at h
  | cons x r ih =>
    intro he
    rw [List.reverse_cons] at h ⊢
    by_cases hk : k < r.reverse.length
    · rw [List.getElem?_append_left hk] at h
      have h1 := ih g.1 h (List.mem_reverse.1 (List.mem_of_getElem? h)) he
      unfold named at h1 ⊢
      rw [List.take_append_of_le_length (by omega)]; exact h1
    · have hk2 : k = r.reverse.length := by
        have := (List.getElem?_eq_some_iff.1 h).1
        simp at this hk ⊢; omega
      subst hk2
      rw [List.getElem?_append_right (Nat.le_refl _)] at h
      simp at h
      subst h
      obtain ⟨h1, h2⟩ := g.2.2.2.2 he
      unfold named
      rw [h1, List.take_append_of_le_length (Nat.le_refl _), List.take_length]
      simp only [Bool.false_or]
      rw [List.any_eq_false]
      intro y hy
      have := h2 y (List.mem_reverse.1 hy)
      simp [this]
end Go.Proofs.YtgigodblbiiahaaDoor.Wm
