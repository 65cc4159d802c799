/-
  Plain laws on the reference's rewriting: each rule keeps what the elements come to; where no rule can be applied, the elements are a stack of Clean's. No program, no walk.
-/
import Derived.Test.YtoaepbobbfgbgaaDoorPlain3
namespace Go.Proofs.YtoaepbobbfgbgaaDoor.Wm
open Go Go.Lib Go.Lib.Pa

/-- The elements from f to before t may be taken away. -/
def Rule (ro : Bool) (L : List Bs) (f t : Nat) : Prop := f < t ∧ t ≤ L.length ∧ fold ro [] (L.take f ++ L.drop t) = fold ro [] L

theorem cut_one {L : List Bs} {j : Nat} {e : Bs} (h : L[j]? = some e) : j < L.length ∧ L = L.take j ++ e :: L.drop (j + 1) := by
  obtain ⟨hl, he⟩ := List.getElem?_eq_some_iff.1 h
  refine ⟨hl, ?_⟩
  conv => lhs; rw [← List.take_append_drop j L, List.drop_eq_getElem_cons hl, he]
theorem rule_skip {ro : Bool} {L : List Bs} {j : Nat} {e : Bs} (h : L[j]? = some e) (he : e = [] ∨ e = [46]) : Rule ro L j (j + 1) := by
  obtain ⟨hl, hL⟩ := cut_one h
  refine ⟨by omega, by omega, ?_⟩
  conv => rhs; rw [hL]
  rw [fold_append, fold_append, fold_cons]
  rcases he with rfl | rfl
  · rw [step_nil]
  · rw [step_dot]
theorem rule_dd {ro : Bool} {L : List Bs} {j : Nat} {x : Bs} (h0 : L[j]? = some x) (h1 : L[j + 1]? = some [46, 46]) (n0 : x ≠ []) (n1 : x ≠ [46]) (n2 : x ≠ [46, 46]) : Rule ro L j (j + 2) := by
  obtain ⟨hl, hL⟩ := cut_one h0
  obtain ⟨hl1, _⟩ := cut_one h1
  have h2 : L.drop (j + 1) = [46, 46] :: L.drop (j + 2) := by
    rw [List.drop_eq_getElem_cons hl1, (List.getElem?_eq_some_iff.1 h1).2]
  refine ⟨by omega, by omega, ?_⟩
  conv => rhs; rw [hL, h2]
  rw [fold_append, fold_append, fold_name_dd _ _ _ _ n0 n1 n2]
theorem rule_root {L : List Bs} (h : L[0]? = some [46, 46]) : Rule true L 0 1 := by
  obtain ⟨hl, hL⟩ := cut_one h
  refine ⟨by omega, by omega, ?_⟩
  conv => rhs; rw [hL]
  rw [fold_append, fold_append]
  rfl

/-- What is known where nothing was found: in the first loop up to k, in the second, in the third, at the end. -/
def C1 (L : List Bs) (k : Nat) : Prop := ∀ j, j < k → L[j]? ≠ some []
def C2 (L : List Bs) (k : Nat) : Prop := C1 L L.length ∧ ∀ j, j < k → L[j]? ≠ some [46]
def C3 (L : List Bs) (k : Nat) : Prop := C2 L L.length ∧ ∀ j, j + 1 < k → L[j + 1]? = some [46, 46] → L[j]? = some [46, 46]
def C4 (ro : Bool) (L : List Bs) : Prop := C3 L L.length ∧ (ro = true → L[0]? ≠ some [46, 46])

/-- The places found so far: each may be applied; if there is none, this is known. -/
def Inv (ro : Bool) (L : List Bs) (ps : List (Nat × Nat)) (C : Prop) : Prop := (∀ p, p ∈ ps → Rule ro L p.1 p.2) ∧ (ps = [] → C)
theorem Inv.add {ro : Bool} {L : List Bs} {ps : List (Nat × Nat)} {C : Prop} (h : Inv ro L ps C) {f t : Nat} (hr : Rule ro L f t) (C' : Prop) : Inv ro L (ps ++ [(f, t)]) C' := by
  refine ⟨fun p hp => ?_, fun e => by simp at e⟩
  rcases List.mem_append.1 hp with hp | hp
  · exact h.1 p hp
  · rw [List.mem_singleton] at hp; subst hp; exact hr
theorem Inv.imp {ro : Bool} {L : List Bs} {ps : List (Nat × Nat)} {C C' : Prop} (h : Inv ro L ps C) (hc : C → C') : Inv ro L ps C' := ⟨h.1, fun e => hc (h.2 e)⟩
theorem c1_zero (L : List Bs) : C1 L 0 := fun j hj => absurd hj (Nat.not_lt_zero j)
theorem c1_next {L : List Bs} {k : Nat} {e : Bs} (h : L[k]? = some e) (he : e ≠ []) (hc : C1 L k) : C1 L (k + 1) := by
  intro j hj
  by_cases e' : j = k
  · subst e'; rw [h]; intro e2; exact he (Option.some.inj e2)
  · exact hc j (by omega)
theorem c2_zero {L : List Bs} (h : C1 L L.length) : C2 L 0 := ⟨h, fun j hj => absurd hj (Nat.not_lt_zero j)⟩
theorem c2_next {L : List Bs} {k : Nat} {e : Bs} (h : L[k]? = some e) (he : e ≠ [46]) (hc : C2 L k) : C2 L (k + 1) := by
  refine ⟨hc.1, fun j hj => ?_⟩
  by_cases e' : j = k
  · subst e'; rw [h]; intro e2; exact he (Option.some.inj e2)
  · exact hc.2 j (by omega)
theorem c3_zero {L : List Bs} (h : C2 L L.length) : C3 L 0 := ⟨h, fun _ hj => absurd hj (Nat.not_lt_zero _)⟩
theorem c3_name {L : List Bs} {k : Nat} {e : Bs} (h : L[k]? = some e) (he : e ≠ [46, 46]) (hc : C3 L k) : C3 L (k + 1) := by
  refine ⟨hc.1, fun j hj h1 => ?_⟩
  by_cases e' : j + 1 = k
  · rw [e', h] at h1; exact absurd (Option.some.inj h1) he
  · exact hc.2 j (by omega) h1
theorem c3_first {L : List Bs} (hc : C3 L 0) : C3 L (0 + 1) := ⟨hc.1, fun _ hj => absurd hj (by omega)⟩
theorem c3_prev {L : List Bs} {j : Nat} {x : Bs} (h : L[j]? = some x) (hx : x = [46, 46] ∨ x = [46] ∨ x = []) (hc : C3 L (j + 1)) : C3 L (j + 1 + 1) := by
  refine ⟨hc.1, fun i hi h1 => ?_⟩
  by_cases e' : i = j
  · subst e'
    have hl := (List.getElem?_eq_some_iff.1 h).1
    rcases hx with rfl | rfl | rfl
    · exact h
    · exact absurd h (hc.1.2 i hl)
    · exact absurd h (hc.1.1 i hl)
  · exact hc.2 i (by omega) h1
theorem c4_all {ro : Bool} {L : List Bs} (hc : C4 ro L) : ∀ k : Nat, L[k]? = some [46, 46] → ro = false ∧ ∀ j : Nat, j ≤ k → L[j]? = some [46, 46]
  | 0, h => by
    refine ⟨?_, fun j hj => by rw [show j = 0 by omega]; exact h⟩
    cases ro with
    | false => rfl
    | true => exact absurd h (hc.2 rfl)
  | k + 1, h => by
    have h1 := hc.1.2 k (List.getElem?_eq_some_iff.1 h).1 h
    obtain ⟨h2, h3⟩ := c4_all hc k h1
    refine ⟨h2, fun j hj => ?_⟩
    by_cases e : j = k + 1
    · rw [e]; exact h
    · exact h3 j (by omega)
theorem c4_good {ro : Bool} {L : List Bs} (hc : C4 ro L) (h47 : ∀ e, e ∈ L → 47 ∉ e) : ∀ k, k ≤ L.length → Good ro (L.take k).reverse
  | 0, _ => trivial
  | k + 1, hk => by
    have hl : k < L.length := by omega
    have hat := List.getElem?_eq_getElem hl
    rw [List.take_succ_eq_append_getElem hl, List.reverse_append, List.reverse_singleton, List.singleton_append]
    refine ⟨c4_good hc h47 k (by omega), h47 _ (List.getElem_mem hl), fun e => hc.1.1.1 k hl (by rw [hat, e]), fun e => hc.1.1.2 k hl (by rw [hat, e]), fun e => ?_⟩
    obtain ⟨h1, h2⟩ := c4_all hc k (by rw [hat, e])
    refine ⟨h1, fun y hy => ?_⟩
    rw [List.mem_reverse] at hy
    obtain ⟨j, hj, rfl⟩ := List.getElem_of_mem hy
    have hj' : j < k := by rw [List.length_take] at hj; omega
    have := h2 j (by omega)
    rw [List.getElem_take]
    exact (List.getElem?_eq_some_iff.1 this).2
theorem c4_fold {ro : Bool} {L : List Bs} (hc : C4 ro L) (h47 : ∀ e, e ∈ L → 47 ∉ e) : fold ro [] L = L.reverse ∧ Good ro L.reverse := by
  have g := c4_good hc h47 L.length (Nat.le_refl _)
  rw [List.take_length] at g
  have h := fold_rev g
  rw [List.reverse_reverse] at h
  exact ⟨h, g⟩

end Go.Proofs.YtoaepbobbfgbgaaDoor.Wm
