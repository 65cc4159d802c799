/-
  Plain laws on the reference's meaning of a path: so many directories up, then names; it is another way to write down a stack. No program, no walk.
-/
import Derived.Test.YtoaepbobbfgbgaaDoorPlain4
namespace Go.Proofs.YtoaepbobbfgbgaaDoor.Wm
open Go Go.Lib Go.Lib.Pa

/-- The stack st, as directories up and names down. -/
def Means (ro : Bool) (st : List Bs) (up : Nat) (N : List Bs) : Prop := st = N.reverse ++ List.replicate up [46, 46] ∧ (∀ e, e ∈ N → e ≠ [46, 46]) ∧ (ro = true → up = 0)
theorem means_nil (ro : Bool) : Means ro [] 0 [] := ⟨rfl, (fun _ h => by cases h), fun _ => rfl⟩
theorem Means.skip {ro : Bool} {st : List Bs} {up : Nat} {N : List Bs} (h : Means ro st up N) {e : Bs} (he : e = [] ∨ e = [46]) : Means ro (cleanStep ro st e) up N := by
  rcases he with rfl | rfl
  · rw [step_nil]; exact h
  · rw [step_dot]; exact h
theorem Means.name {ro : Bool} {st : List Bs} {up : Nat} {N : List Bs} (h : Means ro st up N) {e : Bs} (h0 : e ≠ []) (h1 : e ≠ [46]) (h2 : e ≠ [46, 46]) : Means ro (cleanStep ro st e) up (N ++ [e]) := by
  refine ⟨?_, fun x hx => ?_, h.2.2⟩
  · rw [step_elem ro st e h0 h1 h2, h.1, List.reverse_append]; rfl
  · rcases List.mem_append.1 hx with hx | hx
    · exact h.2.1 x hx
    · rw [List.mem_singleton] at hx; subst hx; exact h2
theorem Means.pop {ro : Bool} {st : List Bs} {up : Nat} {N : List Bs} {x : Bs} (h : Means ro st up (N ++ [x])) : Means ro (cleanStep ro st [46, 46]) up N := by
  refine ⟨?_, fun e he => h.2.1 e (by simp [he]), h.2.2⟩
  rw [h.1, List.reverse_append, List.reverse_singleton, List.singleton_append, List.cons_append, step_dd_name ro x _ (h.2.1 x (by simp))]
theorem Means.up {st : List Bs} {up : Nat} (h : Means false st up []) : Means false (cleanStep false st [46, 46]) (up + 1) [] := by
  refine ⟨?_, (fun _ he => by cases he), fun e => by cases e⟩
  rw [h.1]
  cases up with
  | zero => rfl
  | succ u =>
    show cleanStep false ([46, 46] :: List.replicate u [46, 46]) [46, 46] = _
    rw [step_dd_dd]; rfl
theorem Means.root {st : List Bs} {up : Nat} (h : Means true st up []) : Means true (cleanStep true st [46, 46]) up [] := by
  have h0 := h.2.2 rfl
  subst h0
  refine ⟨?_, (fun _ he => by cases he), fun _ => rfl⟩
  rw [h.1]; rfl
theorem count_names {N : List Bs} (h : ∀ e, e ∈ N → e ≠ [46, 46]) : N.count [46, 46] = 0 := List.count_eq_zero.2 (fun e => h _ e rfl)
theorem Means.count {ro : Bool} {st : List Bs} {up : Nat} {N : List Bs} (h : Means ro st up N) : st.count [46, 46] = up ∧ st.length = N.length + up := by
  rw [h.1]
  constructor
  · rw [List.count_append, List.count_reverse, count_names h.2.1, List.count_replicate_self]; omega
  · rw [List.length_append, List.length_reverse, List.length_replicate]
/-- A stack has one meaning. -/
theorem Means.one {ro ro' : Bool} {st st' : List Bs} {up up' : Nat} {N N' : List Bs} (h : Means ro st up N) (h' : Means ro' st' up' N') : st = st' ↔ up = up' ∧ N = N' := by
  constructor
  · rintro rfl
    have c1 := h.count
    have c2 := h'.count
    obtain rfl : up = up' := by omega
    refine ⟨rfl, ?_⟩
    have e := h.1.symm.trans h'.1
    have := (List.append_inj e (by rw [List.length_reverse, List.length_reverse]; omega)).1
    rw [← List.reverse_reverse N, this, List.reverse_reverse]
  · rintro ⟨rfl, rfl⟩
    rw [h.1, h'.1]
/-- Two paths with the same meaning are those with the same result of Clean. -/
theorem means_clean {p q : Bs} {up up' : Nat} {N N' : List Bs} (h : Means (isAbs p) (stk p) up N) (h' : Means (isAbs q) (stk q) up' N') : clean p = clean q ↔ isAbs p = isAbs q ∧ up = up' ∧ N = N' := by
  rw [clean_iff, h.one h']

end Go.Proofs.YtoaepbobbfgbgaaDoor.Wm
