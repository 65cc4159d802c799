/-
  What 'range' over a string hands over at a byte beyond ASCII (whatever bytes follow), and what string(r) is: plain laws on the model's own decode and encode. No walk.
-/
import Derived.Test.YtflkalhidikhaaaBase
import Derived.Laws.RangeAny
import Derived.Laws.Runes
import Derived.Lib.DecodeN
import Derived.Lib.IndexAny
namespace Go.Proofs.Ytflkalhidikhaaa.Wm
open Go Go.RowKit Go.Lib

theorem get_bs (s : ByteArray) (j : Nat) (h : j < s.size) : (bs s)[j]? = some (s.get! j) := by
  rw [show s.get! j = s[j]'h from get_at s j h]
  exact Lib.data_getElem? s j h

/-- At a byte beyond ASCII: a rune beyond ASCII that is a code point, and all bytes that it takes are beyond ASCII. -/
theorem decode_wide (s : ByteArray) (i : Nat) (h : i < s.size) (ha : 128 ≤ (s.get! i).toNat) :
    ∃ r k : Nat, Utf8.decode s i = (r, k) ∧ 128 ≤ r ∧ r ≤ 1114111 ∧ (r < 55296 ∨ 57344 ≤ r) ∧ 1 ≤ k ∧ i + k ≤ s.size ∧ ∀ j, i ≤ j → j < i + k → 128 ≤ (s.get! j).toNat := by
  rw [Lib.decode_at]
  have g1 : ∀ r k : Nat, (65533, 1) = (r, k) → 128 ≤ r ∧ r ≤ 1114111 ∧ (r < 55296 ∨ 57344 ≤ r) ∧ 1 ≤ k ∧ i + k ≤ s.size ∧ ∀ j, i ≤ j → j < i + k → 128 ≤ (s.get! j).toNat := by
    rintro r k e
    cases e
    refine ⟨by omega, by omega, by omega, by omega, by omega, fun j h1 h2 => ?_⟩
    obtain rfl : j = i := by omega
    exact ha
  have u0 := (s.get! i).toNat_lt
  have u1 := (s.get! (i + 1)).toNat_lt
  have u2 := (s.get! (i + 2)).toNat_lt
  have u3 := (s.get! (i + 3)).toNat_lt
  unfold Lib.decodeN
  rw [if_neg (by omega)]
  split
  · rename_i hc
    split
    · refine ⟨_, _, rfl, by omega, by omega, by omega, by omega, by omega, fun j h1 h2 => ?_⟩
      obtain rfl | rfl : j = i ∨ j = i + 1 := by omega
      · exact ha
      · omega
    · exact ⟨_, _, rfl, g1 _ _ rfl⟩
  · split
    · rename_i hc
      split
      · rename_i hv
        refine ⟨_, _, rfl, by omega, by omega, by omega, by omega, by omega, fun j h1 h2 => ?_⟩
        obtain rfl | rfl | rfl : j = i ∨ j = i + 1 ∨ j = i + 2 := by omega
        · exact ha
        · omega
        · omega
      · exact ⟨_, _, rfl, g1 _ _ rfl⟩
    · split
      · rename_i hc
        split
        · rename_i hv
          refine ⟨_, _, rfl, by omega, by omega, by omega, by omega, by omega, fun j h1 h2 => ?_⟩
          obtain rfl | rfl | rfl | rfl : j = i ∨ j = i + 1 ∨ j = i + 2 ∨ j = i + 3 := by omega
          · exact ha
          · omega
          · omega
          · omega
        · exact ⟨_, _, rfl, g1 _ _ rfl⟩
      · exact ⟨_, _, rfl, g1 _ _ rfl⟩

theorem valid_of (r : Nat) (h1 : r ≤ 1114111) (h2 : r < 55296 ∨ 57344 ≤ r) : Utf8.valid (r : Int) = true := by
  rw [validRune_eq]
  unfold Go.validRune
  exact decide_eq_true (by omega)

theorem enc_two (r : Nat) (h0 : 128 ≤ r) (h1 : r < 2048) : ∃ a b : UInt8, Utf8.encode (r : Int) = ⟨#[a, b]⟩ ∧ 128 ≤ b.toNat := by
  have hv := valid_of r (by omega) (by omega)
  unfold Utf8.encode
  simp only [hv, if_true]
  rw [if_neg (by omega), if_pos (by omega)]
  refine ⟨_, _, rfl, ?_⟩
  simp
  omega
theorem enc_more (r : Nat) (h0 : 2048 ≤ r) (h1 : r ≤ 1114111) (h2 : r < 55296 ∨ 57344 ≤ r) : ∃ e, Utf8.encode (r : Int) = e ∧ 3 ≤ e.size ∧ e.size ≤ 4 := by
  have hv := valid_of r h1 h2
  refine ⟨_, rfl, ?_⟩
  unfold Utf8.encode
  simp only [hv, if_true]
  rw [if_neg (by omega), if_neg (by omega)]
  split
  · exact ⟨Nat.le_refl 3, (by decide : (3 : Nat) ≤ 4)⟩
  · exact ⟨(by decide : (3 : Nat) ≤ 4), Nat.le_refl 4⟩

/-- None of the bytes that a rune beyond ASCII takes is a dot or a slash. -/
theorem noAny_wide {s : ByteArray} {i k : Nat} (h : Lib.NoAny (bs s) [46, 47] i) (hk : i + k ≤ s.size) (hb : ∀ j, i ≤ j → j < i + k → 128 ≤ (s.get! j).toNat) : Lib.NoAny (bs s) [46, 47] (i + k) := by
  intro j b hj hjb
  by_cases hi : j < i
  · exact h j b hi hjb
  · have h1 := hb j (by omega) hj
    rw [get_bs s j (by omega)] at hjb
    cases hjb
    have n1 : s.get! j ≠ 46 := fun e => by rw [e] at h1; revert h1; decide
    have n2 : s.get! j ≠ 47 := fun e => by rw [e] at h1; revert h1; decide
    simp [n1, n2]

/-- Whether it contains a dot or a slash. -/
theorem containsAny_no {l : List UInt8} (h : Lib.containsAny l [46, 47] = false) : 46 ∉ l ∧ 47 ∉ l := by
  have key : ∀ l : List UInt8, Lib.indexAny l [46, 47] < 0 → 46 ∉ l ∧ 47 ∉ l := by
    intro l
    induction l with
    | nil => intro _; simp
    | cons b l ih =>
      intro hl
      have hge := Lib.indexAny_ge [46, 47] l
      rw [Lib.indexAny] at hl
      by_cases hb : ([46, 47] : List UInt8).contains b = true
      · rw [if_pos hb] at hl; omega
      · rw [if_neg hb] at hl
        have hl' : Lib.indexAny l [46, 47] < 0 := by
          by_cases e : Lib.indexAny l [46, 47] = -1
          · omega
          · rw [if_neg (by simpa using e)] at hl; omega
        obtain ⟨i1, i2⟩ := ih hl'
        simp at hb
        refine ⟨?_, ?_⟩
        · rw [List.mem_cons]; rintro (e | e)
          · exact hb.1 e.symm
          · exact i1 e
        · rw [List.mem_cons]; rintro (e | e)
          · exact hb.2 e.symm
          · exact i2 e
  exact key l (by unfold Lib.containsAny at h; have := of_decide_eq_false h; omega)
end Go.Proofs.Ytflkalhidikhaaa.Wm
