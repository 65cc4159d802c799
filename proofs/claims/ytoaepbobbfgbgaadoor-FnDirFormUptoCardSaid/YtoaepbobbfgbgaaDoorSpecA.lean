/-
  The contract of the reference's Split.
-/
import Derived.Test.YtoaepbobbfgbgaaDoorImpl
import Derived.Test.YtoaepbobbfgbgaaDoorPlain2
import Derived.RegionTactic
import Derived.Deep.QuietTactic
import Derived.BigQuiet
import Derived.Lib.IndexLaws
namespace Go.Proofs.YtoaepbobbfgbgaaDoor.Wm
open Go Go.RowKit

theorem index_none {l : List UInt8} (h : 47 ∉ l) : Lib.indexByte l 47 = -1 := by
  induction l with
  | nil => rfl
  | cons c t ih =>
    have h1 : (c == 47) = false := by
      simp only [beq_eq_false_iff_ne]; intro e; exact h (by rw [e]; simp)
    have h2 := ih (fun e => h (by simp [e]))
    rw [Lib.indexByte, h1, h2]; rfl
theorem index_at {a b : List UInt8} (h : 47 ∉ a) : Lib.indexByte (a ++ 47 :: b) 47 = (a.length : Int) := by
  induction a with
  | nil => rfl
  | cons c t ih =>
    have h1 : (c == 47) = false := by
      simp only [beq_eq_false_iff_ne]; intro e; exact h (by rw [e]; simp)
    have h2 := ih (fun e => h (by simp [e]))
    have h3 : (((t.length : Int)) == -1) = false := beq_eq_false_iff_ne.2 (by omega)
    rw [List.cons_append, Lib.indexByte, h1, h2, h3]
    simp
theorem first_at {l : List UInt8} (h : 47 ∈ l) : ∃ a b, l = a ++ 47 :: b ∧ 47 ∉ a := by
  induction l with
  | nil => cases h
  | cons c t ih =>
    by_cases hc : c = 47
    · exact ⟨[], t, by rw [hc]; rfl, by simp⟩
    · have ht : 47 ∈ t := by
        rcases List.mem_cons.1 h with e | e
        · exact absurd e.symm hc
        · exact e
      obtain ⟨a, b, e, ha⟩ := ih ht
      exact ⟨c :: a, b, by rw [e]; rfl, fun e' => by
        rcases List.mem_cons.1 e' with e' | e'
        · exact hc e'.symm
        · exact ha e'⟩
theorem index_some {l : List UInt8} (h : 47 ∈ l) : ∃ n : Nat, Lib.indexByte l 47 = (n : Int) := by
  obtain ⟨a, b, rfl, ha⟩ := first_at h
  exact ⟨_, index_at ha⟩

theorem indexByte_val (s : ByteArray) (w : World) (v : Int) (h : Lib.indexByte (bs s) 47 = v) :
    Calls Tryd.prog 16 #[.string s, .int .u8 47] w fun e w' => e = .returned (.int .i64 v) ∧ w' = w := by
  subst h
  exact Tryd.strings_IndexByte s 47 w

theorem split_at_end (l : List UInt8) : (Lib.Pa.split l).1 = l.take (Lib.Pa.split l).1.length ∧ (Lib.Pa.split l).2 = l.drop (Lib.Pa.split l).1.length := by
  have h := split_append l
  constructor
  · conv => rhs; arg 2; rw [← h]
    rw [List.take_left]
  · conv => rhs; arg 2; rw [← h]
    rw [List.drop_left]
theorem split_le (l : List UInt8) : (Lib.Pa.split l).1.length ≤ l.length := by
  have h := congrArg List.length (split_append l)
  rw [List.length_append] at h; omega
/-- Before its end, the first part has a slash behind it. -/
theorem split_before (l : List UInt8) (k : Nat) (h : k < (Lib.Pa.split l).1.length) : 47 ∈ l.drop k := by
  have h1 := split_append l
  rcases split_dir l with h2 | ⟨d, h2⟩
  · rw [h2] at h; simp at h
  · rw [← h1, h2, List.append_assoc, List.singleton_append]
    rw [h2, List.length_append, List.length_singleton] at h
    rw [List.drop_append_of_le_length (by omega)]
    simp

set_option maxHeartbeats 1000000 in
theorem spec_Split (s : ByteArray) (w : World) (hs : s.size ≤ 140737488351232) :
    Calls Tryd.prog 7 #[.string s] w (StrsAre (Lib.Pa.split (bs s)).1 (Lib.Pa.split (bs s)).2 w) := by
  obtain ⟨n, hn⟩ : ∃ n, (Lib.Pa.split (bs s)).1.length = n := ⟨_, rfl⟩
  have hns : n ≤ s.size := by rw [← hn, size_bs]; exact split_le _
  have HN := Lib.hid hn
  clear hn
  go_enter Tryd.func7, Tryd.ntmps7
  go_wp2
  go_loop [4] (fun i => ∃ k : Nat, k ≤ n ∧ i = .int .i64 k) (fun i => s.size + 1 - (intOf i).toNat)
  case atStart => exact ⟨0, Nat.zero_le _, rfl⟩
  case round =>
    obtain ⟨k, hk, rfl⟩ := hrel
    by_cases hlt : k < n
    · obtain ⟨m, hm⟩ : ∃ m : Nat, Lib.indexByte (bs (s.extract k s.size)) 47 = (m : Int) := by
        rw [Lib.Pa.extract_from, bs_mk]
        exact index_some (split_before _ _ (by rw [HN.out]; exact hlt))
      have HM := Lib.hid hm
      clear hm
      by_cases h0 : k = 0
      · subst h0
        have HM0 : Hid (Lib.indexByte (bs s) 47 = (m : Int)) := by have := HM.out; rwa [show s.extract 0 s.size = s by simp] at this
        go_wp2_with fail
        refine (indexByte_val _ _ _ HM0.out).mono ?_
        rintro e w' ⟨rfl, rfl⟩
        go_wp2
        go_round
        case rel => exact ⟨1, by omega, by go_num⟩
        case measure => simp [intOf]
      · obtain ⟨j, rfl⟩ : ∃ j, k = j + 1 := ⟨k - 1, by omega⟩
        have hj : j < s.size := by omega
        obtain ⟨b, hb⟩ : ∃ b, (((s[j]'hj).toNat : Int) == 47) = b := ⟨_, rfl⟩
        have z : (((j + 1 : Nat) : Int) == 0) = false := beq_eq_false_iff_ne.2 (by omega)
        cases b with
        | true =>
          go_wp2_with fail
          refine (indexByte_val _ _ _ HM.out).mono ?_
          rintro e w' ⟨rfl, rfl⟩
          go_wp2
          go_round
          case rel => exact ⟨j + 1 + 1, by omega, by go_num⟩
          case measure => simp [intOf]; omega
        | false =>
          go_wp2
          go_round
          case rel => exact ⟨j + 1 + 1, by omega, by go_num⟩
          case measure => simp [intOf]; omega
    · obtain rfl : k = n := by omega
      have HM : Hid (Lib.indexByte (bs (s.extract k s.size)) 47 = -1) := by
        show _ = _
        rw [Lib.Pa.extract_from, bs_mk]
        exact index_none (by have := split_file (bs s); rw [(split_at_end (bs s)).2, HN.out] at this; exact this)
      have HD : Hid (bs (s.extract 0 k) = (Lib.Pa.split (bs s)).1) := by
        show _ = _
        rw [Lib.Pa.extract_upto, bs_mk, (split_at_end (bs s)).1, HN.out]
      have HF : Hid (bs (s.extract k s.size) = (Lib.Pa.split (bs s)).2) := by
        show _ = _
        rw [Lib.Pa.extract_from, bs_mk, (split_at_end (bs s)).2, HN.out]
      by_cases h0 : k = 0
      · subst h0
        have HM0 : Hid (Lib.indexByte (bs s) 47 = -1) := by have := HM.out; rwa [show s.extract 0 s.size = s by simp] at this
        have HF0 : Hid (bs s = (Lib.Pa.split (bs s)).2) := by have := HF.out; rwa [show s.extract 0 s.size = s by simp] at this
        have HD0 : Hid ((Lib.Pa.split (bs s)).1 = []) := List.eq_nil_of_length_eq_zero HN.out
        go_wp2_with fail
        refine (indexByte_val _ _ _ HM0.out).mono ?_
        rintro e w' ⟨rfl, rfl⟩
        go_wp2
        go_quiet (fail)
        go_wp2
        go_ret2
        exact ⟨_, _, rfl, by rw [HD0.out]; rfl, HF0.out, below_drewN _ (Below.refl _ _)⟩
      · obtain ⟨j, rfl⟩ : ∃ j, k = j + 1 := ⟨k - 1, by omega⟩
        have hj : j < s.size := by omega
        have z : (((j + 1 : Nat) : Int) == 0) = false := beq_eq_false_iff_ne.2 (by omega)
        have hb : (((s[j]'hj).toNat : Int) == 47) = true := by
          have h1 := split_append (bs s)
          rcases split_dir (bs s) with h2 | ⟨d, h2⟩
          · have := HN.out; rw [h2] at this; simp at this
          · have h3 := HN.out
            rw [h2, List.length_append, List.length_singleton] at h3
            have h4 := Lib.Pa.at_eq s j hj
            have h5 : (bs s)[j]? = some 47 := by
              rw [← h1, h2, List.append_assoc, List.singleton_append, List.getElem?_append_right (by omega), show j - d.length = 0 by omega]; rfl
            have h6 : s[j] = 47 := Option.some.inj (h4.symm.trans h5)
            rw [h6]; rfl
        go_wp2_with fail
        refine (indexByte_val _ _ _ HM.out).mono ?_
        rintro e w' ⟨rfl, rfl⟩
        go_wp2
        go_quiet (fail)
        go_wp2
        go_ret2
        exact ⟨_, _, rfl, HD.out, HF.out, below_drewN _ (Below.refl _ _)⟩

end Go.Proofs.YtoaepbobbfgbgaaDoor.Wm
