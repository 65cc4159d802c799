/-
  The contracts of the thin package's functions, over the library's laid contracts: each hands back what the plain function says, and turns nothing that was there.
-/
import Derived.Test.YtgigodblbiiahaaDoorBase
import Derived.Test.YtgigodblbiiahaaDoorShelf
import Derived.Lib.CleanFns
import Derived.Lib.JoinSame2
import Derived.Lib.PathFns2
import Derived.Lib.IndexAny
namespace Go.Proofs.YtgigodblbiiahaaDoor.Wm
open Go Go.RowKit Go.Lib

set_option maxHeartbeats 400000 in
theorem impl_Clean (s : ByteArray) (w : World) (hs : s.size ≤ 281474976710656) :
    Calls Tryd.prog 4 #[.string s] w (StrIs (Pa.clean (bs s)) w) := by
  go_enter Tryd.func4, Tryd.ntmps4
  go_wp2_with fail
  refine (Tryd.path_Clean s _ hs).mono ?_
  rintro e w1 ⟨rfl, hb⟩
  go_wp2
  go_ret
  exact ⟨_, rfl, rfl, hb⟩

/-! Functions of package strings, at the slash. -/

theorem hasPrefix_slash (s : ByteArray) (w : World) (b : Bool) (h : Pa.isAbs (bs s) = b) :
    Calls Tryd.prog 7 #[.string s, .string ⟨#[47]⟩] w fun e w' => e = .returned (.bool b) ∧ w = w' := by
  refine (Tryd.strings_HasPrefix s ⟨#[47]⟩ w).mono ?_
  rintro e w1 ⟨rfl, rfl⟩
  exact ⟨by rw [← h, ← Pa.isAbs_eq], rfl⟩

theorem hasSuffix_slash (s : ByteArray) (w : World) (b : Bool) (h : Lib.hasSuffix (bs s) [47] = b) (hs : s.size ≤ 9223372036854775807) :
    Calls Tryd.prog 6 #[.string s, .string ⟨#[47]⟩] w fun e w' => e = .returned (.bool b) ∧ w = w' := by
  refine (Tryd.strings_HasSuffix s ⟨#[47]⟩ w hs).mono ?_
  rintro e w1 ⟨rfl, rfl⟩
  exact ⟨by rw [← h], rfl⟩
theorem hasSuffix_val (s x : ByteArray) (w : World) (b : Bool) (h : Lib.hasSuffix (bs s) (bs x) = b) (hs : s.size ≤ 9223372036854775807) :
    Calls Tryd.prog 6 #[.string s, .string x] w fun e w' => e = .returned (.bool b) ∧ w = w' := by
  refine (Tryd.strings_HasSuffix s x w hs).mono ?_
  rintro e w1 ⟨rfl, rfl⟩
  exact ⟨by rw [← h], rfl⟩
theorem hasSuffix_no {l : List UInt8} (h : Lib.hasSuffix l [47] = false) (d : List UInt8) : l ≠ d ++ [47] := by
  rintro rfl
  have : Lib.hasSuffix (d ++ [47]) [47] = true := by
    unfold Lib.hasSuffix
    exact List.isSuffixOf_iff_suffix.2 (List.suffix_append d [47])
  rw [this] at h; cases h
theorem hasSuffix_yes {l : List UInt8} (h : Lib.hasSuffix l [47] = true) : ∃ d, l = d ++ [47] := by
  unfold Lib.hasSuffix at h
  obtain ⟨d, hd⟩ := List.isSuffixOf_iff_suffix.1 h
  exact ⟨d, hd.symm⟩

theorem contains_yes (s : ByteArray) (w : World) (h : 47 ∈ bs s) :
    Calls Tryd.prog 5 #[.string s, .string ⟨#[47]⟩] w fun e w' => e = .returned (.bool true) ∧ w = w' := by
  refine (Tryd.strings_Contains_one s 47 w).mono ?_
  rintro e w1 ⟨rfl, rfl⟩
  exact ⟨by rw [← Lib.contains_iff_indexByte, List.contains_iff_mem.2 h], rfl⟩
theorem contains_no (s : ByteArray) (w : World) (h : 47 ∉ bs s) :
    Calls Tryd.prog 5 #[.string s, .string ⟨#[47]⟩] w fun e w' => e = .returned (.bool false) ∧ w = w' := by
  refine (Tryd.strings_Contains_one s 47 w).mono ?_
  rintro e w1 ⟨rfl, rfl⟩
  have hf : (bs s).contains 47 = false := by
    cases hc : (bs s).contains 47 with
    | false => rfl
    | true => exact absurd (List.contains_iff_mem.1 hc) h
  exact ⟨by rw [← Lib.contains_iff_indexByte, hf], rfl⟩

end Go.Proofs.YtgigodblbiiahaaDoor.Wm
