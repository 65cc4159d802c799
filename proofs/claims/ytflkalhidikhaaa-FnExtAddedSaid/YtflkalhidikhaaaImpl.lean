/-
  The contracts of the thin package's functions, over the library's laid contracts: each hands back what the plain function says, and turns nothing that was there.
-/
import Derived.Test.YtflkalhidikhaaaBase
import Derived.Test.YtflkalhidikhaaaShelf
import Derived.Lib.CleanFns
import Derived.Lib.JoinSame2
import Derived.Lib.PathFns2
import Derived.Lib.IndexAny
import Derived.Lib.LastIndexByte
import Derived.Lib.Repeat
namespace Go.Proofs.Ytflkalhidikhaaa.Wm
open Go Go.RowKit Go.Lib

set_option maxHeartbeats 400000 in
theorem impl_IsAbs (s : ByteArray) (w : World) :
    Calls Try.prog 18 #[.string s] w fun e w' => e = .returned (.bool (Pa.isAbs (bs s))) ∧ w = w' := by
  go_enter Try.func18, Try.ntmps18
  go_wp2_with fail
  refine (Try.path_IsAbs s _).mono ?_
  rintro e w1 ⟨rfl, rfl⟩
  go_wp2
  go_ret
  exact ⟨rfl, rfl⟩

theorem impl_IsAbs_val (s : ByteArray) (w : World) (b : Bool) (h : Pa.isAbs (bs s) = b) :
    Calls Try.prog 18 #[.string s] w fun e w' => e = .returned (.bool b) ∧ w = w' := by
  rw [← h]; exact impl_IsAbs s w

set_option maxHeartbeats 400000 in
theorem impl_Split (s : ByteArray) (w : World) (hs : s.size ≤ 9223372036854775807) :
    Calls Try.prog 14 #[.string s] w (StrsAre (Pa.split (bs s)).1 (Pa.split (bs s)).2 w) := by
  go_enter Try.func14, Try.ntmps14
  go_wp2_with fail
  refine (Try.path_Split s _ hs).mono ?_
  rintro e w1 ⟨rfl, n, rfl⟩
  go_wp2
  go_ret2
  exact ⟨_, _, rfl, rfl, rfl, below_drewN n (Below.refl _ _)⟩

set_option maxHeartbeats 400000 in
theorem impl_Base (s : ByteArray) (w : World) (hs : s.size ≤ 9223372036854775807) :
    Calls Try.prog 17 #[.string s] w (StrIs (Pa.base (bs s)) w) := by
  go_enter Try.func17, Try.ntmps17
  go_wp2_with fail
  refine (Try.path_Base s _ hs).mono ?_
  rintro e w1 ⟨rfl, rfl⟩
  go_wp2
  go_ret
  exact ⟨_, rfl, rfl, Below.refl _ _⟩

set_option maxHeartbeats 400000 in
theorem impl_Ext (s : ByteArray) (w : World) (hs : s.size ≤ 9223372036854775807) :
    Calls Try.prog 21 #[.string s] w (StrIs (Pa.ext (bs s)) w) := by
  go_enter Try.func21, Try.ntmps21
  go_wp2_with fail
  refine (Try.path_Ext s _ hs).mono ?_
  rintro e w1 ⟨rfl, rfl⟩
  go_wp2
  go_ret
  exact ⟨_, rfl, rfl, Below.refl _ _⟩

set_option maxHeartbeats 400000 in
theorem impl_Clean (s : ByteArray) (w : World) (hs : s.size ≤ 281474976710656) :
    Calls Try.prog 22 #[.string s] w (StrIs (Pa.clean (bs s)) w) := by
  go_enter Try.func22, Try.ntmps22
  go_wp2_with fail
  refine (Try.path_Clean s _ hs).mono ?_
  rintro e w1 ⟨rfl, hb⟩
  go_wp2
  go_ret
  exact ⟨_, rfl, rfl, hb⟩

set_option maxHeartbeats 400000 in
theorem impl_Dir (s : ByteArray) (w : World) (hs : s.size ≤ 281474976710656) :
    Calls Try.prog 24 #[.string s] w (StrIs (Pa.dir (bs s)) w) := by
  go_enter Try.func24, Try.ntmps24
  go_wp2_with fail
  refine (Try.path_Dir s _ hs).mono ?_
  rintro e w1 ⟨rfl, hb⟩
  go_wp2
  go_ret
  exact ⟨_, rfl, rfl, hb⟩

/-- Join of elements that lie in memory. -/
theorem impl_Join (bk o c : Nat) (xs : List ByteArray) (w : World)
    (hcells : ∀ (j : Nat) x, xs[j]? = some x → w.cell? ⟨bk, o + j, none⟩ = some (.string x)) (hbk : bk < w.heap.size)
    (hlen : Pa.lens (xs.map (·.data.toList)) + xs.length ≤ 281474976710656) :
    Calls Try.prog 27 #[.slice (some ⟨bk, o, none⟩) xs.length c] w (StrIs (Pa.join (xs.map bs)) w) := by
  have H := Lib.hid hcells
  clear hcells
  go_enter Try.func27, Try.ntmps27
  go_wp2_with fail
  refine (Try.path_Join_rules bk o c xs _ H.out hbk hlen).mono ?_
  rintro e w1 ⟨rfl, hb⟩
  go_wp2
  go_ret
  exact ⟨_, rfl, rfl, hb⟩

set_option maxHeartbeats 400000 in
/-- Join of no element. -/
theorem impl_Join_none (a : Option Addr) (c : Nat) (w : World) :
    Calls Try.prog 27 #[.slice a 0 c] w (StrIs [] w) := by
  go_enter Try.func27, Try.ntmps27
  go_wp2_with go_in
  refine wp_loop_rounds 1 ?_; rw [rounds_succ]; go_wp2
  go_ret
  exact ⟨_, rfl, rfl, Below.refl _ _⟩

/-- Join, wherever its elements lie. -/
theorem impl_Join_at (a : Option Addr) (n c : Nat) (xs : List ByteArray) (w : World) (h : StrsAt w a n xs) (hlen : sumLen xs + n ≤ 281474976710656) :
    Calls Try.prog 27 #[.slice a n c] w (StrIs (Pa.join (xs.map bs)) w) := by
  have hn := h.1
  by_cases h0 : 0 < n
  · obtain ⟨b, o, rfl, hb, hc⟩ := h.addr h0
    subst hn
    exact impl_Join b o c xs w hc hb (by rw [lens_bs]; exact hlen)
  · obtain rfl : n = 0 := by omega
    obtain rfl : xs = [] := List.eq_nil_of_length_eq_zero hn
    exact impl_Join_none a c w

/-! Functions of package strings, at the slash. -/

theorem hasPrefix_slash (s : ByteArray) (w : World) (b : Bool) (h : Pa.isAbs (bs s) = b) :
    Calls Try.prog 26 #[.string s, .string ⟨#[47]⟩] w fun e w' => e = .returned (.bool b) ∧ w = w' := by
  refine (Try.strings_HasPrefix s ⟨#[47]⟩ w).mono ?_
  rintro e w1 ⟨rfl, rfl⟩
  exact ⟨by rw [← h, ← Pa.isAbs_eq], rfl⟩

theorem hasSuffix_slash (s : ByteArray) (w : World) (b : Bool) (h : Lib.hasSuffix (bs s) [47] = b) (hs : s.size ≤ 9223372036854775807) :
    Calls Try.prog 15 #[.string s, .string ⟨#[47]⟩] w fun e w' => e = .returned (.bool b) ∧ w = w' := by
  refine (Try.strings_HasSuffix s ⟨#[47]⟩ w hs).mono ?_
  rintro e w1 ⟨rfl, rfl⟩
  exact ⟨by rw [← h], rfl⟩
theorem hasSuffix_val (s x : ByteArray) (w : World) (b : Bool) (h : Lib.hasSuffix (bs s) (bs x) = b) (hs : s.size ≤ 9223372036854775807) :
    Calls Try.prog 15 #[.string s, .string x] w fun e w' => e = .returned (.bool b) ∧ w = w' := by
  refine (Try.strings_HasSuffix s x w hs).mono ?_
  rintro e w1 ⟨rfl, rfl⟩
  exact ⟨by rw [← h], rfl⟩
theorem hasSuffix_no {l : List UInt8} (h : Lib.hasSuffix l [47] = false) (d : List UInt8) : l ≠ d ++ [47] := by
  rintro rfl
  have : Lib.hasSuffix (d ++ [47]) [47] = true := by
    unfold Lib.hasSuffix
    exact List.isSuffixOf_iff_suffix.2 (List.suffix_append d [47])
  rw [this] at h; cases h
theorem hasSuffix_yes {l : List UInt8} (h : Lib.hasSuffix l [47] = true) : ∃ d, l = d ++ [47] := by
  unfold Lib.hasSuffix at h
  obtain ⟨d, hd⟩ := List.isSuffixOf_iff_suffix.1 h
  exact ⟨d, hd.symm⟩

theorem contains_yes (s : ByteArray) (w : World) (h : 47 ∈ bs s) :
    Calls Try.prog 16 #[.string s, .string ⟨#[47]⟩] w fun e w' => e = .returned (.bool true) ∧ w = w' := by
  refine (Try.strings_Contains_one s 47 w).mono ?_
  rintro e w1 ⟨rfl, rfl⟩
  exact ⟨by rw [← Lib.contains_iff_indexByte, List.contains_iff_mem.2 h], rfl⟩
theorem contains_no (s : ByteArray) (w : World) (h : 47 ∉ bs s) :
    Calls Try.prog 16 #[.string s, .string ⟨#[47]⟩] w fun e w' => e = .returned (.bool false) ∧ w = w' := by
  refine (Try.strings_Contains_one s 47 w).mono ?_
  rintro e w1 ⟨rfl, rfl⟩
  have hf : (bs s).contains 47 = false := by
    cases hc : (bs s).contains 47 with
    | false => rfl
    | true => exact absurd (List.contains_iff_mem.1 hc) h
  exact ⟨by rw [← Lib.contains_iff_indexByte, hf], rfl⟩

theorem lastIdx_same (s : ByteArray) (c : UInt8) : ∀ k, k ≤ s.size → Lib.lastIdx s (c.toNat : Int) k = Pa.lastIdx (bs s) c k
  | 0, _ => rfl
  | k + 1, hk => by
    have ih := lastIdx_same s c k (by omega)
    have hlt : k < s.size := by omega
    have hat := Pa.at_eq s k hlt
    have hd : s.data[k]! = s[k] := by
      have hk' : k < s.data.size := hlt
      rw [getElem!_pos s.data k hk']; rfl
    unfold Lib.lastIdx Pa.lastIdx
    rw [hat, hd, ih]
    by_cases h : s[k] = c
    · rw [if_pos (by rw [h]), if_pos (by rw [h])]
    · rw [if_neg (fun e => h (UInt8.toNat_inj.1 (by exact_mod_cast e))), if_neg (fun e => h (Option.some.inj e))]
theorem lastIndex_byte (s : ByteArray) (c : UInt8) (w : World) (hs : s.size < 4611686018427387904) :
    Calls Try.prog 23 #[.string s, .string ⟨#[c]⟩] w fun e w' => e = .returned (.int .i64 (Pa.lastIndexByte (bs s) c)) ∧ w = w' := by
  refine (Try.strings_LastIndex_one s ⟨#[c]⟩ rfl hs w).mono ?_
  rintro e w1 ⟨rfl, rfl⟩
  refine ⟨?_, rfl⟩
  have h := lastIdx_same s c s.size (Nat.le_refl _)
  unfold Pa.lastIndexByte
  rw [← size_bs, ← h]
  rfl

theorem repeat_slashes (n : Nat) : Lib.repeatL [47] n = List.replicate n 47 := by
  induction n with
  | zero => rfl
  | succ n ih => rw [Lib.repeatL, ih, List.replicate_succ]; rfl
theorem repeat_slash (n : Nat) (w : World) (hn : n ≤ 1000) :
    Calls Try.prog 19 #[.string ⟨#[47]⟩, .int .i64 n] w (StrIs (List.replicate n 47) w) := by
  refine (Try.strings_Repeat ⟨#[47]⟩ n w (by omega) (by show 1 * n ≤ _; omega)).mono ?_
  rintro e w1 ⟨rfl, hb⟩
  exact ⟨_, rfl, by rw [bs_mk]; exact repeat_slashes n, hb⟩

end Go.Proofs.Ytflkalhidikhaaa.Wm
