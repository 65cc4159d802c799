/-
  The contracts of the thin package's functions, over the library's laid contracts: each hands back what the plain function says, and turns nothing that was there.
-/
import Derived.Test.YtoaepbobbfgbgaaBase
import Derived.Test.YtoaepbobbfgbgaaShelf
import Derived.Lib.CleanFns
import Derived.Lib.JoinSame2
import Derived.Lib.PathFns2
namespace Go.Proofs.Ytoaepbobbfgbgaa.Wm
open Go Go.RowKit Go.Lib

set_option maxHeartbeats 400000 in
theorem impl_Split (s : ByteArray) (w : World) (hs : s.size ≤ 9223372036854775807) :
    Calls Try.prog 14 #[.string s] w (StrsAre (Pa.split (bs s)).1 (Pa.split (bs s)).2 w) := by
  go_enter Try.func14, Try.ntmps14
  go_wp2_with fail
  refine (Try.path_Split s _ hs).mono ?_
  rintro e w1 ⟨rfl, n, rfl⟩
  go_wp2
  go_ret2
  exact ⟨_, _, rfl, rfl, rfl, below_drewN n (Below.refl _ _)⟩

set_option maxHeartbeats 400000 in
theorem impl_Base (s : ByteArray) (w : World) (hs : s.size ≤ 9223372036854775807) :
    Calls Try.prog 18 #[.string s] w (StrIs (Pa.base (bs s)) w) := by
  go_enter Try.func18, Try.ntmps18
  go_wp2_with fail
  refine (Try.path_Base s _ hs).mono ?_
  rintro e w1 ⟨rfl, rfl⟩
  go_wp2
  go_ret
  exact ⟨_, rfl, rfl, Below.refl _ _⟩

set_option maxHeartbeats 400000 in
theorem impl_Ext (s : ByteArray) (w : World) (hs : s.size ≤ 9223372036854775807) :
    Calls Try.prog 16 #[.string s] w (StrIs (Pa.ext (bs s)) w) := by
  go_enter Try.func16, Try.ntmps16
  go_wp2_with fail
  refine (Try.path_Ext s _ hs).mono ?_
  rintro e w1 ⟨rfl, rfl⟩
  go_wp2
  go_ret
  exact ⟨_, rfl, rfl, Below.refl _ _⟩

set_option maxHeartbeats 400000 in
theorem impl_Clean (s : ByteArray) (w : World) (hs : s.size ≤ 281474976710656) :
    Calls Try.prog 20 #[.string s] w (StrIs (Pa.clean (bs s)) w) := by
  go_enter Try.func20, Try.ntmps20
  go_wp2_with fail
  refine (Try.path_Clean s _ hs).mono ?_
  rintro e w1 ⟨rfl, hb⟩
  go_wp2
  go_ret
  exact ⟨_, rfl, rfl, hb⟩

set_option maxHeartbeats 400000 in
theorem impl_Dir (s : ByteArray) (w : World) (hs : s.size ≤ 281474976710656) :
    Calls Try.prog 24 #[.string s] w (StrIs (Pa.dir (bs s)) w) := by
  go_enter Try.func24, Try.ntmps24
  go_wp2_with fail
  refine (Try.path_Dir s _ hs).mono ?_
  rintro e w1 ⟨rfl, hb⟩
  go_wp2
  go_ret
  exact ⟨_, rfl, rfl, hb⟩

/-- Join of elements that lie in memory. -/
theorem impl_Join (bk o c : Nat) (xs : List ByteArray) (w : World)
    (hcells : ∀ (j : Nat) x, xs[j]? = some x → w.cell? ⟨bk, o + j, none⟩ = some (.string x)) (hbk : bk < w.heap.size)
    (hlen : Pa.lens (xs.map (·.data.toList)) + xs.length ≤ 281474976710656) :
    Calls Try.prog 26 #[.slice (some ⟨bk, o, none⟩) xs.length c] w (StrIs (Pa.join (xs.map bs)) w) := by
  have H := Lib.hid hcells
  clear hcells
  go_enter Try.func26, Try.ntmps26
  go_wp2_with fail
  refine (Try.path_Join_rules bk o c xs _ H.out hbk hlen).mono ?_
  rintro e w1 ⟨rfl, hb⟩
  go_wp2
  go_ret
  exact ⟨_, rfl, rfl, hb⟩

set_option maxHeartbeats 400000 in
/-- Join of no element. -/
theorem impl_Join_none (a : Option Addr) (c : Nat) (w : World) :
    Calls Try.prog 26 #[.slice a 0 c] w (StrIs [] w) := by
  go_enter Try.func26, Try.ntmps26
  go_wp2_with go_in
  refine wp_loop_rounds 1 ?_; rw [rounds_succ]; go_wp2
  go_ret
  exact ⟨_, rfl, rfl, Below.refl _ _⟩

/-- Join, wherever its elements lie. -/
theorem impl_Join_at (a : Option Addr) (n c : Nat) (xs : List ByteArray) (w : World) (h : StrsAt w a n xs) (hlen : sumLen xs + n ≤ 281474976710656) :
    Calls Try.prog 26 #[.slice a n c] w (StrIs (Pa.join (xs.map bs)) w) := by
  have hn := h.1
  by_cases h0 : 0 < n
  · obtain ⟨b, o, rfl, hb, hc⟩ := h.addr h0
    subst hn
    exact impl_Join b o c xs w hc hb (by rw [lens_bs]; exact hlen)
  · obtain rfl : n = 0 := by omega
    obtain rfl : xs = [] := List.eq_nil_of_length_eq_zero hn
    exact impl_Join_none a c w

/-! Functions of package strings, at the slash. -/

theorem hasPrefix_slash (s : ByteArray) (w : World) (b : Bool) (h : Pa.isAbs (bs s) = b) :
    Calls Try.prog 41 #[.string s, .string ⟨#[47]⟩] w fun e w' => e = .returned (.bool b) ∧ w = w' := by
  refine (Try.strings_HasPrefix s ⟨#[47]⟩ w).mono ?_
  rintro e w1 ⟨rfl, rfl⟩
  exact ⟨by rw [← h, ← Pa.isAbs_eq], rfl⟩

end Go.Proofs.Ytoaepbobbfgbgaa.Wm
