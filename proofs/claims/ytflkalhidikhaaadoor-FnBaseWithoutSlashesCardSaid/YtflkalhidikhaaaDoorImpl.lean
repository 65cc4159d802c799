/-
  The contracts of the thin package's functions, over the library's laid contracts: each hands back what the plain function says, and turns nothing that was there.
-/
import Derived.Test.YtflkalhidikhaaaDoorBase
import Derived.Test.YtflkalhidikhaaaDoorShelf
import Derived.Lib.CleanFns
import Derived.Lib.JoinSame2
import Derived.Lib.PathFns2
import Derived.Lib.Repeat
namespace Go.Proofs.YtflkalhidikhaaaDoor.Wm
open Go Go.RowKit Go.Lib

set_option maxHeartbeats 400000 in
theorem impl_Base (s : ByteArray) (w : World) (hs : s.size ≤ 9223372036854775807) :
    Calls Tryd.prog 4 #[.string s] w (StrIs (Pa.base (bs s)) w) := by
  go_enter Tryd.func4, Tryd.ntmps4
  go_wp2_with fail
  refine (Tryd.path_Base s _ hs).mono ?_
  rintro e w1 ⟨rfl, rfl⟩
  go_wp2
  go_ret
  exact ⟨_, rfl, rfl, Below.refl _ _⟩

/-! Functions of package strings, at the slash. -/

theorem hasPrefix_slash (s : ByteArray) (w : World) (b : Bool) (h : Pa.isAbs (bs s) = b) :
    Calls Tryd.prog 9 #[.string s, .string ⟨#[47]⟩] w fun e w' => e = .returned (.bool b) ∧ w = w' := by
  refine (Tryd.strings_HasPrefix s ⟨#[47]⟩ w).mono ?_
  rintro e w1 ⟨rfl, rfl⟩
  exact ⟨by rw [← h, ← Pa.isAbs_eq], rfl⟩

theorem repeat_slashes (n : Nat) : Lib.repeatL [47] n = List.replicate n 47 := by
  induction n with
  | zero => rfl
  | succ n ih => rw [Lib.repeatL, ih, List.replicate_succ]; rfl
theorem repeat_slash (n : Nat) (w : World) (hn : n ≤ 1000) :
    Calls Tryd.prog 5 #[.string ⟨#[47]⟩, .int .i64 n] w (StrIs (List.replicate n 47) w) := by
  refine (Tryd.strings_Repeat ⟨#[47]⟩ n w (by omega) (by show 1 * n ≤ _; omega)).mono ?_
  rintro e w1 ⟨rfl, hb⟩
  exact ⟨_, rfl, by rw [bs_mk]; exact repeat_slashes n, hb⟩

end Go.Proofs.YtflkalhidikhaaaDoor.Wm
