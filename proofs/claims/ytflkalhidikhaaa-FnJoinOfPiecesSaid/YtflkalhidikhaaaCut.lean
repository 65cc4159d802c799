/-
  The contract of the laws' helper 'cut': where it says yes, the path is the first string, a slash, the second string.
-/
import Derived.Test.YtflkalhidikhaaaImpl
import Derived.Test.YtflkalhidikhaaaPlain2
import Derived.RegionTactic
import Derived.Deep.QuietTactic
import Derived.BigQuiet
namespace Go.Proofs.Ytflkalhidikhaaa.Wm
open Go Go.RowKit

/-- Three results: two strings that are the path without one slash, or 'no'. -/
def CutIs (l : List UInt8) (w : World) (e : Ending) (w' : World) : Prop :=
  ∃ (a b : ByteArray) (ok : Bool), e = .returned (.tuple #[.string a, .string b, .bool ok]) ∧ (ok = true → l = bs a ++ 47 :: bs b) ∧ Below w.heap.size w w'

theorem cut_at (s : ByteArray) (k : Nat) (h : k < s.size) (hc : (((s[k]'h).toNat : Int) != 47) = false) : bs s = bs (s.extract 0 k) ++ 47 :: bs (s.extract (k + 1) s.size) := by
  rw [Lib.Pa.bne47] at hc
  have e47 : s[k] = 47 := by simpa using hc
  have hat := Lib.Pa.at_eq s k h
  rw [e47] at hat
  rw [Lib.Pa.extract_from, Lib.Pa.extract_upto]
  show bs s = (bs s).take k ++ 47 :: (bs s).drop (k + 1)
  have hk : k < (bs s).length := by rw [← size_bs]; exact h
  have h2 : (bs s).drop k = 47 :: (bs s).drop (k + 1) := by
    rw [List.drop_eq_getElem_cons hk]
    rw [List.getElem?_eq_getElem hk] at hat
    rw [Option.some.inj hat]
  rw [← h2, List.take_append_drop]

set_option maxHeartbeats 1000000 in
theorem cut_any (s : ByteArray) (at' : Int) (w : World) (hs : s.size ≤ 140737488351232) :
    Calls Try.prog 25 #[.string s, .int .i64 at'] w (CutIs (bs s) w) := by
  obtain ⟨n, hn⟩ : ∃ n : Nat, Lib.countByte (bs s) 47 = n := ⟨_, rfl⟩
  have HN := Lib.hid hn
  clear hn
  by_cases h0 : n = 0
  · subst h0
    go_enter Try.func25, Try.ntmps25
    go_wp2_with fail
    refine (Try.strings_Count_one s 47 _).mono ?_
    rintro e w1 ⟨rfl, rfl⟩
    rw [HN.out]
    go_wp2
    go_ret3
    exact ⟨_, _, false, rfl, by simp, Below.refl _ _⟩
  · have hpos : 1 ≤ (n : Int) := by omega
    have hne : ((n : Int) == 0) = false := beq_eq_false_iff_ne.2 (by omega)
    go_enter Try.func25, Try.ntmps25
    go_wp2_with fail
    refine (Try.strings_Count_one s 47 _).mono ?_
    rintro e w1 ⟨rfl, hw⟩
    obtain rfl : w = w1 := hw.symm
    rw [HN.out]
    go_wp2
    go_loop [8, 23] (fun kv i => ∃ (k : Nat) (q : Int), k ≤ s.size ∧ i = .int .i64 k ∧ kv = .int .i64 q) (fun _ i => s.size - (intOf i).toNat)
    case atStart => exact ⟨0, _, Nat.zero_le _, rfl, rfl⟩
    case round =>
      obtain ⟨k, q, hk, rfl, rfl⟩ := hrel
      by_cases hlt : k < s.size
      · obtain ⟨b, hb⟩ : ∃ b, (((s[k]'hlt).toNat : Int) != 47) = b := ⟨_, rfl⟩
        cases b with
        | true =>
          go_wp2
          go_round
          case rel => exact ⟨k + 1, q, by omega, by go_num, rfl⟩
          case measure => simp [intOf]; omega
        | false =>
          have HC := Lib.hid (cut_at s k hlt hb)
          obtain ⟨z, hz⟩ : ∃ z, ((q : Int) == 0) = z := ⟨_, rfl⟩
          cases z with
          | true =>
            have c1 : (k : Int) + 1 ≤ (s.size : Int) := by omega
            go_wp2
            go_quiet (fail)
            go_wp2
            go_ret3
            exact ⟨_, _, true, rfl, fun _ => HC.out, below_drewN _ (Below.refl _ _)⟩
          | false =>
            go_wp2
            go_round
            case rel => exact ⟨k + 1, _, by omega, by go_num, rfl⟩
            case measure => simp [intOf]; omega
      · go_wp2
        go_ret3
        exact ⟨_, _, false, rfl, by simp, Below.refl _ _⟩
end Go.Proofs.Ytflkalhidikhaaa.Wm
