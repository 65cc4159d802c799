/-
  PROVED: Dir of Dir and so on ends at the root for an absolute path, and at the dot for another one, after at most one step more than the path has bytes: the law FnDirEnds returns true at every string. Conditions: none beyond the form's own reach.
-/
import Derived.Test.YtnoobjhbedfgfaaImpl
import Derived.Test.YtnoobjhbedfgfaaPlain2
namespace Go.Proofs.Ytnoobjhbedfgfaa.fnDirEnds
open Go Go.ChangeShapes Go.WideShapes Go.ChangeAt Go.RowKit
open Go.ChangeMaps (open_string shut_string)
open Go.Proofs.Ytnoobjhbedfgfaa.Wm (bs)
open Go.Lib

theorem dir_len (l : List UInt8) : (Pa.dir l).length ≤ max l.length 1 := by
  unfold Pa.dir
  have h1 := (Wm.clean_length (Pa.split l).1).2
  have h2 := Pa.split_fst_le l
  omega
theorem dirs_len (l : List UInt8) : ∀ n, (Wm.dirs n l).length ≤ max l.length 1
  | 0 => Nat.le_max_left _ _
  | n + 1 => by
    have h1 := dirs_len l n
    have h2 := dir_len (Wm.dirs n l)
    rw [Wm.dirs]; omega

set_option maxHeartbeats 400000 in
theorem walk (a0 : ByteArray) (w : World) (b0 : a0.size ≤ 140737488351232) :
    Calls Try.prog 12 #[.string a0] w fun e w' => e = .returned (.bool true) ∧ Below w.heap.size w w' := by
  have hend := Wm.dirs_end (bs a0)
  rw [← Wm.size_bs] at hend
  have HE := Lib.hid hend
  clear hend
  go_enter Try.func12, Try.ntmps12
  go_wp2
  go_loopw [3, 8] (fun d i wr => ∃ (k : Nat) (s : ByteArray), k ≤ a0.size + 1 ∧ i = .int .i64 k ∧ d = .string s ∧ Hid (bs s = Wm.dirs k (bs a0)) ∧ Below w.heap.size w wr) (fun _ i _ => a0.size + 1 - (RowKit.intOf i).toNat)
  case atStart => exact ⟨0, a0, Nat.zero_le _, rfl, rfl, rfl, Below.refl _ _⟩
  case round =>
    obtain ⟨k, s, hk, rfl, rfl, hs, hbw⟩ := hrel
    by_cases hlt : k < a0.size + 1
    · have hsz : s.size ≤ 140737488351232 := by
        have := dirs_len (bs a0) k
        rw [← hs.out, ← Wm.size_bs, ← Wm.size_bs] at this
        omega
      go_wp2_with fail
      refine (Wm.impl_Dir s _ (by omega)).mono ?_
      rintro e w1 ⟨c, rfl, hc, hb1⟩
      have HC : Hid (bs c = Wm.dirs (k + 1) (bs a0)) := by show bs c = _; rw [hc, hs.out]; rfl
      have HB := Lib.hid (Wm.next hbw hb1)
      clear hc hb1
      go_wp2
      go_roundw
      case rel => exact ⟨k + 1, c, by omega, by go_num, rfl, HC, HB.out⟩
      case measure => simp [RowKit.intOf]; omega
    · obtain rfl : k = a0.size + 1 := by omega
      have he := hs.out.trans HE.out
      cases hr : Pa.isAbs (bs a0) with
      | true =>
        have t1 : (s.toList == [47]) = true := Wm.lit_true (by rw [he, hr]; rfl)
        have HR := Lib.hid hr
        clear he hr
        go_wp2_with fail
        refine (Wm.hasPrefix_slash a0 _ true HR.out).mono ?_
        rintro e w2 ⟨rfl, rfl⟩
        go_wp2
        go_ret
        exact ⟨by simp, hbw⟩
      | false =>
        have t1 : (s.toList == [46]) = true := Wm.lit_true (by rw [he, hr]; rfl)
        have HR := Lib.hid hr
        clear he hr
        go_wp2_with fail
        refine (Wm.hasPrefix_slash a0 _ false HR.out).mono ?_
        rintro e w2 ⟨rfl, rfl⟩
        go_wp2
        go_ret
        exact ⟨by simp, hbw⟩

theorem own : ownKnob Try.prog.godebug = none := by kernel_rfl

theorem contract (H : Type) (enc : TypeId × Value → H) (W : World) (base : Nat) (args : Array Value) (ds gs : List (DataW H)) (before : List MemPlace)
    (hval : ∀ (j : Nat) t v, Try.f12.params[j]? = some t → args[j]? = some v → Value.okWide Try.prog W .any base t v)
    (hW : DataW.Whole enc Try.prog Try.f12.params.toList Rows.fnDirEndsSpec.vars false W args.toList ds gs before)
    (hsz : (DataW.weightsEach Try.prog (Try.f12.params.toList ++ Rows.fnDirEndsSpec.plain.varTypes Try.prog) (ds ++ gs)).all (· ≤ reachBytes) = true)
    : Calls Try.prog 12 args W fun e W' => ∃ v, e = .returned v ∧ Rows.fnDirEndsSpec.post enc Try.prog Try.f12 false true false false W args v W' := by
  have hW' := hW
  obtain ⟨p, q, hA0, hV, rfl, hfz, hnd⟩ := hW
  have hA : DataW.TrodAll enc Try.prog W 0 (fun _ => true) true Try.f12.params.toList args.toList ds p := hA0
  rw [Try.params12] at hA hval hsz
  obtain ⟨v0, vs0, d0, ds0, p0, q0, hargs, rfl, rfl, h0, r0⟩ := trodAll_cons hA
  obtain ⟨rfl, rfl, rfl⟩ := trodAll_nil r0
  obtain rfl : args = #[v0] := by cases args; simp_all
  obtain ⟨rfl, rfl⟩ := trodVars_none hV
  obtain ⟨a0, rfl, rfl, rfl, w0⟩ := open_string Try.underlying9 (hval 0 9 v0 rfl rfl) h0
  clear hA0
  have b0 : a0.size ≤ 140737488351232 := by have h := sized_string hsz (j := 0) (t := 9) rfl rfl; rw [Lib.size_eq]; exact h
  refine (walk a0 W b0).mono fun e W' ⟨he, bel⟩ => ?_
  subst he
  exact ⟨_, rfl, _, _, _, [], _, [], hW', trodAll_mk1 (shut_bool Try.underlying4 _), (trodAll_cons_mk (shut_string Try.underlying9 w0) trodAll_mk0), rfl, bel.frame _, fun h => by cases h⟩

set_option maxRecDepth 100000 in
theorem lifted (os : Os) (started : os.Started) (H : Type) (enc : TypeId × Value → H) :
    ReturnsInHanded {} Try.checked os 12 .any (Rows.fnDirEndsSpec.pre6 enc Try.prog Try.f12 Rows.fnDirEndsRow.domain false) (Rows.fnDirEndsSpec.post enc Try.prog Try.f12 false true false false) := by
  refine returnsInHanded_of_change_sized (C := Try.checked) own started (by kernel_rfl) Try.func12
    (ChangeSpec.witness6 (enc := enc) (C := Try.checked) false ⟨#[], #[.string .empty], []⟩ 8 (by kernel_rfl) (by kernel_rfl) (by kernel_rfl) (by kernel_rfl)) ?_
  intro W base args ds gs before hval hW _ hsz _
  exact contract H enc W base args ds gs before hval hW hsz

theorem proved : Rows.FnDirEndsSaid :=
  OpenClaim.holds_of_wide 12 Try.f12 rfl rfl rfl rfl rfl rfl rfl ⟨rfl, rfl, rfl, rfl, rfl⟩ rfl rfl rfl rfl rfl (by kernel_rfl) Try.func12 (by kernel_rfl)
    (of_decide_eq_true (by kernel_rfl)) (by unfold Func.isWrapper; first | (rw [if_pos (by decide +kernel)]; kernel_rfl) | (rw [if_neg (by decide +kernel)]; exact ⟨rfl, rfl⟩))
    (fun os started H enc _ => lifted os started H enc)
#print axioms proved
end Go.Proofs.Ytnoobjhbedfgfaa.fnDirEnds
