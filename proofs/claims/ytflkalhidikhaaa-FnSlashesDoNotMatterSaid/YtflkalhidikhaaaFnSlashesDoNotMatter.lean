/-
  PROVED: A slash more beside another one makes no difference to the result of Clean, which is not empty, nor does one at the end of a path that is not empty: the law FnSlashesDoNotMatter returns true at every string and every integer. Conditions: none beyond the form's own reach.
-/
import Derived.Test.YtflkalhidikhaaaImpl
import Derived.Test.YtflkalhidikhaaaPlain3
import Derived.Test.YtflkalhidikhaaaCut
namespace Go.Proofs.Ytflkalhidikhaaa.fnSlashesDoNotMatter
open Go Go.ChangeShapes Go.WideShapes Go.ChangeAt Go.RowKit
open Go.ChangeMaps (open_string shut_string)
open Go.Proofs.Ytflkalhidikhaaa.Wm (bs)
open Go.Lib

set_option maxHeartbeats 800000 in
theorem walk (a0 : ByteArray) (a1 : Int) (w : World) (b0 : a0.size ≤ 140737488351232) (_ : -9223372036854775808 ≤ a1 ∧ a1 ≤ 9223372036854775807) :
    Calls Try.prog 11 #[.string a0, .int .i64 a1] w fun e w' => e = .returned (.bool true) ∧ Below w.heap.size w w' := by
  by_cases h0 : bs a0 = []
  · have t0 := Wm.empty_true h0
    clear h0
    go_enter Try.func11, Try.ntmps11
    go_wp2
    go_ret
    exact ⟨rfl, Below.refl _ _⟩
  · have t0 := Wm.empty_false h0
    have HS := Lib.hid (show Pa.clean (bs (a0 ++ ⟨#[47]⟩)) = Pa.clean (bs a0) by rw [Wm.bs_append]; exact Wm.clean_slash h0)
    clear h0
    have s1 : a0.size + 1 ≤ 9223372036854775807 := by omega
    go_enter Try.func11, Try.ntmps11
    go_wp2_with fail
    refine (Wm.impl_Clean a0 _ (by omega)).mono ?_
    rintro e w1 ⟨c, rfl, hc, hb1⟩
    have tc : c.toList.isEmpty = false := Wm.empty_false (by rw [hc]; exact Wm.clean_ne _)
    have HC := Lib.hid hc
    clear hc
    go_wp2_with fail
    refine (Wm.impl_Clean _ _ (by rw [ByteArray.size_append, Wm.size1]; omega)).mono ?_
    rintro e w2 ⟨d, rfl, hd, hb2⟩
    obtain rfl : d = c := Wm.bs_inj (by rw [hd, HS.out, HC.out])
    have HB := Lib.hid (Wm.next hb1 hb2)
    clear hd hb1 hb2
    go_wp2_with fail
    refine (Wm.cut_any a0 a1 _ b0).mono ?_
    rintro e w3 ⟨a, b, ok, rfl, hok, hb3⟩
    have HO := Lib.hid hok
    have HB3 := Lib.hid (Wm.next HB.out hb3)
    clear hok hb3
    cases ok with
    | false =>
      go_wp2
      go_ret
      exact ⟨by simp, HB3.out⟩
    | true =>
      have HP := Lib.hid (HO.out rfl)
      clear HO
      have hl : a.size + (1 + b.size) = a0.size := by
        rw [Wm.size_bs a, Wm.size_bs b, Wm.size_bs a0, HP.out]; simp; omega
      have s2 : a.size + 2 ≤ 9223372036854775807 := by omega
      have s3 : a.size + 2 + b.size ≤ 9223372036854775807 := by omega
      have s4 : a.size + 2 + b.size ≤ 281474976710656 := by omega
      clear hl
      have HE := Lib.hid (show Pa.clean (bs (a ++ ⟨#[47, 47]⟩ ++ b)) = Pa.clean (bs a0) by
        rw [Wm.bs_append, Wm.bs_append, HP.out]
        show Pa.clean (bs a ++ [47, 47] ++ bs b) = _
        rw [List.append_assoc]; exact Wm.clean_slashes _ _)
      go_wp2_with fail
      refine (Wm.impl_Clean _ _ (by rw [ByteArray.size_append, ByteArray.size_append, Wm.size2]; omega)).mono ?_
      rintro e w4 ⟨x, rfl, hx, hb4⟩
      have t1 : (x.toList == d.toList) = true := Wm.eq_true (by rw [hx, HE.out, HC.out])
      have HB4 := Lib.hid (Wm.next HB3.out hb4)
      clear hx hb4
      go_wp2
      go_ret
      exact ⟨by simp, HB4.out⟩

theorem own : ownKnob Try.prog.godebug = none := by kernel_rfl

theorem contract (H : Type) (enc : TypeId × Value → H) (W : World) (base : Nat) (args : Array Value) (ds gs : List (DataW H)) (before : List MemPlace)
    (hval : ∀ (j : Nat) t v, Try.f11.params[j]? = some t → args[j]? = some v → Value.okWide Try.prog W .any base t v)
    (hW : DataW.Whole enc Try.prog Try.f11.params.toList Rows.fnSlashesDoNotMatterSpec.vars false W args.toList ds gs before)
    (hsz : (DataW.weightsEach Try.prog (Try.f11.params.toList ++ Rows.fnSlashesDoNotMatterSpec.plain.varTypes Try.prog) (ds ++ gs)).all (· ≤ reachBytes) = true)
    : Calls Try.prog 11 args W fun e W' => ∃ v, e = .returned v ∧ Rows.fnSlashesDoNotMatterSpec.post enc Try.prog Try.f11 false true false false W args v W' := by
  have hW' := hW
  obtain ⟨p, q, hA0, hV, rfl, hfz, hnd⟩ := hW
  have hA : DataW.TrodAll enc Try.prog W 0 (fun _ => true) true Try.f11.params.toList args.toList ds p := hA0
  rw [Try.params11] at hA hval hsz
  obtain ⟨v0, vs0, d0, ds0, p0, q0, hargs, rfl, rfl, h0, r0⟩ := trodAll_cons hA
  obtain ⟨v1, vs1, d1, ds1, p1, q1, rfl, rfl, rfl, h1, r1⟩ := trodAll_cons r0
  obtain ⟨rfl, rfl, rfl⟩ := trodAll_nil r1
  obtain rfl : args = #[v0, v1] := by cases args; simp_all
  obtain ⟨rfl, rfl⟩ := trodVars_none hV
  obtain ⟨a0, rfl, rfl, rfl, w0⟩ := open_string Try.underlying9 (hval 0 9 v0 rfl rfl) h0
  obtain ⟨a1, rfl, rfl, rfl, w1⟩ := open_int Try.underlying3 (hval 1 3 v1 rfl rfl) h1
  clear hA0
  have b0 : a0.size ≤ 140737488351232 := by have h := sized_string hsz (j := 0) (t := 9) rfl rfl; rw [Lib.size_eq]; exact h
  have b1 := Wm.bounds_i64 w1
  refine (walk a0 a1 W b0 b1).mono fun e W' ⟨he, bel⟩ => ?_
  subst he
  exact ⟨_, rfl, _, _, _, [], _, [], hW', trodAll_mk1 (shut_bool Try.underlying4 _), (trodAll_cons_mk (shut_string Try.underlying9 w0) (trodAll_cons_mk (shut_int Try.underlying3 w1) trodAll_mk0)), rfl, bel.frame _, fun h => by cases h⟩

set_option maxRecDepth 100000 in
theorem lifted (os : Os) (started : os.Started) (H : Type) (enc : TypeId × Value → H) :
    ReturnsInHanded {} Try.checked os 11 .any (Rows.fnSlashesDoNotMatterSpec.pre6 enc Try.prog Try.f11 Rows.fnSlashesDoNotMatterRow.domain false) (Rows.fnSlashesDoNotMatterSpec.post enc Try.prog Try.f11 false true false false) := by
  refine returnsInHanded_of_change_sized (C := Try.checked) own started (by kernel_rfl) Try.func11
    (ChangeSpec.witness6 (enc := enc) (C := Try.checked) false ⟨#[], #[.string .empty, .int .i64 0], []⟩ 8 (by kernel_rfl) (by kernel_rfl) (by kernel_rfl) (by kernel_rfl)) ?_
  intro W base args ds gs before hval hW _ hsz _
  exact contract H enc W base args ds gs before hval hW hsz

theorem proved : Rows.FnSlashesDoNotMatterSaid :=
  OpenClaim.holds_of_wide 11 Try.f11 rfl rfl rfl rfl rfl rfl rfl ⟨rfl, rfl, rfl, rfl, rfl⟩ rfl rfl rfl rfl rfl (by kernel_rfl) Try.func11 (by kernel_rfl)
    (of_decide_eq_true (by kernel_rfl)) (by unfold Func.isWrapper; first | (rw [if_pos (by decide +kernel)]; kernel_rfl) | (rw [if_neg (by decide +kernel)]; exact ⟨rfl, rfl⟩))
    (fun os started H enc _ => lifted os started H enc)
#print axioms proved
end Go.Proofs.Ytflkalhidikhaaa.fnSlashesDoNotMatter
