/-
  PROVED: To clean a part of a path up to a slash first makes no difference to its result, which is not empty: the law FnCleanWithin returns true at every string and every integer. Conditions: none beyond the form's own reach.
-/
import Derived.Test.YtflkalhidikhaaaImpl
import Derived.Test.YtflkalhidikhaaaPlain3
import Derived.Test.YtflkalhidikhaaaCut
namespace Go.Proofs.Ytflkalhidikhaaa.fnCleanWithin
open Go Go.ChangeShapes Go.WideShapes Go.ChangeAt Go.RowKit
open Go.ChangeMaps (open_string shut_string)
open Go.Proofs.Ytflkalhidikhaaa.Wm (bs)
open Go.Lib

set_option maxHeartbeats 800000 in
theorem walk (a0 : ByteArray) (a1 : Int) (w : World) (b0 : a0.size ≤ 140737488351232) (_ : -9223372036854775808 ≤ a1 ∧ a1 ≤ 9223372036854775807) :
    Calls Try.prog 10 #[.string a0, .int .i64 a1] w fun e w' => e = .returned (.bool true) ∧ Below w.heap.size w w' := by
  go_enter Try.func10, Try.ntmps10
  go_wp2_with fail
  refine (Wm.cut_any a0 a1 _ b0).mono ?_
  rintro e w1 ⟨a, b, ok, rfl, hok, hb1⟩
  have HO := Lib.hid hok
  clear hok
  go_wp2_with fail
  refine (Wm.impl_Clean a0 _ (by omega)).mono ?_
  rintro e w2 ⟨c, rfl, hc, hb2⟩
  have tc : c.toList.isEmpty = false := Wm.empty_false (by rw [hc]; exact Wm.clean_ne _)
  have HC := Lib.hid hc
  have HB := Lib.hid (Wm.next hb1 hb2)
  clear hc hb1 hb2
  cases ok with
  | false =>
    go_wp2
    go_ret
    exact ⟨by simp, HB.out⟩
  | true =>
    have HP := Lib.hid (HO.out rfl)
    clear HO
    by_cases h0 : bs a = []
    · have t0 := Wm.empty_true h0
      clear h0
      go_wp2
      go_ret
      exact ⟨by simp, HB.out⟩
    · have t0 := Wm.empty_false h0
      have H0 := Lib.hid h0
      clear h0
      have hl : a.size + (1 + b.size) = a0.size := by
        rw [Wm.size_bs a, Wm.size_bs b, Wm.size_bs a0, HP.out]; simp; omega
      have ha : a.size ≤ 140737488351232 := by omega
      have hab : a.size + b.size + 1 ≤ 140737488351232 := by omega
      clear hl
      go_wp2_with fail
      refine (Wm.impl_Clean a _ (by omega)).mono ?_
      rintro e w3 ⟨d, rfl, hd, hb3⟩
      have hds : d.size ≤ a.size := by rw [Wm.size_bs d, Wm.size_bs a, hd]; exact (Wm.clean_short H0.out).1
      have s1 : d.size + 1 ≤ 9223372036854775807 := by omega
      have s2 : d.size + 1 + b.size ≤ 9223372036854775807 := by omega
      have HE := Lib.hid (show Pa.clean (bs (d ++ ⟨#[47]⟩ ++ b)) = Pa.clean (bs a0) by
        rw [Wm.bs_append, Wm.bs_append, hd, HP.out]
        show Pa.clean (Pa.clean (bs a) ++ [47] ++ bs b) = _
        rw [List.append_assoc]; exact Wm.clean_within _ _ H0.out)
      have HB3 := Lib.hid (Wm.next HB.out hb3)
      clear hd hb3
      go_wp2_with fail
      refine (Wm.impl_Clean _ _ (by rw [ByteArray.size_append, ByteArray.size_append, Wm.size1]; omega)).mono ?_
      rintro e w4 ⟨x, rfl, hx, hb4⟩
      have t1 : (x.toList == c.toList) = true := Wm.eq_true (by rw [hx, HE.out, HC.out])
      have HB4 := Lib.hid (Wm.next HB3.out hb4)
      clear hx hb4
      go_wp2
      go_ret
      exact ⟨by simp, HB4.out⟩

theorem own : ownKnob Try.prog.godebug = none := by kernel_rfl

theorem contract (H : Type) (enc : TypeId × Value → H) (W : World) (base : Nat) (args : Array Value) (ds gs : List (DataW H)) (before : List MemPlace)
    (hval : ∀ (j : Nat) t v, Try.f10.params[j]? = some t → args[j]? = some v → Value.okWide Try.prog W .any base t v)
    (hW : DataW.Whole enc Try.prog Try.f10.params.toList Rows.fnCleanWithinSpec.vars false W args.toList ds gs before)
    (hsz : (DataW.weightsEach Try.prog (Try.f10.params.toList ++ Rows.fnCleanWithinSpec.plain.varTypes Try.prog) (ds ++ gs)).all (· ≤ reachBytes) = true)
    : Calls Try.prog 10 args W fun e W' => ∃ v, e = .returned v ∧ Rows.fnCleanWithinSpec.post enc Try.prog Try.f10 false true false false W args v W' := by
  have hW' := hW
  obtain ⟨p, q, hA0, hV, rfl, hfz, hnd⟩ := hW
  have hA : DataW.TrodAll enc Try.prog W 0 (fun _ => true) true Try.f10.params.toList args.toList ds p := hA0
  rw [Try.params10] at hA hval hsz
  obtain ⟨v0, vs0, d0, ds0, p0, q0, hargs, rfl, rfl, h0, r0⟩ := trodAll_cons hA
  obtain ⟨v1, vs1, d1, ds1, p1, q1, rfl, rfl, rfl, h1, r1⟩ := trodAll_cons r0
  obtain ⟨rfl, rfl, rfl⟩ := trodAll_nil r1
  obtain rfl : args = #[v0, v1] := by cases args; simp_all
  obtain ⟨rfl, rfl⟩ := trodVars_none hV
  obtain ⟨a0, rfl, rfl, rfl, w0⟩ := open_string Try.underlying9 (hval 0 9 v0 rfl rfl) h0
  obtain ⟨a1, rfl, rfl, rfl, w1⟩ := open_int Try.underlying3 (hval 1 3 v1 rfl rfl) h1
  clear hA0
  have b0 : a0.size ≤ 140737488351232 := by have h := sized_string hsz (j := 0) (t := 9) rfl rfl; rw [Lib.size_eq]; exact h
  have b1 := Wm.bounds_i64 w1
  refine (walk a0 a1 W b0 b1).mono fun e W' ⟨he, bel⟩ => ?_
  subst he
  exact ⟨_, rfl, _, _, _, [], _, [], hW', trodAll_mk1 (shut_bool Try.underlying4 _), (trodAll_cons_mk (shut_string Try.underlying9 w0) (trodAll_cons_mk (shut_int Try.underlying3 w1) trodAll_mk0)), rfl, bel.frame _, fun h => by cases h⟩

set_option maxRecDepth 100000 in
theorem lifted (os : Os) (started : os.Started) (H : Type) (enc : TypeId × Value → H) :
    ReturnsInHanded {} Try.checked os 10 .any (Rows.fnCleanWithinSpec.pre6 enc Try.prog Try.f10 Rows.fnCleanWithinRow.domain false) (Rows.fnCleanWithinSpec.post enc Try.prog Try.f10 false true false false) := by
  refine returnsInHanded_of_change_sized (C := Try.checked) own started (by kernel_rfl) Try.func10
    (ChangeSpec.witness6 (enc := enc) (C := Try.checked) false ⟨#[], #[.string .empty, .int .i64 0], []⟩ 8 (by kernel_rfl) (by kernel_rfl) (by kernel_rfl) (by kernel_rfl)) ?_
  intro W base args ds gs before hval hW _ hsz _
  exact contract H enc W base args ds gs before hval hW hsz

theorem proved : Rows.FnCleanWithinSaid :=
  OpenClaim.holds_of_wide 10 Try.f10 rfl rfl rfl rfl rfl rfl rfl ⟨rfl, rfl, rfl, rfl, rfl⟩ rfl rfl rfl rfl rfl (by kernel_rfl) Try.func10 (by kernel_rfl)
    (of_decide_eq_true (by kernel_rfl)) (by unfold Func.isWrapper; first | (rw [if_pos (by decide +kernel)]; kernel_rfl) | (rw [if_neg (by decide +kernel)]; exact ⟨rfl, rfl⟩))
    (fun os started H enc _ => lifted os started H enc)
#print axioms proved
end Go.Proofs.Ytflkalhidikhaaa.fnCleanWithin
