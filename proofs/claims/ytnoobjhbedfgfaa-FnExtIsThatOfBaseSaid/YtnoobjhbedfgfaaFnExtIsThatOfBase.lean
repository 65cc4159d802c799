/-
  PROVED: Ext of a path that does not end with a slash and is not empty is that of its Base, which is not empty: the law FnExtIsThatOfBase returns true at every string. Conditions: none beyond the form's own reach.
-/
import Derived.Test.YtnoobjhbedfgfaaImpl
import Derived.Test.YtnoobjhbedfgfaaPlain2
namespace Go.Proofs.Ytnoobjhbedfgfaa.fnExtIsThatOfBase
open Go Go.ChangeShapes Go.WideShapes Go.ChangeAt Go.RowKit
open Go.ChangeMaps (open_string shut_string)
open Go.Proofs.Ytnoobjhbedfgfaa.Wm (bs)
open Go.Lib

set_option maxHeartbeats 800000 in
theorem walk (a0 : ByteArray) (w : World) (b0 : a0.size ≤ 140737488351232) :
    Calls Try.prog 6 #[.string a0] w fun e w' => e = .returned (.bool true) ∧ Below w.heap.size w w' := by
  have hcase : bs a0 = [] ∨ (bs a0 ≠ [] ∧ hasSuffix (bs a0) [47] = true) ∨ (bs a0 ≠ [] ∧ hasSuffix (bs a0) [47] = false ∧ Pa.ext (bs a0) = Pa.ext (Pa.base (bs a0)) ∧ (Pa.base (bs a0)).length ≤ a0.size) := by
    by_cases h : bs a0 = []
    · exact .inl h
    · cases hs : hasSuffix (bs a0) [47] with
      | true => exact .inr (.inl ⟨h, rfl⟩)
      | false =>
        have he := (Wm.base_split h (Wm.hasSuffix_no hs)).1
        refine .inr (.inr ⟨h, rfl, ?_, ?_⟩)
        · rw [he]; exact Wm.ext_split _
        · rw [he, Wm.size_bs]
          have := congrArg List.length (Wm.split_append (bs a0))
          rw [List.length_append] at this
          omega
  go_enter Try.func6, Try.ntmps6
  go_wp2_with fail
  refine (Wm.impl_Base a0 _ (by omega)).mono ?_
  rintro e w2 ⟨b, rfl, hb, hb2⟩
  have tb : b.toList.isEmpty = false := Wm.empty_false (by rw [hb]; exact Wm.base_ne _)
  have HBs := Lib.hid hb
  have HB := Lib.hid hb2
  clear hb hb2
  rcases hcase with h | ⟨h, hs⟩ | ⟨h, hs, he, hl⟩
  · have t0 := Wm.empty_true h
    clear h
    go_wp2
    go_ret
    exact ⟨by simp, HB.out⟩
  · have t0 := Wm.empty_false h
    have HS := Lib.hid hs
    clear h hs
    go_wp2_with fail
    refine (Wm.hasSuffix_slash a0 _ true HS.out (by omega)).mono ?_
    rintro e w3 ⟨rfl, rfl⟩
    go_wp2
    go_ret
    exact ⟨by simp, HB.out⟩
  · have t0 := Wm.empty_false h
    have HS := Lib.hid hs
    have HE := Lib.hid he
    have sb : b.size ≤ 140737488351232 := by rw [Wm.size_bs, HBs.out]; omega
    clear h hs he hl
    go_wp2_with fail
    refine (Wm.hasSuffix_slash a0 _ false HS.out (by omega)).mono ?_
    rintro e w3 ⟨rfl, rfl⟩
    go_wp2_with fail
    refine (Wm.impl_Ext a0 _ (by omega)).mono ?_
    rintro e w3 ⟨x, rfl, hx, hb3⟩
    have HX := Lib.hid hx
    clear hx
    go_wp2_with fail
    refine (Wm.impl_Ext b _ (by omega)).mono ?_
    rintro e w4 ⟨y, rfl, hy, hb4⟩
    have t1 : (x.toList == y.toList) = true := Wm.eq_true (by rw [HX.out, hy, HBs.out, HE.out])
    have HB4 := Lib.hid (Wm.next (Wm.next HB.out hb3) hb4)
    clear hb3 hb4 hy
    go_wp2
    go_ret
    exact ⟨by simp, HB4.out⟩

theorem own : ownKnob Try.prog.godebug = none := by kernel_rfl

theorem contract (H : Type) (enc : TypeId × Value → H) (W : World) (base : Nat) (args : Array Value) (ds gs : List (DataW H)) (before : List MemPlace)
    (hval : ∀ (j : Nat) t v, Try.f6.params[j]? = some t → args[j]? = some v → Value.okWide Try.prog W .any base t v)
    (hW : DataW.Whole enc Try.prog Try.f6.params.toList Rows.fnExtIsThatOfBaseSpec.vars false W args.toList ds gs before)
    (hsz : (DataW.weightsEach Try.prog (Try.f6.params.toList ++ Rows.fnExtIsThatOfBaseSpec.plain.varTypes Try.prog) (ds ++ gs)).all (· ≤ reachBytes) = true)
    : Calls Try.prog 6 args W fun e W' => ∃ v, e = .returned v ∧ Rows.fnExtIsThatOfBaseSpec.post enc Try.prog Try.f6 false true false false W args v W' := by
  have hW' := hW
  obtain ⟨p, q, hA0, hV, rfl, hfz, hnd⟩ := hW
  have hA : DataW.TrodAll enc Try.prog W 0 (fun _ => true) true Try.f6.params.toList args.toList ds p := hA0
  rw [Try.params6] at hA hval hsz
  obtain ⟨v0, vs0, d0, ds0, p0, q0, hargs, rfl, rfl, h0, r0⟩ := trodAll_cons hA
  obtain ⟨rfl, rfl, rfl⟩ := trodAll_nil r0
  obtain rfl : args = #[v0] := by cases args; simp_all
  obtain ⟨rfl, rfl⟩ := trodVars_none hV
  obtain ⟨a0, rfl, rfl, rfl, w0⟩ := open_string Try.underlying9 (hval 0 9 v0 rfl rfl) h0
  clear hA0
  have b0 : a0.size ≤ 140737488351232 := by have h := sized_string hsz (j := 0) (t := 9) rfl rfl; rw [Lib.size_eq]; exact h
  refine (walk a0 W b0).mono fun e W' ⟨he, bel⟩ => ?_
  subst he
  exact ⟨_, rfl, _, _, _, [], _, [], hW', trodAll_mk1 (shut_bool Try.underlying4 _), (trodAll_cons_mk (shut_string Try.underlying9 w0) trodAll_mk0), rfl, bel.frame _, fun h => by cases h⟩

set_option maxRecDepth 100000 in
theorem lifted (os : Os) (started : os.Started) (H : Type) (enc : TypeId × Value → H) :
    ReturnsInHanded {} Try.checked os 6 .any (Rows.fnExtIsThatOfBaseSpec.pre6 enc Try.prog Try.f6 Rows.fnExtIsThatOfBaseRow.domain false) (Rows.fnExtIsThatOfBaseSpec.post enc Try.prog Try.f6 false true false false) := by
  refine returnsInHanded_of_change_sized (C := Try.checked) own started (by kernel_rfl) Try.func6
    (ChangeSpec.witness6 (enc := enc) (C := Try.checked) false ⟨#[], #[.string .empty], []⟩ 8 (by kernel_rfl) (by kernel_rfl) (by kernel_rfl) (by kernel_rfl)) ?_
  intro W base args ds gs before hval hW _ hsz _
  exact contract H enc W base args ds gs before hval hW hsz

theorem proved : Rows.FnExtIsThatOfBaseSaid :=
  OpenClaim.holds_of_wide 6 Try.f6 rfl rfl rfl rfl rfl rfl rfl ⟨rfl, rfl, rfl, rfl, rfl⟩ rfl rfl rfl rfl rfl (by kernel_rfl) Try.func6 (by kernel_rfl)
    (of_decide_eq_true (by kernel_rfl)) (by unfold Func.isWrapper; first | (rw [if_pos (by decide +kernel)]; kernel_rfl) | (rw [if_neg (by decide +kernel)]; exact ⟨rfl, rfl⟩))
    (fun os started H enc _ => lifted os started H enc)
#print axioms proved
end Go.Proofs.Ytnoobjhbedfgfaa.fnExtIsThatOfBase
