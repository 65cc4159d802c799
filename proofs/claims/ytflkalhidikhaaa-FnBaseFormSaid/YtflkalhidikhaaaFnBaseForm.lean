/-
  PROVED: Base is never empty, and has no slash unless it is a slash; Base of Base is Base: the law FnBaseForm returns true at every string. Conditions: none beyond the form's own reach.
-/
import Derived.Test.YtflkalhidikhaaaImpl
import Derived.Test.YtflkalhidikhaaaPlain3
namespace Go.Proofs.Ytflkalhidikhaaa.fnBaseForm
open Go Go.ChangeShapes Go.WideShapes Go.ChangeAt Go.RowKit
open Go.ChangeMaps (open_string shut_string)
open Go.Proofs.Ytflkalhidikhaaa.Wm (bs)
open Go.Lib

theorem base_len (l : List UInt8) : (Pa.base l).length ≤ l.length + 1 := by
  rcases Wm.base_cases l with ⟨k, rfl⟩ | ⟨a, f, k, rfl, ha, hf, h47⟩
  · cases k with
    | zero => decide
    | succ k => rw [Wm.base_slashes]; simp
  · rw [Wm.base_mk k ha hf h47]; simp; omega

set_option maxHeartbeats 800000 in
theorem walk (a0 : ByteArray) (w : World) (b0 : a0.size ≤ 140737488351232) :
    Calls Try.prog 5 #[.string a0] w fun e w' => e = .returned (.bool true) ∧ Below w.heap.size w w' := by
  have hl := base_len (bs a0)
  rw [← Wm.size_bs] at hl
  go_enter Try.func5, Try.ntmps5
  go_wp2_with fail
  refine (Wm.impl_Base a0 _ (by omega)).mono ?_
  rintro e w1 ⟨b, rfl, hb, hb1⟩
  have tb : b.toList.isEmpty = false := Wm.empty_false (by rw [hb]; exact Wm.base_ne _)
  have sb : b.size ≤ 140737488351233 := by rw [Wm.size_bs, hb]; omega
  have hf := Wm.base_form (bs a0)
  rw [← hb] at hf
  have HBB := Lib.hid (show Pa.base (bs b) = bs b by rw [hb]; exact Wm.base_base _)
  clear hb hl
  rcases hf with hf | hf
  · have t1 : (b.toList == [47]) = true := Wm.lit_true hf
    clear hf
    go_wp2_with fail
    refine (Wm.impl_Base b _ (by omega)).mono ?_
    rintro e w2 ⟨c, rfl, hc, hb2⟩
    have t2 : (c.toList == b.toList) = true := Wm.eq_true (by rw [hc]; exact HBB.out)
    have HB := Lib.hid (Wm.next hb1 hb2)
    clear hc hb1 hb2
    go_wp2
    go_ret
    exact ⟨by simp, HB.out⟩
  · have t1 : (b.toList == [47]) = false := Wm.lit_false (by intro e; rw [e] at hf; exact hf (by simp))
    have HF := Lib.hid hf
    clear hf
    go_wp2_with fail
    refine (Wm.contains_no b _ HF.out).mono ?_
    rintro e w2 ⟨rfl, rfl⟩
    go_wp2_with fail
    refine (Wm.impl_Base b _ (by omega)).mono ?_
    rintro e w2 ⟨c, rfl, hc, hb2⟩
    have t2 : (c.toList == b.toList) = true := Wm.eq_true (by rw [hc]; exact HBB.out)
    have HB := Lib.hid (Wm.next hb1 hb2)
    clear hc hb1 hb2
    go_wp2
    go_ret
    exact ⟨by simp, HB.out⟩

theorem own : ownKnob Try.prog.godebug = none := by kernel_rfl

theorem contract (H : Type) (enc : TypeId × Value → H) (W : World) (base : Nat) (args : Array Value) (ds gs : List (DataW H)) (before : List MemPlace)
    (hval : ∀ (j : Nat) t v, Try.f5.params[j]? = some t → args[j]? = some v → Value.okWide Try.prog W .any base t v)
    (hW : DataW.Whole enc Try.prog Try.f5.params.toList Rows.fnBaseFormSpec.vars false W args.toList ds gs before)
    (hsz : (DataW.weightsEach Try.prog (Try.f5.params.toList ++ Rows.fnBaseFormSpec.plain.varTypes Try.prog) (ds ++ gs)).all (· ≤ reachBytes) = true)
    : Calls Try.prog 5 args W fun e W' => ∃ v, e = .returned v ∧ Rows.fnBaseFormSpec.post enc Try.prog Try.f5 false true false false W args v W' := by
  have hW' := hW
  obtain ⟨p, q, hA0, hV, rfl, hfz, hnd⟩ := hW
  have hA : DataW.TrodAll enc Try.prog W 0 (fun _ => true) true Try.f5.params.toList args.toList ds p := hA0
  rw [Try.params5] at hA hval hsz
  obtain ⟨v0, vs0, d0, ds0, p0, q0, hargs, rfl, rfl, h0, r0⟩ := trodAll_cons hA
  obtain ⟨rfl, rfl, rfl⟩ := trodAll_nil r0
  obtain rfl : args = #[v0] := by cases args; simp_all
  obtain ⟨rfl, rfl⟩ := trodVars_none hV
  obtain ⟨a0, rfl, rfl, rfl, w0⟩ := open_string Try.underlying9 (hval 0 9 v0 rfl rfl) h0
  clear hA0
  have b0 : a0.size ≤ 140737488351232 := by have h := sized_string hsz (j := 0) (t := 9) rfl rfl; rw [Lib.size_eq]; exact h
  refine (walk a0 W b0).mono fun e W' ⟨he, bel⟩ => ?_
  subst he
  exact ⟨_, rfl, _, _, _, [], _, [], hW', trodAll_mk1 (shut_bool Try.underlying4 _), (trodAll_cons_mk (shut_string Try.underlying9 w0) trodAll_mk0), rfl, bel.frame _, fun h => by cases h⟩

set_option maxRecDepth 100000 in
theorem lifted (os : Os) (started : os.Started) (H : Type) (enc : TypeId × Value → H) :
    ReturnsInHanded {} Try.checked os 5 .any (Rows.fnBaseFormSpec.pre6 enc Try.prog Try.f5 Rows.fnBaseFormRow.domain false) (Rows.fnBaseFormSpec.post enc Try.prog Try.f5 false true false false) := by
  refine returnsInHanded_of_change_sized (C := Try.checked) own started (by kernel_rfl) Try.func5
    (ChangeSpec.witness6 (enc := enc) (C := Try.checked) false ⟨#[], #[.string .empty], []⟩ 8 (by kernel_rfl) (by kernel_rfl) (by kernel_rfl) (by kernel_rfl)) ?_
  intro W base args ds gs before hval hW _ hsz _
  exact contract H enc W base args ds gs before hval hW hsz

theorem proved : Rows.FnBaseFormSaid :=
  OpenClaim.holds_of_wide 5 Try.f5 rfl rfl rfl rfl rfl rfl rfl ⟨rfl, rfl, rfl, rfl, rfl⟩ rfl rfl rfl rfl rfl (by kernel_rfl) Try.func5 (by kernel_rfl)
    (of_decide_eq_true (by kernel_rfl)) (by unfold Func.isWrapper; first | (rw [if_pos (by decide +kernel)]; kernel_rfl) | (rw [if_neg (by decide +kernel)]; exact ⟨rfl, rfl⟩))
    (fun os started H enc _ => lifted os started H enc)
#print axioms proved
end Go.Proofs.Ytflkalhidikhaaa.fnBaseForm
