/-
  PROVED: Ext is a part of the path at its end, without a slash, and it is empty, or has one dot, at its beginning; it is that of the second part of Split, and the path has no dot behind its last slash if Ext is empty: the law FnExtForm returns true at every string. Conditions: none beyond the form's own reach.
-/
import Derived.Test.YtflkalhidikhaaaImpl
import Derived.Test.YtflkalhidikhaaaPlain3
namespace Go.Proofs.Ytflkalhidikhaaa.fnExtForm
open Go Go.ChangeShapes Go.WideShapes Go.ChangeAt Go.RowKit
open Go.ChangeMaps (open_string shut_string)
open Go.Proofs.Ytflkalhidikhaaa.Wm (bs)
open Go.Lib

set_option maxHeartbeats 1600000 in
theorem walk (a0 : ByteArray) (w : World) (b0 : a0.size ≤ 140737488351232) :
    Calls Try.prog 9 #[.string a0] w fun e w' => e = .returned (.bool true) ∧ Below w.heap.size w w' := by
  have hl : (Pa.ext (bs a0)).length ≤ a0.size := by rw [Wm.size_bs]; exact (Wm.ext_suffix (bs a0)).length_le
  have hl2 : (Pa.split (bs a0)).2.length ≤ a0.size := by
    rw [Wm.size_bs]
    have := congrArg List.length (Wm.split_append (bs a0))
    rw [List.length_append] at this
    omega
  go_enter Try.func9, Try.ntmps9
  go_wp2_with fail
  refine (Wm.impl_Ext a0 _ (by omega)).mono ?_
  rintro e w1 ⟨x, rfl, hx, hb1⟩
  have sx : x.size ≤ 140737488351232 := by rw [Wm.size_bs, hx]; omega
  have HX := Lib.hid hx
  clear hx hl
  go_wp2_with fail
  refine (Wm.impl_Split a0 _ (by omega)).mono ?_
  rintro e w2 ⟨dir, file, rfl, hd, hf, hb2⟩
  have sf : file.size ≤ 140737488351232 := by rw [Wm.size_bs, hf]; omega
  have HF := Lib.hid hf
  have HB := Lib.hid (Wm.next hb1 hb2)
  clear hd hf hb1 hb2 hl2
  go_wp2_with fail
  refine (Wm.hasSuffix_val a0 x _ true (by rw [HX.out]; exact List.isSuffixOf_iff_suffix.2 (Wm.ext_suffix _)) (by omega)).mono ?_
  rintro e w3 ⟨rfl, rfl⟩
  go_wp2_with fail
  refine (Wm.contains_no x _ (by rw [HX.out]; exact Wm.ext_no47 _)).mono ?_
  rintro e w3 ⟨rfl, rfl⟩
  go_wp2_with fail
  refine (Wm.impl_Ext file _ (by omega)).mono ?_
  rintro e w4 ⟨y, rfl, hy, hb4⟩
  obtain rfl : x = y := Wm.bs_inj (by rw [HX.out, hy, HF.out, ← Wm.ext_split])
  have HB4 := Lib.hid (Wm.next HB.out hb4)
  clear hy hb4
  by_cases h0 : bs x = []
  · have t0 := Wm.empty_true h0
    have hle := Wm.ext_nil_last (l := bs a0) (by rw [← HX.out]; exact h0)
    clear h0
    obtain ⟨i, hi⟩ : ∃ i, Pa.lastIndexByte (bs a0) 46 = i := ⟨_, rfl⟩
    obtain ⟨j, hj⟩ : ∃ j, Pa.lastIndexByte (bs a0) 47 = j := ⟨_, rfl⟩
    rw [hi, hj] at hle
    have HI := Lib.hid hi
    have HJ := Lib.hid hj
    clear hi hj
    go_wp2_with fail
    refine (Wm.lastIndex_byte a0 46 _ (by omega)).mono ?_
    rintro e w5 ⟨rfl, rfl⟩
    rw [HI.out]
    go_wp2_with fail
    refine (Wm.lastIndex_byte a0 47 _ (by omega)).mono ?_
    rintro e w5 ⟨rfl, rfl⟩
    rw [HJ.out]
    go_wp2
    go_ret
    exact ⟨by simp, HB4.out⟩
  · have t0 := Wm.empty_false h0
    have HI := Lib.hid (show Pa.lastIndexByte (bs x) 46 = 0 by rw [HX.out]; exact Wm.ext_first_dot (by rw [← HX.out]; exact h0))
    clear h0
    go_wp2_with fail
    refine (Wm.lastIndex_byte x 46 _ (by omega)).mono ?_
    rintro e w5 ⟨rfl, rfl⟩
    rw [HI.out]
    go_wp2
    go_ret
    exact ⟨by simp, HB4.out⟩

theorem own : ownKnob Try.prog.godebug = none := by kernel_rfl

theorem contract (H : Type) (enc : TypeId × Value → H) (W : World) (base : Nat) (args : Array Value) (ds gs : List (DataW H)) (before : List MemPlace)
    (hval : ∀ (j : Nat) t v, Try.f9.params[j]? = some t → args[j]? = some v → Value.okWide Try.prog W .any base t v)
    (hW : DataW.Whole enc Try.prog Try.f9.params.toList Rows.fnExtFormSpec.vars false W args.toList ds gs before)
    (hsz : (DataW.weightsEach Try.prog (Try.f9.params.toList ++ Rows.fnExtFormSpec.plain.varTypes Try.prog) (ds ++ gs)).all (· ≤ reachBytes) = true)
    : Calls Try.prog 9 args W fun e W' => ∃ v, e = .returned v ∧ Rows.fnExtFormSpec.post enc Try.prog Try.f9 false true false false W args v W' := by
  have hW' := hW
  obtain ⟨p, q, hA0, hV, rfl, hfz, hnd⟩ := hW
  have hA : DataW.TrodAll enc Try.prog W 0 (fun _ => true) true Try.f9.params.toList args.toList ds p := hA0
  rw [Try.params9] at hA hval hsz
  obtain ⟨v0, vs0, d0, ds0, p0, q0, hargs, rfl, rfl, h0, r0⟩ := trodAll_cons hA
  obtain ⟨rfl, rfl, rfl⟩ := trodAll_nil r0
  obtain rfl : args = #[v0] := by cases args; simp_all
  obtain ⟨rfl, rfl⟩ := trodVars_none hV
  obtain ⟨a0, rfl, rfl, rfl, w0⟩ := open_string Try.underlying9 (hval 0 9 v0 rfl rfl) h0
  clear hA0
  have b0 : a0.size ≤ 140737488351232 := by have h := sized_string hsz (j := 0) (t := 9) rfl rfl; rw [Lib.size_eq]; exact h
  refine (walk a0 W b0).mono fun e W' ⟨he, bel⟩ => ?_
  subst he
  exact ⟨_, rfl, _, _, _, [], _, [], hW', trodAll_mk1 (shut_bool Try.underlying4 _), (trodAll_cons_mk (shut_string Try.underlying9 w0) trodAll_mk0), rfl, bel.frame _, fun h => by cases h⟩

set_option maxRecDepth 100000 in
theorem lifted (os : Os) (started : os.Started) (H : Type) (enc : TypeId × Value → H) :
    ReturnsInHanded {} Try.checked os 9 .any (Rows.fnExtFormSpec.pre6 enc Try.prog Try.f9 Rows.fnExtFormRow.domain false) (Rows.fnExtFormSpec.post enc Try.prog Try.f9 false true false false) := by
  refine returnsInHanded_of_change_sized (C := Try.checked) own started (by kernel_rfl) Try.func9
    (ChangeSpec.witness6 (enc := enc) (C := Try.checked) false ⟨#[], #[.string .empty], []⟩ 8 (by kernel_rfl) (by kernel_rfl) (by kernel_rfl) (by kernel_rfl)) ?_
  intro W base args ds gs before hval hW _ hsz _
  exact contract H enc W base args ds gs before hval hW hsz

theorem proved : Rows.FnExtFormSaid :=
  OpenClaim.holds_of_wide 9 Try.f9 rfl rfl rfl rfl rfl rfl rfl ⟨rfl, rfl, rfl, rfl, rfl⟩ rfl rfl rfl rfl rfl (by kernel_rfl) Try.func9 (by kernel_rfl)
    (of_decide_eq_true (by kernel_rfl)) (by unfold Func.isWrapper; first | (rw [if_pos (by decide +kernel)]; kernel_rfl) | (rw [if_neg (by decide +kernel)]; exact ⟨rfl, rfl⟩))
    (fun os started H enc _ => lifted os started H enc)
#print axioms proved
end Go.Proofs.Ytflkalhidikhaaa.fnExtForm
