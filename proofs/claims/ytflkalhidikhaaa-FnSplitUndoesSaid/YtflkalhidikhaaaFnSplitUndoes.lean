/-
  PROVED: Split takes apart again a string that is empty or ends with a slash, and one without a slash: the law FnSplitUndoes returns true at every pair of strings. Conditions: none beyond the form's own reach.
-/
import Derived.Test.YtflkalhidikhaaaImpl
import Derived.Test.YtflkalhidikhaaaPlain3
namespace Go.Proofs.Ytflkalhidikhaaa.fnSplitUndoes
open Go Go.ChangeShapes Go.WideShapes Go.ChangeAt Go.RowKit
open Go.ChangeMaps (open_string shut_string)
open Go.Proofs.Ytflkalhidikhaaa.Wm (bs)
open Go.Lib

set_option maxHeartbeats 800000 in
theorem go_on (a0 a1 : ByteArray) (w : World) (b0 : a0.size ≤ 140737488351232) (b1 : a1.size ≤ 140737488351232) (he : Wm.Ends (bs a0)) (h1 : 47 ∉ bs a1) :
    Calls Try.prog 4 #[.string a0, .string a1] w fun e w' => e = .returned (.bool true) ∧ Below w.heap.size w w' := by
  have HP := Lib.hid (Wm.split_mk he h1)
  have H1 := Lib.hid h1
  clear h1
  have hs : a0.size + a1.size ≤ 9223372036854775807 := by omega
  rcases he with he | he
  · have t0 := Wm.empty_true he
    clear he
    go_enter Try.func4, Try.ntmps4
    go_wp2_with fail
    refine (Wm.contains_no a1 _ H1.out).mono ?_
    rintro e w2 ⟨rfl, rfl⟩
    go_wp2_with fail
    refine (Wm.impl_Split (a0 ++ a1) _ (by rw [ByteArray.size_append]; exact hs)).mono ?_
    rintro e w1 ⟨dir, file, rfl, hd, hf, hb1⟩
    have t1 : (dir.toList == a0.toList) = true := Wm.eq_true (by rw [hd, Wm.bs_append, HP.out])
    have t2 : (file.toList == a1.toList) = true := Wm.eq_true (by rw [hf, Wm.bs_append, HP.out])
    clear hd hf
    go_wp2
    go_ret
    exact ⟨by simp, hb1⟩
  · have hne : bs a0 ≠ [] := by obtain ⟨d, he⟩ := he; rw [he]; simp
    have t0 := Wm.empty_false hne
    have HS := Lib.hid (show hasSuffix (bs a0) [47] = true by obtain ⟨d, he⟩ := he; rw [he]; exact List.isSuffixOf_iff_suffix.2 (List.suffix_append d [47]))
    clear he hne
    go_enter Try.func4, Try.ntmps4
    go_wp2_with fail
    refine (Wm.hasSuffix_slash a0 _ true HS.out (by omega)).mono ?_
    rintro e w2 ⟨rfl, rfl⟩
    go_wp2_with fail
    refine (Wm.contains_no a1 _ H1.out).mono ?_
    rintro e w2 ⟨rfl, rfl⟩
    go_wp2_with fail
    refine (Wm.impl_Split (a0 ++ a1) _ (by rw [ByteArray.size_append]; exact hs)).mono ?_
    rintro e w1 ⟨dir, file, rfl, hd, hf, hb1⟩
    have t1 : (dir.toList == a0.toList) = true := Wm.eq_true (by rw [hd, Wm.bs_append, HP.out])
    have t2 : (file.toList == a1.toList) = true := Wm.eq_true (by rw [hf, Wm.bs_append, HP.out])
    clear hd hf
    go_wp2
    go_ret
    exact ⟨by simp, hb1⟩

set_option maxHeartbeats 800000 in
theorem walk (a0 a1 : ByteArray) (w : World) (b0 : a0.size ≤ 140737488351232) (b1 : a1.size ≤ 140737488351232) :
    Calls Try.prog 4 #[.string a0, .string a1] w fun e w' => e = .returned (.bool true) ∧ Below w.heap.size w w' := by
  have hc : Wm.Ends (bs a0) ∨ (bs a0 ≠ [] ∧ hasSuffix (bs a0) [47] = false) := by
    by_cases h : bs a0 = []
    · exact .inl (.inl h)
    · cases hs : hasSuffix (bs a0) [47] with
      | true => exact .inl (.inr (Wm.hasSuffix_yes hs))
      | false => exact .inr ⟨h, rfl⟩
  rcases hc with he | ⟨hne, hs⟩
  · by_cases h1 : 47 ∈ bs a1
    · have H1 := Lib.hid h1
      clear h1
      rcases he with he | he
      · have t0 := Wm.empty_true he
        clear he
        go_enter Try.func4, Try.ntmps4
        go_wp2_with fail
        refine (Wm.contains_yes a1 _ H1.out).mono ?_
        rintro e w2 ⟨rfl, rfl⟩
        go_wp2
        go_ret
        exact ⟨rfl, Below.refl _ _⟩
      · have hne : bs a0 ≠ [] := by obtain ⟨d, he⟩ := he; rw [he]; simp
        have t0 := Wm.empty_false hne
        have HS := Lib.hid (show hasSuffix (bs a0) [47] = true by obtain ⟨d, he⟩ := he; rw [he]; exact List.isSuffixOf_iff_suffix.2 (List.suffix_append d [47]))
        clear he hne
        go_enter Try.func4, Try.ntmps4
        go_wp2_with fail
        refine (Wm.hasSuffix_slash a0 _ true HS.out (by omega)).mono ?_
        rintro e w2 ⟨rfl, rfl⟩
        go_wp2_with fail
        refine (Wm.contains_yes a1 _ H1.out).mono ?_
        rintro e w2 ⟨rfl, rfl⟩
        go_wp2
        go_ret
        exact ⟨rfl, Below.refl _ _⟩
    · exact go_on a0 a1 w b0 b1 he h1
  · have t0 := Wm.empty_false hne
    have HS := Lib.hid hs
    clear hne hs
    go_enter Try.func4, Try.ntmps4
    go_wp2_with fail
    refine (Wm.hasSuffix_slash a0 _ false HS.out (by omega)).mono ?_
    rintro e w2 ⟨rfl, rfl⟩
    go_wp2
    go_ret
    exact ⟨rfl, Below.refl _ _⟩

theorem own : ownKnob Try.prog.godebug = none := by kernel_rfl

theorem contract (H : Type) (enc : TypeId × Value → H) (W : World) (base : Nat) (args : Array Value) (ds gs : List (DataW H)) (before : List MemPlace)
    (hval : ∀ (j : Nat) t v, Try.f4.params[j]? = some t → args[j]? = some v → Value.okWide Try.prog W .any base t v)
    (hW : DataW.Whole enc Try.prog Try.f4.params.toList Rows.fnSplitUndoesSpec.vars false W args.toList ds gs before)
    (hsz : (DataW.weightsEach Try.prog (Try.f4.params.toList ++ Rows.fnSplitUndoesSpec.plain.varTypes Try.prog) (ds ++ gs)).all (· ≤ reachBytes) = true)
    : Calls Try.prog 4 args W fun e W' => ∃ v, e = .returned v ∧ Rows.fnSplitUndoesSpec.post enc Try.prog Try.f4 false true false false W args v W' := by
  have hW' := hW
  obtain ⟨p, q, hA0, hV, rfl, hfz, hnd⟩ := hW
  have hA : DataW.TrodAll enc Try.prog W 0 (fun _ => true) true Try.f4.params.toList args.toList ds p := hA0
  rw [Try.params4] at hA hval hsz
  obtain ⟨v0, vs0, d0, ds0, p0, q0, hargs, rfl, rfl, h0, r0⟩ := trodAll_cons hA
  obtain ⟨v1, vs1, d1, ds1, p1, q1, rfl, rfl, rfl, h1, r1⟩ := trodAll_cons r0
  obtain ⟨rfl, rfl, rfl⟩ := trodAll_nil r1
  obtain rfl : args = #[v0, v1] := by cases args; simp_all
  obtain ⟨rfl, rfl⟩ := trodVars_none hV
  obtain ⟨a0, rfl, rfl, rfl, w0⟩ := open_string Try.underlying9 (hval 0 9 v0 rfl rfl) h0
  obtain ⟨a1, rfl, rfl, rfl, w1⟩ := open_string Try.underlying9 (hval 1 9 v1 rfl rfl) h1
  clear hA0
  have b0 : a0.size ≤ 140737488351232 := by have h := sized_string hsz (j := 0) (t := 9) rfl rfl; rw [Lib.size_eq]; exact h
  have b1 : a1.size ≤ 140737488351232 := by have h := sized_string hsz (j := 1) (t := 9) rfl rfl; rw [Lib.size_eq]; exact h
  refine (walk a0 a1 W b0 b1).mono fun e W' ⟨he, bel⟩ => ?_
  subst he
  exact ⟨_, rfl, _, _, _, [], _, [], hW', trodAll_mk1 (shut_bool Try.underlying4 _), (trodAll_cons_mk (shut_string Try.underlying9 w0) (trodAll_cons_mk (shut_string Try.underlying9 w1) trodAll_mk0)), rfl, bel.frame _, fun h => by cases h⟩

set_option maxRecDepth 100000 in
theorem lifted (os : Os) (started : os.Started) (H : Type) (enc : TypeId × Value → H) :
    ReturnsInHanded {} Try.checked os 4 .any (Rows.fnSplitUndoesSpec.pre6 enc Try.prog Try.f4 Rows.fnSplitUndoesRow.domain false) (Rows.fnSplitUndoesSpec.post enc Try.prog Try.f4 false true false false) := by
  refine returnsInHanded_of_change_sized (C := Try.checked) own started (by kernel_rfl) Try.func4
    (ChangeSpec.witness6 (enc := enc) (C := Try.checked) false ⟨#[], #[.string .empty, .string .empty], []⟩ 8 (by kernel_rfl) (by kernel_rfl) (by kernel_rfl) (by kernel_rfl)) ?_
  intro W base args ds gs before hval hW _ hsz _
  exact contract H enc W base args ds gs before hval hW hsz

theorem proved : Rows.FnSplitUndoesSaid :=
  OpenClaim.holds_of_wide 4 Try.f4 rfl rfl rfl rfl rfl rfl rfl ⟨rfl, rfl, rfl, rfl, rfl⟩ rfl rfl rfl rfl rfl (by kernel_rfl) Try.func4 (by kernel_rfl)
    (of_decide_eq_true (by kernel_rfl)) (by unfold Func.isWrapper; first | (rw [if_pos (by decide +kernel)]; kernel_rfl) | (rw [if_neg (by decide +kernel)]; exact ⟨rfl, rfl⟩))
    (fun os started H enc _ => lifted os started H enc)
#print axioms proved
end Go.Proofs.Ytflkalhidikhaaa.fnSplitUndoes
