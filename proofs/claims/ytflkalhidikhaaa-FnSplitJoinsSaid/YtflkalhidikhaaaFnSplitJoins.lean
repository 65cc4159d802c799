/-
  PROVED: The parts of Split are the path; the first one is empty or ends with a slash, the second one has no slash: the law FnSplitJoins returns true at every string. Conditions: none beyond the form's own reach.
-/
import Derived.Test.YtflkalhidikhaaaImpl
import Derived.Test.YtflkalhidikhaaaPlain3
namespace Go.Proofs.Ytflkalhidikhaaa.fnSplitJoins
open Go Go.ChangeShapes Go.WideShapes Go.ChangeAt Go.RowKit
open Go.ChangeMaps (open_string shut_string)
open Go.Proofs.Ytflkalhidikhaaa.Wm (bs)
open Go.Lib

set_option maxHeartbeats 800000 in
theorem walk (a0 : ByteArray) (w : World) (b0 : a0.size ≤ 140737488351232) :
    Calls Try.prog 3 #[.string a0] w fun e w' => e = .returned (.bool true) ∧ Below w.heap.size w w' := by
  have hlen : (Pa.split (bs a0)).1.length + (Pa.split (bs a0)).2.length = a0.size := by
    rw [← List.length_append, Wm.split_append, Wm.size_bs]
  go_enter Try.func3, Try.ntmps3
  go_wp2_with fail
  refine (Wm.impl_Split a0 _ (by omega)).mono ?_
  rintro e w1 ⟨dir, file, rfl, hd, hf, hb1⟩
  have sd : dir.size ≤ 140737488351232 := by rw [Wm.size_bs, hd]; omega
  have hsum : dir.size + file.size ≤ 9223372036854775807 := by rw [Wm.size_bs, Wm.size_bs, hd, hf]; omega
  have t1 : ((dir ++ file).toList == a0.toList) = true := Wm.eq_true (by rw [Wm.bs_append, hd, hf, Wm.split_append])
  have HF := Lib.hid (show 47 ∉ bs file by rw [hf]; exact Wm.split_file _)
  have he := Wm.split_dir (bs a0)
  rw [← hd] at he
  have HB := Lib.hid hb1
  clear hd hf hlen hb1
  rcases he with he | he
  · have t0 := Wm.empty_true he
    clear he
    go_wp2_with fail
    refine (Wm.contains_no file _ HF.out).mono ?_
    rintro e w2 ⟨rfl, rfl⟩
    go_wp2
    go_ret
    exact ⟨by simp, HB.out⟩
  · have hne : bs dir ≠ [] := by obtain ⟨d, he⟩ := he; rw [he]; simp
    have t0 := Wm.empty_false hne
    have HS := Lib.hid (show hasSuffix (bs dir) [47] = true by obtain ⟨d, he⟩ := he; rw [he]; exact List.isSuffixOf_iff_suffix.2 (List.suffix_append d [47]))
    clear he hne
    go_wp2_with fail
    refine (Wm.hasSuffix_slash dir _ true HS.out (by omega)).mono ?_
    rintro e w2 ⟨rfl, rfl⟩
    go_wp2_with fail
    refine (Wm.contains_no file _ HF.out).mono ?_
    rintro e w2 ⟨rfl, rfl⟩
    go_wp2
    go_ret
    exact ⟨by simp, HB.out⟩

theorem own : ownKnob Try.prog.godebug = none := by kernel_rfl

theorem contract (H : Type) (enc : TypeId × Value → H) (W : World) (base : Nat) (args : Array Value) (ds gs : List (DataW H)) (before : List MemPlace)
    (hval : ∀ (j : Nat) t v, Try.f3.params[j]? = some t → args[j]? = some v → Value.okWide Try.prog W .any base t v)
    (hW : DataW.Whole enc Try.prog Try.f3.params.toList Rows.fnSplitJoinsSpec.vars false W args.toList ds gs before)
    (hsz : (DataW.weightsEach Try.prog (Try.f3.params.toList ++ Rows.fnSplitJoinsSpec.plain.varTypes Try.prog) (ds ++ gs)).all (· ≤ reachBytes) = true)
    : Calls Try.prog 3 args W fun e W' => ∃ v, e = .returned v ∧ Rows.fnSplitJoinsSpec.post enc Try.prog Try.f3 false true false false W args v W' := by
  have hW' := hW
  obtain ⟨p, q, hA0, hV, rfl, hfz, hnd⟩ := hW
  have hA : DataW.TrodAll enc Try.prog W 0 (fun _ => true) true Try.f3.params.toList args.toList ds p := hA0
  rw [Try.params3] at hA hval hsz
  obtain ⟨v0, vs0, d0, ds0, p0, q0, hargs, rfl, rfl, h0, r0⟩ := trodAll_cons hA
  obtain ⟨rfl, rfl, rfl⟩ := trodAll_nil r0
  obtain rfl : args = #[v0] := by cases args; simp_all
  obtain ⟨rfl, rfl⟩ := trodVars_none hV
  obtain ⟨a0, rfl, rfl, rfl, w0⟩ := open_string Try.underlying9 (hval 0 9 v0 rfl rfl) h0
  clear hA0
  have b0 : a0.size ≤ 140737488351232 := by have h := sized_string hsz (j := 0) (t := 9) rfl rfl; rw [Lib.size_eq]; exact h
  refine (walk a0 W b0).mono fun e W' ⟨he, bel⟩ => ?_
  subst he
  exact ⟨_, rfl, _, _, _, [], _, [], hW', trodAll_mk1 (shut_bool Try.underlying4 _), (trodAll_cons_mk (shut_string Try.underlying9 w0) trodAll_mk0), rfl, bel.frame _, fun h => by cases h⟩

set_option maxRecDepth 100000 in
theorem lifted (os : Os) (started : os.Started) (H : Type) (enc : TypeId × Value → H) :
    ReturnsInHanded {} Try.checked os 3 .any (Rows.fnSplitJoinsSpec.pre6 enc Try.prog Try.f3 Rows.fnSplitJoinsRow.domain false) (Rows.fnSplitJoinsSpec.post enc Try.prog Try.f3 false true false false) := by
  refine returnsInHanded_of_change_sized (C := Try.checked) own started (by kernel_rfl) Try.func3
    (ChangeSpec.witness6 (enc := enc) (C := Try.checked) false ⟨#[], #[.string .empty], []⟩ 8 (by kernel_rfl) (by kernel_rfl) (by kernel_rfl) (by kernel_rfl)) ?_
  intro W base args ds gs before hval hW _ hsz _
  exact contract H enc W base args ds gs before hval hW hsz

theorem proved : Rows.FnSplitJoinsSaid :=
  OpenClaim.holds_of_wide 3 Try.f3 rfl rfl rfl rfl rfl rfl rfl ⟨rfl, rfl, rfl, rfl, rfl⟩ rfl rfl rfl rfl rfl (by kernel_rfl) Try.func3 (by kernel_rfl)
    (of_decide_eq_true (by kernel_rfl)) (by unfold Func.isWrapper; first | (rw [if_pos (by decide +kernel)]; kernel_rfl) | (rw [if_neg (by decide +kernel)]; exact ⟨rfl, rfl⟩))
    (fun os started H enc _ => lifted os started H enc)
#print axioms proved
end Go.Proofs.Ytflkalhidikhaaa.fnSplitJoins
