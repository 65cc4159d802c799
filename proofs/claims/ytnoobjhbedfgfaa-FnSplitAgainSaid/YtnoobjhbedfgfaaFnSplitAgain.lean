/-
  PROVED: Split of its own first part returns this part and nothing, that of its second part nothing and this part; both together are the path: the law FnSplitAgain returns true at every string. Conditions: none beyond the form's own reach.
-/
import Derived.Test.YtnoobjhbedfgfaaImpl
import Derived.Test.YtnoobjhbedfgfaaPlain2
namespace Go.Proofs.Ytnoobjhbedfgfaa.fnSplitAgain
open Go Go.ChangeShapes Go.WideShapes Go.ChangeAt Go.RowKit
open Go.ChangeMaps (open_string shut_string)
open Go.Proofs.Ytnoobjhbedfgfaa.Wm (bs)
open Go.Lib

set_option maxHeartbeats 400000 in
theorem walk (a0 : ByteArray) (w : World) (b0 : a0.size ≤ 140737488351232) :
    Calls Try.prog 4 #[.string a0] w fun e w' => e = .returned (.bool true) ∧ Below w.heap.size w w' := by
  have hlen : (Pa.split (bs a0)).1.length + (Pa.split (bs a0)).2.length = a0.size := by
    rw [← List.length_append, Wm.split_append, Wm.size_bs]
  go_enter Try.func4, Try.ntmps4
  go_wp2_with fail
  refine (Wm.impl_Split a0 _ (by omega)).mono ?_
  rintro e w1 ⟨dir, file, rfl, hd, hf, hb1⟩
  have sd : dir.size ≤ 140737488351232 := by rw [Wm.size_bs, hd]; omega
  have sf : file.size ≤ 140737488351232 := by rw [Wm.size_bs, hf]; omega
  have hsum : dir.size + file.size ≤ 140737488351232 := by rw [Wm.size_bs, Wm.size_bs, hd, hf]; omega
  have HD := Lib.hid hd
  have HF := Lib.hid hf
  have HL := Lib.hid hlen
  clear hd hf hlen
  go_wp2_with fail
  refine (Wm.impl_Split dir _ (by omega)).mono ?_
  rintro e w2 ⟨a, b, rfl, ha, hb, hb2⟩
  obtain rfl : a = dir := Wm.bs_inj (by rw [ha, HD.out, Wm.split_dir_dir])
  have tb : b.toList.isEmpty = true := Wm.empty_true (by rw [hb, HD.out, Wm.split_dir_dir])
  clear ha hb
  go_wp2_with fail
  refine (Wm.impl_Split file _ (by omega)).mono ?_
  rintro e w3 ⟨c, d, rfl, hc, hd, hb3⟩
  obtain rfl : d = file := Wm.bs_inj (by rw [hd, HF.out, Wm.split_file_file])
  have tc : c.toList.isEmpty = true := Wm.empty_true (by rw [hc, HF.out, Wm.split_file_file])
  clear hc hd
  have t1 : ((a ++ d).toList == a0.toList) = true := Wm.eq_true (by rw [Wm.bs_append, HD.out, HF.out, Wm.split_append])
  have hs : a.size + d.size ≤ 9223372036854775807 := by omega
  have HB := Lib.hid (show Below w.heap.size w w3 from (hb1.trans (hb2.mono hb1.size)).trans (hb3.mono (Nat.le_trans hb1.size hb2.size)))
  clear hb1 hb2 hb3
  go_wp2
  go_ret
  exact ⟨by simp, HB.out⟩

theorem own : ownKnob Try.prog.godebug = none := by kernel_rfl

theorem contract (H : Type) (enc : TypeId × Value → H) (W : World) (base : Nat) (args : Array Value) (ds gs : List (DataW H)) (before : List MemPlace)
    (hval : ∀ (j : Nat) t v, Try.f4.params[j]? = some t → args[j]? = some v → Value.okWide Try.prog W .any base t v)
    (hW : DataW.Whole enc Try.prog Try.f4.params.toList Rows.fnSplitAgainSpec.vars false W args.toList ds gs before)
    (hsz : (DataW.weightsEach Try.prog (Try.f4.params.toList ++ Rows.fnSplitAgainSpec.plain.varTypes Try.prog) (ds ++ gs)).all (· ≤ reachBytes) = true)
    : Calls Try.prog 4 args W fun e W' => ∃ v, e = .returned v ∧ Rows.fnSplitAgainSpec.post enc Try.prog Try.f4 false true false false W args v W' := by
  have hW' := hW
  obtain ⟨p, q, hA0, hV, rfl, hfz, hnd⟩ := hW
  have hA : DataW.TrodAll enc Try.prog W 0 (fun _ => true) true Try.f4.params.toList args.toList ds p := hA0
  rw [Try.params4] at hA hval hsz
  obtain ⟨v0, vs0, d0, ds0, p0, q0, hargs, rfl, rfl, h0, r0⟩ := trodAll_cons hA
  obtain ⟨rfl, rfl, rfl⟩ := trodAll_nil r0
  obtain rfl : args = #[v0] := by cases args; simp_all
  obtain ⟨rfl, rfl⟩ := trodVars_none hV
  obtain ⟨a0, rfl, rfl, rfl, w0⟩ := open_string Try.underlying9 (hval 0 9 v0 rfl rfl) h0
  clear hA0
  have b0 : a0.size ≤ 140737488351232 := by have h := sized_string hsz (j := 0) (t := 9) rfl rfl; rw [Lib.size_eq]; exact h
  refine (walk a0 W b0).mono fun e W' ⟨he, bel⟩ => ?_
  subst he
  exact ⟨_, rfl, _, _, _, [], _, [], hW', trodAll_mk1 (shut_bool Try.underlying4 _), (trodAll_cons_mk (shut_string Try.underlying9 w0) trodAll_mk0), rfl, bel.frame _, fun h => by cases h⟩

set_option maxRecDepth 100000 in
theorem lifted (os : Os) (started : os.Started) (H : Type) (enc : TypeId × Value → H) :
    ReturnsInHanded {} Try.checked os 4 .any (Rows.fnSplitAgainSpec.pre6 enc Try.prog Try.f4 Rows.fnSplitAgainRow.domain false) (Rows.fnSplitAgainSpec.post enc Try.prog Try.f4 false true false false) := by
  refine returnsInHanded_of_change_sized (C := Try.checked) own started (by kernel_rfl) Try.func4
    (ChangeSpec.witness6 (enc := enc) (C := Try.checked) false ⟨#[], #[.string .empty], []⟩ 8 (by kernel_rfl) (by kernel_rfl) (by kernel_rfl) (by kernel_rfl)) ?_
  intro W base args ds gs before hval hW _ hsz _
  exact contract H enc W base args ds gs before hval hW hsz

theorem proved : Rows.FnSplitAgainSaid :=
  OpenClaim.holds_of_wide 4 Try.f4 rfl rfl rfl rfl rfl rfl rfl ⟨rfl, rfl, rfl, rfl, rfl⟩ rfl rfl rfl rfl rfl (by kernel_rfl) Try.func4 (by kernel_rfl)
    (of_decide_eq_true (by kernel_rfl)) (by unfold Func.isWrapper; first | (rw [if_pos (by decide +kernel)]; kernel_rfl) | (rw [if_neg (by decide +kernel)]; exact ⟨rfl, rfl⟩))
    (fun os started H enc _ => lifted os started H enc)
#print axioms proved
end Go.Proofs.Ytnoobjhbedfgfaa.fnSplitAgain
