/-
  PROVED: Ext of a path, a dot, and bytes without dots and slashes is the dot and these bytes; of a path, a slash, and such bytes it is empty: the law FnExtAdded returns true at every pair of strings. Conditions: none beyond the form's own reach.
-/
import Derived.Test.YtflkalhidikhaaaImpl
import Derived.Test.YtflkalhidikhaaaPlain3
import Derived.Test.YtflkalhidikhaaaAny2
namespace Go.Proofs.Ytflkalhidikhaaa.fnExtAdded
open Go Go.ChangeShapes Go.WideShapes Go.ChangeAt Go.RowKit
open Go.ChangeMaps (open_string shut_string)
open Go.Proofs.Ytflkalhidikhaaa.Wm (bs)
open Go.Lib

theorem info_set : (Try.prog.info? (Try.lays150_ren.t 116)).map (fun i => (i.zero, i.size)) = some (some (.agg (Array.replicate 256 (.bool false))), 256) := by kernel_rfl

theorem contains_ds (s : ByteArray) (w : World) (b : Bool) (hs : s.size ≤ 140737488355328) (h : Lib.containsAny (bs s) [46, 47] = b) :
    Calls Try.prog 20 #[.string s, .string ⟨#[46, 47]⟩] w fun e w' => e = .returned (.bool b) ∧ Below w.heap.size w w' := by
  rw [← h]
  exact Wm.containsAny_ds Try.lays150 (zero_of_info info_set).1 (zero_of_info info_set).2 s w hs

set_option maxHeartbeats 1600000 in
theorem walk (a0 a1 : ByteArray) (w : World) (b0 : a0.size ≤ 140737488351232) (b1 : a1.size ≤ 140737488351232) :
    Calls Try.prog 7 #[.string a0, .string a1] w fun e w' => e = .returned (.bool true) ∧ Below w.heap.size w w' := by
  obtain ⟨v, hv⟩ : ∃ v, Lib.containsAny (bs a1) [46, 47] = v := ⟨_, rfl⟩
  have HV := Lib.hid hv
  clear hv
  go_enter Try.func7, Try.ntmps7
  go_wp2_with fail
  refine (contains_ds a1 _ v (by omega) HV.out).mono ?_
  rintro e w1 ⟨rfl, hb1⟩
  have HB1 := Lib.hid hb1
  clear hb1
  cases v with
  | true =>
    go_wp2
    go_ret
    exact ⟨by simp, HB1.out⟩
  | false =>
    obtain ⟨n1, n2⟩ := Wm.containsAny_no HV.out
    have HE := Lib.hid (Wm.ext_added (bs a0) (bs a1) n1 n2)
    clear n1 n2
    have s1 : a0.size + 1 ≤ 9223372036854775807 := by omega
    have s2 : a0.size + 1 + a1.size ≤ 9223372036854775807 := by omega
    have s3 : 1 + a1.size ≤ 9223372036854775807 := by omega
    go_wp2_with fail
    refine (Wm.impl_Ext _ _ (by simp only [ByteArray.size_append, Wm.size1]; omega)).mono ?_
    rintro e w2 ⟨x, rfl, hx, hb2⟩
    have t1 : (x.toList == ((⟨#[46]⟩ : ByteArray) ++ a1).toList) = true := Wm.eq_true (by
      rw [hx, Wm.bs_append, Wm.bs_append, Wm.bs_append, List.append_assoc]
      exact HE.out.1)
    have HB2 := Lib.hid (Wm.next HB1.out hb2)
    clear hx hb2
    go_wp2_with fail
    refine (Wm.impl_Ext _ _ (by simp only [ByteArray.size_append, Wm.size1]; omega)).mono ?_
    rintro e w3 ⟨y, rfl, hy, hb3⟩
    have t2 : y.toList.isEmpty = true := Wm.empty_true (by
      rw [hy, Wm.bs_append, Wm.bs_append, List.append_assoc]
      exact HE.out.2)
    have HB3 := Lib.hid (Wm.next HB2.out hb3)
    clear hy hb3
    go_wp2
    go_ret
    exact ⟨by simp, HB3.out⟩

theorem own : ownKnob Try.prog.godebug = none := by kernel_rfl

theorem contract (H : Type) (enc : TypeId × Value → H) (W : World) (base : Nat) (args : Array Value) (ds gs : List (DataW H)) (before : List MemPlace)
    (hval : ∀ (j : Nat) t v, Try.f7.params[j]? = some t → args[j]? = some v → Value.okWide Try.prog W .any base t v)
    (hW : DataW.Whole enc Try.prog Try.f7.params.toList Rows.fnExtAddedSpec.vars false W args.toList ds gs before)
    (hsz : (DataW.weightsEach Try.prog (Try.f7.params.toList ++ Rows.fnExtAddedSpec.plain.varTypes Try.prog) (ds ++ gs)).all (· ≤ reachBytes) = true)
    : Calls Try.prog 7 args W fun e W' => ∃ v, e = .returned v ∧ Rows.fnExtAddedSpec.post enc Try.prog Try.f7 false true false false W args v W' := by
  have hW' := hW
  obtain ⟨p, q, hA0, hV, rfl, hfz, hnd⟩ := hW
  have hA : DataW.TrodAll enc Try.prog W 0 (fun _ => true) true Try.f7.params.toList args.toList ds p := hA0
  rw [Try.params7] at hA hval hsz
  obtain ⟨v0, vs0, d0, ds0, p0, q0, hargs, rfl, rfl, h0, r0⟩ := trodAll_cons hA
  obtain ⟨v1, vs1, d1, ds1, p1, q1, rfl, rfl, rfl, h1, r1⟩ := trodAll_cons r0
  obtain ⟨rfl, rfl, rfl⟩ := trodAll_nil r1
  obtain rfl : args = #[v0, v1] := by cases args; simp_all
  obtain ⟨rfl, rfl⟩ := trodVars_none hV
  obtain ⟨a0, rfl, rfl, rfl, w0⟩ := open_string Try.underlying9 (hval 0 9 v0 rfl rfl) h0
  obtain ⟨a1, rfl, rfl, rfl, w1⟩ := open_string Try.underlying9 (hval 1 9 v1 rfl rfl) h1
  clear hA0
  have b0 : a0.size ≤ 140737488351232 := by have h := sized_string hsz (j := 0) (t := 9) rfl rfl; rw [Lib.size_eq]; exact h
  have b1 : a1.size ≤ 140737488351232 := by have h := sized_string hsz (j := 1) (t := 9) rfl rfl; rw [Lib.size_eq]; exact h
  refine (walk a0 a1 W b0 b1).mono fun e W' ⟨he, bel⟩ => ?_
  subst he
  exact ⟨_, rfl, _, _, _, [], _, [], hW', trodAll_mk1 (shut_bool Try.underlying4 _), (trodAll_cons_mk (shut_string Try.underlying9 w0) (trodAll_cons_mk (shut_string Try.underlying9 w1) trodAll_mk0)), rfl, bel.frame _, fun h => by cases h⟩

set_option maxRecDepth 100000 in
theorem lifted (os : Os) (started : os.Started) (H : Type) (enc : TypeId × Value → H) :
    ReturnsInHanded {} Try.checked os 7 .any (Rows.fnExtAddedSpec.pre6 enc Try.prog Try.f7 Rows.fnExtAddedRow.domain false) (Rows.fnExtAddedSpec.post enc Try.prog Try.f7 false true false false) := by
  refine returnsInHanded_of_change_sized (C := Try.checked) own started (by kernel_rfl) Try.func7
    (ChangeSpec.witness6 (enc := enc) (C := Try.checked) false ⟨#[], #[.string .empty, .string .empty], []⟩ 8 (by kernel_rfl) (by kernel_rfl) (by kernel_rfl) (by kernel_rfl)) ?_
  intro W base args ds gs before hval hW _ hsz _
  exact contract H enc W base args ds gs before hval hW hsz

theorem proved : Rows.FnExtAddedSaid :=
  OpenClaim.holds_of_wide 7 Try.f7 rfl rfl rfl rfl rfl rfl rfl ⟨rfl, rfl, rfl, rfl, rfl⟩ rfl rfl rfl rfl rfl (by kernel_rfl) Try.func7 (by kernel_rfl)
    (of_decide_eq_true (by kernel_rfl)) (by unfold Func.isWrapper; first | (rw [if_pos (by decide +kernel)]; kernel_rfl) | (rw [if_neg (by decide +kernel)]; exact ⟨rfl, rfl⟩))
    (fun os started H enc _ => lifted os started H enc)
#print axioms proved
end Go.Proofs.Ytflkalhidikhaaa.fnExtAdded
