/-
  PROVED: Whether a path that is not empty is absolute does not hang on what stands behind it; with a slash before it, it always is; the empty path is not: the law FnIsAbsByJoin returns true at every pair of strings and every integer. Conditions: none beyond the form's own reach.
-/
import Derived.Test.YtflkalhidikhaaaImpl
import Derived.Test.YtflkalhidikhaaaPlain3
namespace Go.Proofs.Ytflkalhidikhaaa.fnIsAbsByJoin
open Go Go.ChangeShapes Go.WideShapes Go.ChangeAt Go.RowKit
open Go.ChangeMaps (open_string shut_string)
open Go.Proofs.Ytflkalhidikhaaa.Wm (bs)
open Go.Lib

set_option maxHeartbeats 800000 in
theorem walk (a0 a1 : ByteArray) (a2 : Int) (w : World) (b0 : a0.size ≤ 140737488351232) (b1 : a1.size ≤ 140737488351232) (_ : -9223372036854775808 ≤ a2 ∧ a2 ≤ 9223372036854775807) :
    Calls Try.prog 6 #[.string a0, .string a1, .int .i64 a2] w fun e w' => e = .returned (.bool true) ∧ Below w.heap.size w w' := by
  by_cases h0 : bs a0 = []
  · have t0 := Wm.empty_true h0
    have HR := Lib.hid (show Pa.isAbs (bs a0) = false by rw [h0]; rfl)
    clear h0
    go_enter Try.func6, Try.ntmps6
    go_wp2_with fail
    refine (Wm.impl_IsAbs_val a0 _ false HR.out).mono ?_
    rintro e w2 ⟨rfl, rfl⟩
    go_wp2
    go_ret
    exact ⟨by simp, Below.refl _ _⟩
  · have t0 := Wm.empty_false h0
    obtain ⟨r, hr⟩ : ∃ r, Pa.isAbs (bs a0) = r := ⟨_, rfl⟩
    have HR := Lib.hid hr
    have HR1 := Lib.hid (show Pa.isAbs (bs (a0 ++ a1)) = r by rw [Wm.bs_append, Wm.isAbs_append _ h0, hr])
    clear hr h0
    obtain ⟨n, hn⟩ : ∃ n : Nat, max (a2.tmod 20) 0 = (n : Int) := ⟨(max (a2.tmod 20) 0).toNat, by omega⟩
    have hn20 : n ≤ 20 := by have := Int.tmod_lt_of_pos a2 (show (0 : Int) < 20 by decide); omega
    have HN := Lib.hid hn
    clear hn
    have hs : a0.size + a1.size ≤ 9223372036854775807 := by omega
    have tr : (r == r) = true := by simp
    go_enter Try.func6, Try.ntmps6
    go_wp2_with fail
    refine (Wm.impl_IsAbs_val (a0 ++ a1) _ r HR1.out).mono ?_
    rintro e w2 ⟨rfl, rfl⟩
    go_wp2_with fail
    refine (Wm.impl_IsAbs_val a0 _ r HR.out).mono ?_
    rintro e w2 ⟨rfl, rfl⟩
    go_wp2_with fail
    rw [HN.out, IntWalk.wrap64_in _ ⟨by omega, by omega⟩, show (1 + (n : Int)) = ((1 + n : Nat) : Int) by omega]
    refine (Wm.repeat_slash (1 + n) _ (by omega)).mono ?_
    rintro e w2 ⟨c, rfl, hc, hb2⟩
    have sc : c.size ≤ 21 := by rw [Wm.size_bs, hc, List.length_replicate]; omega
    have HR2 := Lib.hid (show Pa.isAbs (bs (c ++ a0)) = true by rw [Wm.bs_append, hc, Nat.add_comm, List.replicate_succ]; rfl)
    have hs2 : c.size + a0.size ≤ 9223372036854775807 := by omega
    clear hc
    go_wp2_with fail
    refine (Wm.impl_IsAbs_val (c ++ a0) _ true HR2.out).mono ?_
    rintro e w3 ⟨rfl, rfl⟩
    go_wp2
    go_ret
    exact ⟨by simp, hb2⟩

theorem own : ownKnob Try.prog.godebug = none := by kernel_rfl

theorem contract (H : Type) (enc : TypeId × Value → H) (W : World) (base : Nat) (args : Array Value) (ds gs : List (DataW H)) (before : List MemPlace)
    (hval : ∀ (j : Nat) t v, Try.f6.params[j]? = some t → args[j]? = some v → Value.okWide Try.prog W .any base t v)
    (hW : DataW.Whole enc Try.prog Try.f6.params.toList Rows.fnIsAbsByJoinSpec.vars false W args.toList ds gs before)
    (hsz : (DataW.weightsEach Try.prog (Try.f6.params.toList ++ Rows.fnIsAbsByJoinSpec.plain.varTypes Try.prog) (ds ++ gs)).all (· ≤ reachBytes) = true)
    : Calls Try.prog 6 args W fun e W' => ∃ v, e = .returned v ∧ Rows.fnIsAbsByJoinSpec.post enc Try.prog Try.f6 false true false false W args v W' := by
  have hW' := hW
  obtain ⟨p, q, hA0, hV, rfl, hfz, hnd⟩ := hW
  have hA : DataW.TrodAll enc Try.prog W 0 (fun _ => true) true Try.f6.params.toList args.toList ds p := hA0
  rw [Try.params6] at hA hval hsz
  obtain ⟨v0, vs0, d0, ds0, p0, q0, hargs, rfl, rfl, h0, r0⟩ := trodAll_cons hA
  obtain ⟨v1, vs1, d1, ds1, p1, q1, rfl, rfl, rfl, h1, r1⟩ := trodAll_cons r0
  obtain ⟨v2, vs2, d2, ds2, p2, q2, rfl, rfl, rfl, h2, r2⟩ := trodAll_cons r1
  obtain ⟨rfl, rfl, rfl⟩ := trodAll_nil r2
  obtain rfl : args = #[v0, v1, v2] := by cases args; simp_all
  obtain ⟨rfl, rfl⟩ := trodVars_none hV
  obtain ⟨a0, rfl, rfl, rfl, w0⟩ := open_string Try.underlying9 (hval 0 9 v0 rfl rfl) h0
  obtain ⟨a1, rfl, rfl, rfl, w1⟩ := open_string Try.underlying9 (hval 1 9 v1 rfl rfl) h1
  obtain ⟨a2, rfl, rfl, rfl, w2⟩ := open_int Try.underlying3 (hval 2 3 v2 rfl rfl) h2
  clear hA0
  have b0 : a0.size ≤ 140737488351232 := by have h := sized_string hsz (j := 0) (t := 9) rfl rfl; rw [Lib.size_eq]; exact h
  have b1 : a1.size ≤ 140737488351232 := by have h := sized_string hsz (j := 1) (t := 9) rfl rfl; rw [Lib.size_eq]; exact h
  have b2 := Wm.bounds_i64 w2
  refine (walk a0 a1 a2 W b0 b1 b2).mono fun e W' ⟨he, bel⟩ => ?_
  subst he
  exact ⟨_, rfl, _, _, _, [], _, [], hW', trodAll_mk1 (shut_bool Try.underlying4 _), (trodAll_cons_mk (shut_string Try.underlying9 w0) (trodAll_cons_mk (shut_string Try.underlying9 w1) (trodAll_cons_mk (shut_int Try.underlying3 w2) trodAll_mk0))), rfl, bel.frame _, fun h => by cases h⟩

set_option maxRecDepth 100000 in
theorem lifted (os : Os) (started : os.Started) (H : Type) (enc : TypeId × Value → H) :
    ReturnsInHanded {} Try.checked os 6 .any (Rows.fnIsAbsByJoinSpec.pre6 enc Try.prog Try.f6 Rows.fnIsAbsByJoinRow.domain false) (Rows.fnIsAbsByJoinSpec.post enc Try.prog Try.f6 false true false false) := by
  refine returnsInHanded_of_change_sized (C := Try.checked) own started (by kernel_rfl) Try.func6
    (ChangeSpec.witness6 (enc := enc) (C := Try.checked) false ⟨#[], #[.string .empty, .string .empty, .int .i64 0], []⟩ 8 (by kernel_rfl) (by kernel_rfl) (by kernel_rfl) (by kernel_rfl)) ?_
  intro W base args ds gs before hval hW _ hsz _
  exact contract H enc W base args ds gs before hval hW hsz

theorem proved : Rows.FnIsAbsByJoinSaid :=
  OpenClaim.holds_of_wide 6 Try.f6 rfl rfl rfl rfl rfl rfl rfl ⟨rfl, rfl, rfl, rfl, rfl⟩ rfl rfl rfl rfl rfl (by kernel_rfl) Try.func6 (by kernel_rfl)
    (of_decide_eq_true (by kernel_rfl)) (by unfold Func.isWrapper; first | (rw [if_pos (by decide +kernel)]; kernel_rfl) | (rw [if_neg (by decide +kernel)]; exact ⟨rfl, rfl⟩))
    (fun os started H enc _ => lifted os started H enc)
#print axioms proved
end Go.Proofs.Ytflkalhidikhaaa.fnIsAbsByJoin
