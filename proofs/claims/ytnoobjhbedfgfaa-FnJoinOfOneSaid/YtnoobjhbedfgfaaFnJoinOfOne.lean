/-
  PROVED: Join of one element that is not empty is Clean, and not empty; Join of nothing, and of empty elements, is the empty string: the law FnJoinOfOne returns true at every string and every integer. Conditions: none beyond the form's own reach.
-/
import Derived.Test.YtnoobjhbedfgfaaImpl
import Derived.Test.YtnoobjhbedfgfaaPlain2
namespace Go.Proofs.Ytnoobjhbedfgfaa.fnJoinOfOne
open Go Go.ChangeShapes Go.WideShapes Go.ChangeAt Go.RowKit
open Go.ChangeMaps (open_string shut_string)
open Go.Proofs.Ytnoobjhbedfgfaa.Wm (bs)
open Go.Lib

theorem join_empties (n : Nat) : Pa.join ((List.replicate n ByteArray.empty).map bs) = [] := by
  rw [Wm.join_nil_iff, Wm.full_nil_iff]
  intro x hx
  simp at hx
  exact hx.2
theorem sum_empties (n : Nat) : Wm.sumLen (List.replicate n ByteArray.empty) = 0 := by
  unfold Wm.sumLen
  induction n with
  | zero => rfl
  | succ n ih => rw [List.replicate_succ, List.map_cons, List.sum_cons, ih]; rfl

theorem info_str : (Try.prog.info? 9).map (fun i => (i.zero, i.size, i.bytes)) = some (some (.string ByteArray.empty), 1, 16) := by kernel_rfl

set_option maxHeartbeats 800000 in
theorem walk (a0 : ByteArray) (a1 : Int) (w : World) (b0 : a0.size ≤ 140737488351232) (_ : -9223372036854775808 ≤ a1 ∧ a1 ≤ 9223372036854775807) :
    Calls Try.prog 10 #[.string a0, .int .i64 a1] w fun e w' => e = .returned (.bool true) ∧ Below w.heap.size w w' := by
  obtain ⟨n, hn⟩ : ∃ n : Nat, max (a1.tmod 50) 0 = (n : Int) := ⟨(max (a1.tmod 50) 0).toNat, by omega⟩
  have hn49 : n ≤ 50 := by have := Int.tmod_lt_of_pos a1 (show (0 : Int) < 50 by decide); omega
  have HN := Lib.hid hn
  clear hn
  obtain ⟨i0, hi, hz0, hz1, hz2⟩ := info_parts info_str
  go_enter Try.func10, Try.ntmps10
  go_wp2_with (refine wpList_make_full _ rfl _ _ 27 rfl w.heap.size 9 i0 (.string .empty) 1 Try.underlying27 hi hz0 hz1 .i64 .i64 _ _ n rfl rfl HN.out HN.out (by rw [hz2]; omega) (by unfold maxLen; omega) (Nat.le_refl _) ?_; intro w1 hown hgrow)
  have hb1 : Below w.heap.size w w1 := (Below.refl _ _).grown hgrow (Nat.le_refl _) (fun k h => by cases h)
  rw [show (Value.string ByteArray.empty).cells = #[Value.string ByteArray.empty] from rfl, toList_madeCells_one, Nat.mul_one, ← List.map_replicate] at hown
  have hS := Wm.strsAt_own hown
  clear hown hgrow hi hz0 hz1 hz2
  refine (Wm.impl_Clean a0 _ (by omega)).mono ?_
  rintro e w2 ⟨c, rfl, hc, hb2⟩
  have tc : c.toList.isEmpty = false := Wm.empty_false (by rw [hc]; exact Wm.clean_ne _)
  have hS2 := Lib.hid (hS.below hb2)
  have HC := Lib.hid hc
  have HB2 := Lib.hid (Wm.next hb1 hb2)
  clear hS hc hb1 hb2
  go_wp2_with fail
  refine (Wm.impl_Join_at _ n n (List.replicate n ByteArray.empty) _ hS2.out (by rw [sum_empties]; omega)).mono ?_
  rintro e w3 ⟨j, rfl, hj, hb3⟩
  have tj : j.toList.isEmpty = true := Wm.empty_true (by rw [hj]; exact join_empties n)
  have HB3 := Lib.hid (Wm.next HB2.out hb3)
  clear hj hb3 hS2 HB2
  by_cases h0 : bs a0 = []
  · have t0 := Wm.empty_true h0
    clear h0
    go_wp2
    go_ret
    exact ⟨by simp, HB3.out⟩
  · have t0 := Wm.empty_false h0
    have H0 := Lib.hid h0
    clear h0
    go_wp2_with fail
    refine (Wm.impl_Join_at _ 1 1 [a0] _ (Wm.strsAt_lit w3 [a0] 9) (by simp [Wm.sumLen]; omega)).mono ?_
    rintro e w4 ⟨x, rfl, hx, hb4⟩
    have t1 : (x.toList == c.toList) = true := Wm.eq_true (by rw [hx, HC.out]; exact Wm.join_one H0.out)
    have HB4 := Lib.hid (Wm.next (HB3.out.alloc HB3.out.size _) hb4)
    clear hx hb4 HB3
    go_wp2
    go_ret
    exact ⟨by simp, HB4.out⟩

theorem own : ownKnob Try.prog.godebug = none := by kernel_rfl

theorem contract (H : Type) (enc : TypeId × Value → H) (W : World) (base : Nat) (args : Array Value) (ds gs : List (DataW H)) (before : List MemPlace)
    (hval : ∀ (j : Nat) t v, Try.f10.params[j]? = some t → args[j]? = some v → Value.okWide Try.prog W .any base t v)
    (hW : DataW.Whole enc Try.prog Try.f10.params.toList Rows.fnJoinOfOneSpec.vars false W args.toList ds gs before)
    (hsz : (DataW.weightsEach Try.prog (Try.f10.params.toList ++ Rows.fnJoinOfOneSpec.plain.varTypes Try.prog) (ds ++ gs)).all (· ≤ reachBytes) = true)
    : Calls Try.prog 10 args W fun e W' => ∃ v, e = .returned v ∧ Rows.fnJoinOfOneSpec.post enc Try.prog Try.f10 false true false false W args v W' := by
  have hW' := hW
  obtain ⟨p, q, hA0, hV, rfl, hfz, hnd⟩ := hW
  have hA : DataW.TrodAll enc Try.prog W 0 (fun _ => true) true Try.f10.params.toList args.toList ds p := hA0
  rw [Try.params10] at hA hval hsz
  obtain ⟨v0, vs0, d0, ds0, p0, q0, hargs, rfl, rfl, h0, r0⟩ := trodAll_cons hA
  obtain ⟨v1, vs1, d1, ds1, p1, q1, rfl, rfl, rfl, h1, r1⟩ := trodAll_cons r0
  obtain ⟨rfl, rfl, rfl⟩ := trodAll_nil r1
  obtain rfl : args = #[v0, v1] := by cases args; simp_all
  obtain ⟨rfl, rfl⟩ := trodVars_none hV
  obtain ⟨a0, rfl, rfl, rfl, w0⟩ := open_string Try.underlying9 (hval 0 9 v0 rfl rfl) h0
  obtain ⟨a1, rfl, rfl, rfl, w1⟩ := open_int Try.underlying3 (hval 1 3 v1 rfl rfl) h1
  clear hA0
  have b0 : a0.size ≤ 140737488351232 := by have h := sized_string hsz (j := 0) (t := 9) rfl rfl; rw [Lib.size_eq]; exact h
  have b1 := Wm.bounds_i64 w1
  refine (walk a0 a1 W b0 b1).mono fun e W' ⟨he, bel⟩ => ?_
  subst he
  exact ⟨_, rfl, _, _, _, [], _, [], hW', trodAll_mk1 (shut_bool Try.underlying4 _), (trodAll_cons_mk (shut_string Try.underlying9 w0) (trodAll_cons_mk (shut_int Try.underlying3 w1) trodAll_mk0)), rfl, bel.frame _, fun h => by cases h⟩

set_option maxRecDepth 100000 in
theorem lifted (os : Os) (started : os.Started) (H : Type) (enc : TypeId × Value → H) :
    ReturnsInHanded {} Try.checked os 10 .any (Rows.fnJoinOfOneSpec.pre6 enc Try.prog Try.f10 Rows.fnJoinOfOneRow.domain false) (Rows.fnJoinOfOneSpec.post enc Try.prog Try.f10 false true false false) := by
  refine returnsInHanded_of_change_sized (C := Try.checked) own started (by kernel_rfl) Try.func10
    (ChangeSpec.witness6 (enc := enc) (C := Try.checked) false ⟨#[], #[.string .empty, .int .i64 0], []⟩ 8 (by kernel_rfl) (by kernel_rfl) (by kernel_rfl) (by kernel_rfl)) ?_
  intro W base args ds gs before hval hW _ hsz _
  exact contract H enc W base args ds gs before hval hW hsz

theorem proved : Rows.FnJoinOfOneSaid :=
  OpenClaim.holds_of_wide 10 Try.f10 rfl rfl rfl rfl rfl rfl rfl ⟨rfl, rfl, rfl, rfl, rfl⟩ rfl rfl rfl rfl rfl (by kernel_rfl) Try.func10 (by kernel_rfl)
    (of_decide_eq_true (by kernel_rfl)) (by unfold Func.isWrapper; first | (rw [if_pos (by decide +kernel)]; kernel_rfl) | (rw [if_neg (by decide +kernel)]; exact ⟨rfl, rfl⟩))
    (fun os started H enc _ => lifted os started H enc)
#print axioms proved
end Go.Proofs.Ytnoobjhbedfgfaa.fnJoinOfOne
