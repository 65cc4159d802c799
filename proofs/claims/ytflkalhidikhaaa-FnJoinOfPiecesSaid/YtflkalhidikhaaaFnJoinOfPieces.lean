/-
  PROVED: To cut a path at a slash that is not its first byte, and to join the pieces, is to clean the path; the result is not empty: the law FnJoinOfPieces returns true at every string and every integer. Conditions: none beyond the form's own reach.
-/
import Derived.Test.YtflkalhidikhaaaImpl
import Derived.Test.YtflkalhidikhaaaPlain3
import Derived.Test.YtflkalhidikhaaaCut
namespace Go.Proofs.Ytflkalhidikhaaa.fnJoinOfPieces
open Go Go.ChangeShapes Go.WideShapes Go.ChangeAt Go.RowKit
open Go.ChangeMaps (open_string shut_string)
open Go.Proofs.Ytflkalhidikhaaa.Wm (bs)
open Go.Lib

set_option maxHeartbeats 800000 in
theorem walk (a0 : ByteArray) (a1 : Int) (w : World) (b0 : a0.size ≤ 140737488351232) (_ : -9223372036854775808 ≤ a1 ∧ a1 ≤ 9223372036854775807) :
    Calls Try.prog 13 #[.string a0, .int .i64 a1] w fun e w' => e = .returned (.bool true) ∧ Below w.heap.size w w' := by
  go_enter Try.func13, Try.ntmps13
  go_wp2_with fail
  refine (Wm.cut_any a0 a1 _ b0).mono ?_
  rintro e w1 ⟨a, b, ok, rfl, hok, hb1⟩
  have HO := Lib.hid hok
  clear hok
  go_wp2_with fail
  refine (Wm.impl_Clean a0 _ (by omega)).mono ?_
  rintro e w2 ⟨c, rfl, hc, hb2⟩
  have tc : c.toList.isEmpty = false := Wm.empty_false (by rw [hc]; exact Wm.clean_ne _)
  have HC := Lib.hid hc
  have HB := Lib.hid (Wm.next hb1 hb2)
  clear hc hb1 hb2
  cases ok with
  | false =>
    go_wp2
    go_ret
    exact ⟨by simp, HB.out⟩
  | true =>
    have HP := Lib.hid (HO.out rfl)
    clear HO
    by_cases h0 : bs a = []
    · have t0 := Wm.empty_true h0
      clear h0
      go_wp2
      go_ret
      exact ⟨by simp, HB.out⟩
    · have t0 := Wm.empty_false h0
      have HE := Lib.hid (show Pa.join ([a, b].map bs) = Pa.clean (bs a0) by rw [HP.out]; exact Wm.join_pieces _ h0)
      clear h0
      have hl : a.size + (1 + b.size) = a0.size := by
        rw [Wm.size_bs a, Wm.size_bs b, Wm.size_bs a0, HP.out]; simp; omega
      have hab : a.size + b.size + 2 ≤ 281474976710656 := by omega
      clear hl
      go_wp2_with fail
      refine (Wm.impl_Join_at _ 2 2 [a, b] _ (Wm.strsAt_lit w2 [a, b] 9) (by simp [Wm.sumLen]; omega)).mono ?_
      rintro e w3 ⟨x, rfl, hx, hb3⟩
      have t1 : (x.toList == c.toList) = true := Wm.eq_true (by rw [hx, HE.out, HC.out])
      have HB3 := Lib.hid (Wm.next (HB.out.alloc HB.out.size _) hb3)
      clear hx hb3 HB
      go_wp2
      go_ret
      exact ⟨by simp, HB3.out⟩

theorem own : ownKnob Try.prog.godebug = none := by kernel_rfl

theorem contract (H : Type) (enc : TypeId × Value → H) (W : World) (base : Nat) (args : Array Value) (ds gs : List (DataW H)) (before : List MemPlace)
    (hval : ∀ (j : Nat) t v, Try.f13.params[j]? = some t → args[j]? = some v → Value.okWide Try.prog W .any base t v)
    (hW : DataW.Whole enc Try.prog Try.f13.params.toList Rows.fnJoinOfPiecesSpec.vars false W args.toList ds gs before)
    (hsz : (DataW.weightsEach Try.prog (Try.f13.params.toList ++ Rows.fnJoinOfPiecesSpec.plain.varTypes Try.prog) (ds ++ gs)).all (· ≤ reachBytes) = true)
    : Calls Try.prog 13 args W fun e W' => ∃ v, e = .returned v ∧ Rows.fnJoinOfPiecesSpec.post enc Try.prog Try.f13 false true false false W args v W' := by
  have hW' := hW
  obtain ⟨p, q, hA0, hV, rfl, hfz, hnd⟩ := hW
  have hA : DataW.TrodAll enc Try.prog W 0 (fun _ => true) true Try.f13.params.toList args.toList ds p := hA0
  rw [Try.params13] at hA hval hsz
  obtain ⟨v0, vs0, d0, ds0, p0, q0, hargs, rfl, rfl, h0, r0⟩ := trodAll_cons hA
  obtain ⟨v1, vs1, d1, ds1, p1, q1, rfl, rfl, rfl, h1, r1⟩ := trodAll_cons r0
  obtain ⟨rfl, rfl, rfl⟩ := trodAll_nil r1
  obtain rfl : args = #[v0, v1] := by cases args; simp_all
  obtain ⟨rfl, rfl⟩ := trodVars_none hV
  obtain ⟨a0, rfl, rfl, rfl, w0⟩ := open_string Try.underlying9 (hval 0 9 v0 rfl rfl) h0
  obtain ⟨a1, rfl, rfl, rfl, w1⟩ := open_int Try.underlying3 (hval 1 3 v1 rfl rfl) h1
  clear hA0
  have b0 : a0.size ≤ 140737488351232 := by have h := sized_string hsz (j := 0) (t := 9) rfl rfl; rw [Lib.size_eq]; exact h
  have b1 := Wm.bounds_i64 w1
  refine (walk a0 a1 W b0 b1).mono fun e W' ⟨he, bel⟩ => ?_
  subst he
  exact ⟨_, rfl, _, _, _, [], _, [], hW', trodAll_mk1 (shut_bool Try.underlying4 _), (trodAll_cons_mk (shut_string Try.underlying9 w0) (trodAll_cons_mk (shut_int Try.underlying3 w1) trodAll_mk0)), rfl, bel.frame _, fun h => by cases h⟩

set_option maxRecDepth 100000 in
theorem lifted (os : Os) (started : os.Started) (H : Type) (enc : TypeId × Value → H) :
    ReturnsInHanded {} Try.checked os 13 .any (Rows.fnJoinOfPiecesSpec.pre6 enc Try.prog Try.f13 Rows.fnJoinOfPiecesRow.domain false) (Rows.fnJoinOfPiecesSpec.post enc Try.prog Try.f13 false true false false) := by
  refine returnsInHanded_of_change_sized (C := Try.checked) own started (by kernel_rfl) Try.func13
    (ChangeSpec.witness6 (enc := enc) (C := Try.checked) false ⟨#[], #[.string .empty, .int .i64 0], []⟩ 8 (by kernel_rfl) (by kernel_rfl) (by kernel_rfl) (by kernel_rfl)) ?_
  intro W base args ds gs before hval hW _ hsz _
  exact contract H enc W base args ds gs before hval hW hsz

theorem proved : Rows.FnJoinOfPiecesSaid :=
  OpenClaim.holds_of_wide 13 Try.f13 rfl rfl rfl rfl rfl rfl rfl ⟨rfl, rfl, rfl, rfl, rfl⟩ rfl rfl rfl rfl rfl (by kernel_rfl) Try.func13 (by kernel_rfl)
    (of_decide_eq_true (by kernel_rfl)) (by unfold Func.isWrapper; first | (rw [if_pos (by decide +kernel)]; kernel_rfl) | (rw [if_neg (by decide +kernel)]; exact ⟨rfl, rfl⟩))
    (fun os started H enc _ => lifted os started H enc)
#print axioms proved
end Go.Proofs.Ytflkalhidikhaaa.fnJoinOfPieces
