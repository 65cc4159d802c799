/-
  PROVED: Two paths have the same result of Clean if and only if they lead to the same place: the law FnCleanDecides returns true at every pair of strings. Condition (the second form): what it reads is of bulk at most 1048576.
-/
import Derived.Test.YtoaepbobbfgbgaaImpl
import Derived.Test.YtoaepbobbfgbgaaSpecG
namespace Go.Proofs.Ytoaepbobbfgbgaa.fnCleanDecides
open Go Go.ChangeShapes Go.WideShapes Go.ChangeAt Go.RowKit
open Go.ChangeMaps (open_string shut_string)
open Go.Proofs.Ytoaepbobbfgbgaa.Wm (bs)
open Go.Lib

set_option maxHeartbeats 400000 in
theorem walk (a0 a1 : ByteArray) (w : World) (b0 : a0.size ≤ 1048576) (b1 : a1.size ≤ 1048576) :
    Calls Try.prog 7 #[.string a0, .string a1] w fun e w' => e = .returned (.bool true) ∧ Below w.heap.size w w' := by
  have HB := Lib.hid (Below.refl w.heap.size w)
  go_enter Try.func7, Try.ntmps7
  go_wp2_with fail
  refine (Wm.impl_Clean a0 _ (by omega)).mono ?_
  rintro e w1 ⟨c, rfl, hc, hb1⟩
  have HB1 := Lib.hid (Wm.next HB.out hb1)
  have HC := Lib.hid hc
  clear hc hb1
  go_wp2_with fail
  refine (Wm.impl_Clean a1 _ (by omega)).mono ?_
  rintro e w2 ⟨d, rfl, hd, hb2⟩
  have HB2 := Lib.hid (Wm.next HB1.out hb2)
  obtain ⟨r, hr⟩ : ∃ r, (c.toList == d.toList) = r := ⟨_, rfl⟩
  have HR := Lib.hid (show r = decide (Pa.clean (bs a0) = Pa.clean (bs a1)) by rw [← hr, Wm.eq_beq, HC.out, hd]; exact Bool.eq_iff_iff.2 (by simp))
  clear hd hb2
  go_wp2_with fail
  refine (Wm.alike_any a0 a1 _ (by omega) (by omega) r HR.out).mono ?_
  rintro e w3 ⟨rfl, hb3⟩
  have HB3 := Lib.hid (Wm.next HB2.out hb3)
  have trr : (r == r) = true := by simp
  clear hb3
  go_wp2
  go_ret
  exact ⟨by simp, HB3.out⟩

theorem own : ownKnob Try.prog.godebug = none := by kernel_rfl

theorem contract (H : Type) (enc : TypeId × Value → H) (W : World) (base : Nat) (args : Array Value) (ds gs : List (DataW H)) (before : List MemPlace)
    (hval : ∀ (j : Nat) t v, Try.f7.params[j]? = some t → args[j]? = some v → Value.okWide Try.prog W .any base t v)
    (hW : DataW.Whole enc Try.prog Try.f7.params.toList Rows.fnCleanDecidesSpec.vars false W args.toList ds gs before)
    (hk : Rows.uptoSmall H (ds ++ gs) = true)
    : Calls Try.prog 7 args W fun e W' => ∃ v, e = .returned v ∧ Rows.fnCleanDecidesSpec.post enc Try.prog Try.f7 false true false false W args v W' := by
  have hW' := hW
  obtain ⟨p, q, hA0, hV, rfl, hfz, hnd⟩ := hW
  have hA : DataW.TrodAll enc Try.prog W 0 (fun _ => true) true Try.f7.params.toList args.toList ds p := hA0
  rw [Try.params7] at hA hval
  obtain ⟨v0, vs0, d0, ds0, p0, q0, hargs, rfl, rfl, h0, r0⟩ := trodAll_cons hA
  obtain ⟨v1, vs1, d1, ds1, p1, q1, rfl, rfl, rfl, h1, r1⟩ := trodAll_cons r0
  obtain ⟨rfl, rfl, rfl⟩ := trodAll_nil r1
  obtain rfl : args = #[v0, v1] := by cases args; simp_all
  obtain ⟨rfl, rfl⟩ := trodVars_none hV
  obtain ⟨a0, rfl, rfl, rfl, w0⟩ := open_string Try.underlying9 (hval 0 9 v0 rfl rfl) h0
  obtain ⟨a1, rfl, rfl, rfl, w1⟩ := open_string Try.underlying9 (hval 1 9 v1 rfl rfl) h1
  clear hA0
  have hb : Rows.uptoBulkAll _ ≤ 1048576 := of_decide_eq_true hk
  simp only [List.append_nil] at hb
  have b0 : a0.size ≤ 1048576 := Bulk.str_le hb (by simp)
  have b1 : a1.size ≤ 1048576 := Bulk.str_le hb (by simp)
  refine (walk a0 a1 W b0 b1).mono fun e W' ⟨he, bel⟩ => ?_
  subst he
  exact ⟨_, rfl, _, _, _, [], _, [], hW', trodAll_mk1 (shut_bool Try.underlying4 _), (trodAll_cons_mk (shut_string Try.underlying9 w0) (trodAll_cons_mk (shut_string Try.underlying9 w1) trodAll_mk0)), rfl, bel.frame _, fun h => by cases h⟩

set_option maxRecDepth 100000 in
theorem lifted (os : Os) (started : os.Started) (H : Type) (enc : TypeId × Value → H) (F : Stop.Interp) :
    ReturnsInHanded {} Try.checked os 7 .any ((Rows.OpenSpec.upto Rows.fnCleanDecidesSpec).pre6 enc Try.prog Try.f7 Rows.fnCleanDecidesUptoRow.domain false) (((Rows.OpenSpec.upto Rows.fnCleanDecidesSpec).at F).post enc Try.prog Try.f7 false true false false) := by
  refine returnsInHanded_of_cond (C := Try.checked) (s := Rows.OpenSpec.upto Rows.fnCleanDecidesSpec) (k := Rows.uptoSmall) rfl own started (by kernel_rfl) Try.func7
    (OpenSpec.witness (enc := enc) (C := Try.checked) (s := Rows.OpenSpec.upto Rows.fnCleanDecidesSpec) (k := Rows.uptoSmall) rfl false ⟨#[], #[.string .empty, .string .empty], []⟩ 8 (by kernel_rfl) (by kernel_rfl) (by kernel_rfl)
      (x := ([.lit (.string []), .lit (.string [])], [], [])) (by kernel_rfl) rfl (by kernel_rfl)) ?_
  intro W base args ds gs before hval hW _ hk _
  exact contract H enc W base args ds gs before hval hW hk

theorem proved : Rows.FnCleanDecidesUptoSaid :=
  OpenClaim.holds_of_cond 7 Try.f7 rfl rfl rfl rfl rfl rfl rfl ⟨rfl, rfl, rfl, rfl, rfl⟩ rfl rfl rfl rfl rfl (by kernel_rfl) Try.func7 (by kernel_rfl)
    (of_decide_eq_true (by kernel_rfl)) (by unfold Func.isWrapper; first | (rw [if_pos (by decide +kernel)]; kernel_rfl) | (rw [if_neg (by decide +kernel)]; exact ⟨rfl, rfl⟩))
    (fun os started H enc _ F => lifted os started H enc F)
#print axioms proved
end Go.Proofs.Ytoaepbobbfgbgaa.fnCleanDecides
