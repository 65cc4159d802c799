/-
  PROVED: Dir returns what is left without the last element, cleaned: the law FnDir returns true at every string. Condition (the second form): what it reads is of bulk at most 1048576.
-/
import Derived.Test.YtoaepbobbfgbgaaImpl
import Derived.Test.YtoaepbobbfgbgaaSpecE
namespace Go.Proofs.Ytoaepbobbfgbgaa.fnDir
open Go Go.ChangeShapes Go.WideShapes Go.ChangeAt Go.RowKit
open Go.ChangeMaps (open_string shut_string)
open Go.Proofs.Ytoaepbobbfgbgaa.Wm (bs)
open Go.Lib

set_option maxHeartbeats 400000 in
theorem walk (a0 : ByteArray) (w : World) (b0 : a0.size ≤ 1048576) :
    Calls Try.prog 11 #[.string a0] w fun e w' => e = .returned (.bool true) ∧ Below w.heap.size w w' := by
  have HB := Lib.hid (Below.refl w.heap.size w)
  go_enter Try.func11, Try.ntmps11
  go_wp2_with fail
  refine (Wm.impl_Dir a0 _ (by omega)).mono ?_
  rintro e w1 ⟨c, rfl, hc, hb1⟩
  have HB1 := Lib.hid (Wm.next HB.out hb1)
  have HC := Lib.hid hc
  clear hc hb1
  go_wp2_with fail
  refine (Wm.spec_Dir a0 _ (by omega)).mono ?_
  rintro e w2 ⟨c2, rfl, hc2, hb2⟩
  have HB2 := Lib.hid (Wm.next HB1.out hb2)
  have t1 : (c.toList == c2.toList) = true := Wm.eq_true (HC.out.trans hc2.symm)
  clear hc2 hb2
  go_wp2
  go_ret
  exact ⟨by simp, HB2.out⟩

theorem own : ownKnob Try.prog.godebug = none := by kernel_rfl

theorem contract (H : Type) (enc : TypeId × Value → H) (W : World) (base : Nat) (args : Array Value) (ds gs : List (DataW H)) (before : List MemPlace)
    (hval : ∀ (j : Nat) t v, Try.f11.params[j]? = some t → args[j]? = some v → Value.okWide Try.prog W .any base t v)
    (hW : DataW.Whole enc Try.prog Try.f11.params.toList Rows.fnDirSpec.vars false W args.toList ds gs before)
    (hk : Rows.uptoSmall H (ds ++ gs) = true)
    : Calls Try.prog 11 args W fun e W' => ∃ v, e = .returned v ∧ Rows.fnDirSpec.post enc Try.prog Try.f11 false true false false W args v W' := by
  have hW' := hW
  obtain ⟨p, q, hA0, hV, rfl, hfz, hnd⟩ := hW
  have hA : DataW.TrodAll enc Try.prog W 0 (fun _ => true) true Try.f11.params.toList args.toList ds p := hA0
  rw [Try.params11] at hA hval
  obtain ⟨v0, vs0, d0, ds0, p0, q0, hargs, rfl, rfl, h0, r0⟩ := trodAll_cons hA
  obtain ⟨rfl, rfl, rfl⟩ := trodAll_nil r0
  obtain rfl : args = #[v0] := by cases args; simp_all
  obtain ⟨rfl, rfl⟩ := trodVars_none hV
  obtain ⟨a0, rfl, rfl, rfl, w0⟩ := open_string Try.underlying9 (hval 0 9 v0 rfl rfl) h0
  clear hA0
  have hb : Rows.uptoBulkAll _ ≤ 1048576 := of_decide_eq_true hk
  simp only [List.append_nil] at hb
  have b0 : a0.size ≤ 1048576 := Bulk.str_le hb (by simp)
  refine (walk a0 W b0).mono fun e W' ⟨he, bel⟩ => ?_
  subst he
  exact ⟨_, rfl, _, _, _, [], _, [], hW', trodAll_mk1 (shut_bool Try.underlying4 _), (trodAll_cons_mk (shut_string Try.underlying9 w0) trodAll_mk0), rfl, bel.frame _, fun h => by cases h⟩

set_option maxRecDepth 100000 in
theorem lifted (os : Os) (started : os.Started) (H : Type) (enc : TypeId × Value → H) (F : Stop.Interp) :
    ReturnsInHanded {} Try.checked os 11 .any ((Rows.OpenSpec.upto Rows.fnDirSpec).pre6 enc Try.prog Try.f11 Rows.fnDirUptoRow.domain false) (((Rows.OpenSpec.upto Rows.fnDirSpec).at F).post enc Try.prog Try.f11 false true false false) := by
  refine returnsInHanded_of_cond (C := Try.checked) (s := Rows.OpenSpec.upto Rows.fnDirSpec) (k := Rows.uptoSmall) rfl own started (by kernel_rfl) Try.func11
    (OpenSpec.witness (enc := enc) (C := Try.checked) (s := Rows.OpenSpec.upto Rows.fnDirSpec) (k := Rows.uptoSmall) rfl false ⟨#[], #[.string .empty], []⟩ 8 (by kernel_rfl) (by kernel_rfl) (by kernel_rfl)
      (x := ([.lit (.string [])], [], [])) (by kernel_rfl) rfl (by kernel_rfl)) ?_
  intro W base args ds gs before hval hW _ hk _
  exact contract H enc W base args ds gs before hval hW hk

theorem proved : Rows.FnDirUptoSaid :=
  OpenClaim.holds_of_cond 11 Try.f11 rfl rfl rfl rfl rfl rfl rfl ⟨rfl, rfl, rfl, rfl, rfl⟩ rfl rfl rfl rfl rfl (by kernel_rfl) Try.func11 (by kernel_rfl)
    (of_decide_eq_true (by kernel_rfl)) (by unfold Func.isWrapper; first | (rw [if_pos (by decide +kernel)]; kernel_rfl) | (rw [if_neg (by decide +kernel)]; exact ⟨rfl, rfl⟩))
    (fun os started H enc _ F => lifted os started H enc F)
#print axioms proved
end Go.Proofs.Ytoaepbobbfgbgaa.fnDir
