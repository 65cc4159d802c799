/-
  PROVED: An empty element more, at any place, makes no difference to Join; its result is empty if and only if all elements are: the law FnJoinLeavesEmptyOut returns true at every slice of strings and every integer. Condition (the second form): what it reads is of bulk at most 1048576.
-/
import Derived.Test.YtgigodblbiiahaaImpl
import Derived.Test.YtgigodblbiiahaaPlain3
import Derived.Test.YtgigodblbiiahaaInsert
namespace Go.Proofs.Ytgigodblbiiahaa.fnJoinLeavesEmptyOut
open Go Go.ChangeShapes Go.WideShapes Go.ChangeAt Go.RowKit
open Go.ChangeMaps (open_string shut_string)
open Go.Proofs.Ytgigodblbiiahaa.Wm (bs)
open Go.Lib

set_option maxHeartbeats 1600000 in
theorem walk (a0 : Option Addr) (len0 cap0 : Nat) (z0 : List ByteArray) (a1 : Int) (w : World) (w0 : Wm.IsStrs w a0 len0 cap0 z0) (b0 : Wm.sumLen z0 + z0.length ≤ 1048576) (_ : -9223372036854775808 ≤ a1 ∧ a1 ≤ 9223372036854775807) :
    Calls Try.prog 11 #[.slice a0 len0 cap0, .int .i64 a1] w fun e w' => e = .returned (.bool true) ∧ Below w.heap.size w w' := by
  have hX := w0.v
  have hsx := Wm.sumLen_take z0 len0
  have hlx := hX.1.1
  have hlx' : (z0.take len0).length ≤ z0.length := by rw [List.length_take]; omega
  generalize z0.take len0 = xs at hX hsx hlx hlx'
  have sx : Wm.sumLen xs + len0 ≤ 1048576 := by omega
  have HX := Lib.hid hX
  have LX := Lib.hid hlx
  clear w0 hX hsx hlx hlx' b0
  obtain ⟨i, hi, hI⟩ := Wm.place_at a1 len0 (by omega)
  have HI := Lib.hid hI
  have HJ := Lib.hid (show Pa.join ((Wm.ins xs i ByteArray.empty).map bs) = Pa.join (xs.map bs) by
    unfold Wm.ins
    rw [List.map_append, List.map_cons]
    have := Wm.join_empty_more ((xs.take i).map bs) ((xs.drop i).map bs)
    rw [← List.map_append, List.take_append_drop] at this
    exact this)
  clear hI
  go_enter Try.func11, Try.ntmps11
  go_wp2_with fail
  rw [HI.out]
  refine (Wm.clone_any a0 len0 cap0 xs _ HX.out (by omega)).mono ?_
  rintro e w1 ⟨v, rfl, hown, hb1⟩
  obtain ⟨a, c, rfl, hv⟩ := hown.v
  have HO := Lib.hid hown
  have HB1 := Lib.hid hb1
  clear hown hb1 hv
  go_wp2_with fail
  refine (Wm.insert_lit w.heap.size _ a c xs ByteArray.empty i w1 rfl HO.out (by rw [LX.out]; exact hi) (by rw [LX.out]; omega) HB1.out.size).mono ?_
  rintro e w2 ⟨a', c', rfl, hs, hb2⟩
  rw [LX.out] at hs
  rw [LX.out]
  have HS := Lib.hid hs
  have HB2 := Lib.hid (HB1.out.trans hb2)
  clear hs hb2 HO HB1
  go_wp2_with fail
  refine (Wm.impl_Join_at a0 len0 cap0 xs _ (HX.out.below HB2.out).1 (by omega)).mono ?_
  rintro e w3 ⟨whole, rfl, hw, hb3⟩
  have HW := Lib.hid hw
  have HB3 := Lib.hid (Wm.next HB2.out hb3)
  have HS3 := Lib.hid (HS.out.below hb3)
  clear hw hb3 HB2 HS
  have hz : (whole.toList.isEmpty = true ∧ (xs.map bs).flatten = []) ∨ (whole.toList.isEmpty = false ∧ (xs.map bs).flatten ≠ []) := by
    by_cases h : Wm.full (xs.map bs) = []
    · exact .inl ⟨Wm.empty_true (by rw [HW.out]; exact (Wm.join_nil_iff _).2 h), (Wm.flatten_nil _).2 h⟩
    · exact .inr ⟨Wm.empty_false (by rw [HW.out]; exact Wm.join_ne h), fun e => h ((Wm.flatten_nil _).1 e)⟩
  obtain ⟨z, tw, hz⟩ : ∃ z, whole.toList.isEmpty = z ∧ ∀ s : ByteArray, bs s = (xs.map bs).flatten → s.toList.isEmpty = z := by
    rcases hz with ⟨h1, h2⟩ | ⟨h1, h2⟩
    · exact ⟨true, h1, fun s hs => Wm.empty_true (hs.trans h2)⟩
    · exact ⟨false, h1, fun s hs => Wm.empty_false (by rw [hs]; exact h2)⟩
  have HZ := Lib.hid hz
  clear hz
  go_wp2_with fail
  refine (Wm.strings_all a0 len0 cap0 xs _ (HX.out.below HB3.out) (by omega)).mono ?_
  rintro e w4 ⟨s, rfl, hs, hb4⟩
  have ts := HZ.out s hs
  have HB4 := Lib.hid (Wm.next HB3.out hb4)
  have HS4 := Lib.hid (HS3.out.below hb4)
  clear hs hb4 HB3 HS3
  have tz : (z == z) = true := by simp
  have hsum : Wm.sumLen (Wm.ins xs i ByteArray.empty) = Wm.sumLen xs := by
    unfold Wm.ins
    rw [Wm.sumLen_append, show ByteArray.empty :: xs.drop i = [ByteArray.empty] ++ xs.drop i from rfl, Wm.sumLen_append, Wm.sumLen_one]
    have : Wm.sumLen (xs.take i) + Wm.sumLen (xs.drop i) = Wm.sumLen xs := by rw [← Wm.sumLen_append, List.take_append_drop]
    show Wm.sumLen (xs.take i) + (0 + Wm.sumLen (xs.drop i)) = _
    omega
  have HSum := Lib.hid hsum
  clear hsum
  go_wp2_with fail
  refine (Wm.impl_Join_at a' (len0 + 1) c' (Wm.ins xs i ByteArray.empty) _ HS4.out (by rw [HSum.out]; omega)).mono ?_
  rintro e w5 ⟨other, rfl, ho, hb5⟩
  have to : (other.toList == whole.toList) = true := Wm.eq_true (by rw [ho, HW.out]; exact HJ.out)
  have HB5 := Lib.hid (Wm.next HB4.out hb5)
  clear ho hb5 HB4 HS4
  go_wp2
  go_ret
  exact ⟨by simp, HB5.out⟩

theorem own : ownKnob Try.prog.godebug = none := by kernel_rfl
theorem laidOut : laidOutB Try.prog = true := by kernel_rfl

theorem contract (H : Type) (enc : TypeId × Value → H) (W : World) (base : Nat) (args : Array Value) (ds gs : List (DataW H)) (before : List MemPlace)
    (hval : ∀ (j : Nat) t v, Try.f11.params[j]? = some t → args[j]? = some v → Value.okWide Try.prog W .any base t v)
    (hW : DataW.Whole enc Try.prog Try.f11.params.toList Rows.fnJoinLeavesEmptyOutSpec.vars false W args.toList ds gs before)
    (hk : Rows.uptoSmall H (ds ++ gs) = true)
    : Calls Try.prog 11 args W fun e W' => ∃ v, e = .returned v ∧ Rows.fnJoinLeavesEmptyOutSpec.post enc Try.prog Try.f11 false true false false W args v W' := by
  have hW' := hW
  obtain ⟨p, q, hA0, hV, rfl, hfz, hnd⟩ := hW
  have hA : DataW.TrodAll enc Try.prog W 0 (fun _ => true) true Try.f11.params.toList args.toList ds p := hA0
  rw [Try.params11] at hA hval
  obtain ⟨v0, vs0, d0, ds0, p0, q0, hargs, rfl, rfl, h0, r0⟩ := trodAll_cons hA
  obtain ⟨v1, vs1, d1, ds1, p1, q1, rfl, rfl, rfl, h1, r1⟩ := trodAll_cons r0
  obtain ⟨rfl, rfl, rfl⟩ := trodAll_nil r1
  obtain rfl : args = #[v0, v1] := by cases args; simp_all
  obtain ⟨rfl, rfl⟩ := trodVars_none hV
  obtain ⟨a0, len0, cap0, rfl⟩ := okWide_slice Try.underlying22 (hval 0 22 v0 rfl rfl)
  have k0 := h0
  have lt0 : ∀ x ∈ p0, x.block < W.heap.size := by obtain ⟨m, hm⟩ := k0; exact DataW.trod_lt m _ _ _ hm
  obtain ⟨z0, w0, e0⟩ : ∃ zs, Wm.IsStrs W a0 len0 cap0 zs ∧ Wm.StrsData zs len0 d0 := by
    obtain ⟨fuel, hf⟩ := h0
    exact Wm.open_strs Try.underlying22 Try.underlying9 (by kernel_rfl) hf
  obtain ⟨a1, rfl, rfl, rfl, w1⟩ := open_int Try.underlying3 (hval 1 3 v1 rfl rfl) h1
  clear hA0
  have hb : Rows.uptoBulkAll _ ≤ 1048576 := of_decide_eq_true hk
  simp only [List.append_nil] at hb
  have b0 : Wm.sumLen z0 + z0.length ≤ 1048576 := Bulk.strs_le e0 hb (by simp)
  have b1 := Wm.bounds_i64 w1
  refine (walk a0 len0 cap0 z0 a1 W w0 b0 b1).mono fun e W' ⟨he, bel⟩ => ?_
  subst he
  exact ⟨_, rfl, _, _, _, [], _, [], hW', trodAll_mk1 (shut_bool Try.underlying4 _), (trodAll_cons_mk (Below.trod laidOut (by kernel_rfl) (of_decide_eq_true (by kernel_rfl)) k0 bel lt0) (trodAll_cons_mk (shut_int Try.underlying3 w1) trodAll_mk0)), rfl, bel.frame _, fun h => by cases h⟩

set_option maxRecDepth 100000 in
theorem lifted (os : Os) (started : os.Started) (H : Type) (enc : TypeId × Value → H) (F : Stop.Interp) :
    ReturnsInHanded {} Try.checked os 11 .any ((Rows.OpenSpec.upto Rows.fnJoinLeavesEmptyOutSpec).pre6 enc Try.prog Try.f11 Rows.fnJoinLeavesEmptyOutUptoRow.domain false) (((Rows.OpenSpec.upto Rows.fnJoinLeavesEmptyOutSpec).at F).post enc Try.prog Try.f11 false true false false) := by
  refine returnsInHanded_of_cond (C := Try.checked) (s := Rows.OpenSpec.upto Rows.fnJoinLeavesEmptyOutSpec) (k := Rows.uptoSmall) rfl own started (by kernel_rfl) Try.func11
    (OpenSpec.witness (enc := enc) (C := Try.checked) (s := Rows.OpenSpec.upto Rows.fnJoinLeavesEmptyOutSpec) (k := Rows.uptoSmall) rfl false ⟨#[], #[.slice none 0 0, .int .i64 0], []⟩ 8 (by kernel_rfl) (by kernel_rfl) (by kernel_rfl)
      (x := ([.nil, .lit (.int .i64 0)], [], [])) (by kernel_rfl) rfl (by kernel_rfl)) ?_
  intro W base args ds gs before hval hW _ hk _
  exact contract H enc W base args ds gs before hval hW hk

theorem proved : Rows.FnJoinLeavesEmptyOutUptoSaid :=
  OpenClaim.holds_of_cond 11 Try.f11 rfl rfl rfl rfl rfl rfl rfl ⟨rfl, rfl, rfl, rfl, rfl⟩ rfl rfl rfl rfl rfl (by kernel_rfl) Try.func11 (by kernel_rfl)
    (of_decide_eq_true (by kernel_rfl)) (by unfold Func.isWrapper; first | (rw [if_pos (by decide +kernel)]; kernel_rfl) | (rw [if_neg (by decide +kernel)]; exact ⟨rfl, rfl⟩))
    (fun os started H enc _ F => lifted os started H enc F)
#print axioms proved
end Go.Proofs.Ytgigodblbiiahaa.fnJoinLeavesEmptyOut
