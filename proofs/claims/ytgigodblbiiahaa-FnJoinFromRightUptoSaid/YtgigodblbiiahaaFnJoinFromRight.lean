/-
  PROVED: To join the last elements first makes no difference, unless the first one of them that is not empty is absolute; the result is empty if and only if all elements are: the law FnJoinFromRight returns true at every pair of slices of strings. Condition (the second form): what it reads is of bulk at most 1048576.
-/
import Derived.Test.YtgigodblbiiahaaImpl
import Derived.Test.YtgigodblbiiahaaPlain3
import Derived.Test.YtgigodblbiiahaaSlices
namespace Go.Proofs.Ytgigodblbiiahaa.fnJoinFromRight
open Go Go.ChangeShapes Go.WideShapes Go.ChangeAt Go.RowKit
open Go.ChangeMaps (open_string shut_string)
open Go.Proofs.Ytgigodblbiiahaa.Wm (bs)
open Go.Lib

set_option maxHeartbeats 3200000 in
theorem walk (a0 : Option Addr) (len0 cap0 : Nat) (z0 : List ByteArray) (a1 : Option Addr) (len1 cap1 : Nat) (z1 : List ByteArray) (w : World) (w0 : Wm.IsStrs w a0 len0 cap0 z0) (b0 : Wm.sumLen z0 + z0.length ≤ 1048576) (w1 : Wm.IsStrs w a1 len1 cap1 z1) (b1 : Wm.sumLen z1 + z1.length ≤ 1048576) :
    Calls Try.prog 8 #[.slice a0 len0 cap0, .slice a1 len1 cap1] w fun e w' => e = .returned (.bool true) ∧ Below w.heap.size w w' := by
  have hX := w0.v
  have hY := w1.v
  have hsx := Wm.sumLen_take z0 len0
  have hsy := Wm.sumLen_take z1 len1
  have hlx := hX.1.1
  have hly := hY.1.1
  have hlx' : (z0.take len0).length ≤ z0.length := by rw [List.length_take]; omega
  have hly' : (z1.take len1).length ≤ z1.length := by rw [List.length_take]; omega
  generalize z0.take len0 = xs at hX hsx hlx hlx'
  generalize z1.take len1 = ys at hY hsy hly hly'
  have sx : Wm.sumLen xs + len0 ≤ 1048576 := by omega
  have sy : Wm.sumLen ys + len1 ≤ 1048576 := by omega
  have HX := Lib.hid hX
  have HY := Lib.hid hY
  have LX := Lib.hid hlx
  have LY := Lib.hid hly
  clear w0 w1 hX hY hsx hsy hlx hly hlx' hly' b0 b1
  go_enter Try.func8, Try.ntmps8
  go_wp2
  go_loop [11] (fun i => ∃ k : Nat, k ≤ len1 ∧ i = .int .i64 k ∧ Hid (Wm.fstOf ((ys.take k).map bs) = [])) (fun i => len1 - (RowKit.intOf i).toNat)
  case atStart => exact ⟨0, Nat.zero_le _, rfl, rfl⟩
  case round =>
    obtain ⟨k, hk, rfl, hs⟩ := hrel
    by_cases hlt : k < len1
    · obtain ⟨b, o, rfl, hb, hcells⟩ := HY.out.1.addr (by omega)
      have hkx : k < ys.length := by have := LY.out; omega
      have hcell := hcells k _ (List.getElem?_eq_getElem hkx)
      have HE := Lib.hid (show ys.take (k + 1) = ys.take k ++ [ys[k]] from List.take_succ_eq_append_getElem hkx)
      generalize ys[k] = x at hcell HE
      clear hcells hb
      have HN : Hid (Wm.fstOf ((ys.take (k + 1)).map bs) = bs x) := by
        show _ = _
        rw [HE.out, List.map_append, List.map_cons, List.map_nil, Wm.fstOf_snoc, if_pos hs.out]
      by_cases h0 : bs x = []
      · have t0 := Wm.empty_true h0
        have HR : Hid (Wm.fstOf ((ys.take (k + 1)).map bs) = []) := by show _ = _; rw [HN.out, h0]
        clear h0
        go_wp2
        go_round
        case rel => exact ⟨k + 1, by omega, by go_num, HR⟩
        case measure => simp [RowKit.intOf]; omega
      · have t0 := Wm.empty_false h0
        have hfst : Wm.fstOf (ys.map bs) = bs x := by
          have e : ys.map bs = (ys.take (k + 1)).map bs ++ (ys.drop (k + 1)).map bs := by rw [← List.map_append, List.take_append_drop]
          rw [e, Wm.fstOf_append, HN.out, if_neg h0]
        clear h0
        cases hr : Pa.isAbs (bs x) with
        | true =>
          have HR := Lib.hid hr
          clear hr hfst
          go_wp2_with fail
          refine (Wm.hasPrefix_slash x _ true HR.out).mono ?_
          rintro e w2 ⟨rfl, rfl⟩
          go_wp2
          go_ret
          exact ⟨rfl, Below.refl _ _⟩
        | false =>
          have HR := Lib.hid hr
          have HF := Lib.hid (show Pa.isAbs (Wm.fstOf (ys.map bs)) = false by rw [hfst, hr])
          clear hr hfst HN HE hs
          go_wp2_with fail
          refine (Wm.hasPrefix_slash x _ false HR.out).mono ?_
          rintro e w2 ⟨rfl, rfl⟩
          go_wp2_with fail
          refine (Wm.concat_lit _ _ a0 (some ⟨b, o, none⟩) len0 cap0 len1 cap1 xs ys _ HX.out HY.out (by omega) (by omega) rfl).mono ?_
          rintro e w2 ⟨a, c, rfl, hv, hb2⟩
          have HV := Lib.hid hv
          have HB2 := Lib.hid hb2
          clear hv hb2
          go_wp2_with fail
          refine (Wm.impl_Join_at a (len0 + len1) c (xs ++ ys) _ HV.out.1 (by rw [Wm.sumLen_append]; omega)).mono ?_
          rintro e w3 ⟨whole, rfl, hw, hb3⟩
          have HW := Lib.hid hw
          have HV3 := Lib.hid (HV.out.below hb3)
          have HB3 := Lib.hid (Wm.next HB2.out hb3)
          clear hw hb3 HV HB2
          have hz : (whole.toList.isEmpty = true ∧ ((xs ++ ys).map bs).flatten = []) ∨ (whole.toList.isEmpty = false ∧ ((xs ++ ys).map bs).flatten ≠ []) := by
            by_cases h : Wm.full ((xs ++ ys).map bs) = []
            · exact .inl ⟨Wm.empty_true (by rw [HW.out]; exact (Wm.join_nil_iff _).2 h), (Wm.flatten_nil _).2 h⟩
            · exact .inr ⟨Wm.empty_false (by rw [HW.out]; exact Wm.join_ne h), fun e => h ((Wm.flatten_nil _).1 e)⟩
          obtain ⟨z, tw, hz⟩ : ∃ z, whole.toList.isEmpty = z ∧ ∀ s : ByteArray, bs s = ((xs ++ ys).map bs).flatten → s.toList.isEmpty = z := by
            rcases hz with ⟨h1, h2⟩ | ⟨h1, h2⟩
            · exact ⟨true, h1, fun s hs => Wm.empty_true (hs.trans h2)⟩
            · exact ⟨false, h1, fun s hs => Wm.empty_false (by rw [hs]; exact h2)⟩
          have HZ := Lib.hid hz
          clear hz
          go_wp2_with fail
          refine (Wm.strings_all a (len0 + len1) c (xs ++ ys) _ HV3.out (by rw [Wm.sumLen_append]; omega)).mono ?_
          rintro e w4 ⟨s, rfl, hs, hb4⟩
          have ts := HZ.out s hs
          have HB4 := Lib.hid (Wm.next HB3.out hb4)
          clear hs hb4 HB3 HV3
          have tz : (z == z) = true := by simp
          go_wp2_with fail
          refine (Wm.impl_Join_at (some ⟨b, o, none⟩) len1 cap1 ys _ (HY.out.below HB4.out).1 (by omega)).mono ?_
          rintro e w5 ⟨j1, rfl, hj, hb5⟩
          have hj1 := Wm.join_size hj
          have HJ := Lib.hid hj
          have hj2 : j1.size ≤ 1048576 := by have := LY.out; omega
          have HB5 := Lib.hid (Wm.next HB4.out hb5)
          clear hj hj1 hb5 HB4
          go_wp2_with fail
          refine (Wm.concat_lit _ _ a0 (some ⟨w5.heap.size, 0, none⟩) len0 cap0 1 1 xs [j1] (w5.alloc (.cells #[.string j1] 9)) (HX.out.below ((HB5.out).alloc HB5.out.size _)) (Wm.strsV_lit w5 j1 _) (by omega) (by omega) (by simp)).mono ?_
          rintro e w6 ⟨a', c', rfl, hv, hb6⟩
          have HV6 := Lib.hid hv
          have HB6 := Lib.hid (Wm.next (HB5.out.alloc HB5.out.size _) hb6)
          clear hv hb6 HB5
          go_wp2_with fail
          refine (Wm.impl_Join_at a' (len0 + 1) c' (xs ++ [j1]) _ HV6.out.1 (by rw [Wm.sumLen_append, Wm.sumLen_one]; omega)).mono ?_
          rintro e w7 ⟨other, rfl, ho, hb7⟩
          have to : (whole.toList == other.toList) = true := Wm.eq_true (by rw [HW.out, ho]; exact (show Pa.join ((xs ++ [j1]).map bs) = Pa.join ((xs ++ ys).map bs) by rw [List.map_append, List.map_append, List.map_cons, List.map_nil, HJ.out]; exact Wm.join_right _ _ (Wm.fstOf_rel HF.out)).symm)
          have HB7 := Lib.hid (Wm.next HB6.out hb7)
          clear ho hb7 HB6 HV6
          go_wp2
          go_ret
          exact ⟨by simp, HB7.out⟩
    · obtain rfl : k = len1 := by omega
      have HF := Lib.hid (show Pa.isAbs (Wm.fstOf (ys.map bs)) = false by
        have := hs.out
        rw [List.take_of_length_le (by rw [LY.out]; exact Nat.le_refl _)] at this
        rw [this]; rfl)
      clear hs
      go_wp2_with fail
      refine (Wm.concat_lit _ _ a0 a1 len0 cap0 k cap1 xs ys _ HX.out HY.out (by omega) (by omega) rfl).mono ?_
      rintro e w2 ⟨a, c, rfl, hv, hb2⟩
      have HV := Lib.hid hv
      have HB2 := Lib.hid hb2
      clear hv hb2
      go_wp2_with fail
      refine (Wm.impl_Join_at a (len0 + k) c (xs ++ ys) _ HV.out.1 (by rw [Wm.sumLen_append]; omega)).mono ?_
      rintro e w3 ⟨whole, rfl, hw, hb3⟩
      have HW := Lib.hid hw
      have HV3 := Lib.hid (HV.out.below hb3)
      have HB3 := Lib.hid (Wm.next HB2.out hb3)
      clear hw hb3 HV HB2
      have hz : (whole.toList.isEmpty = true ∧ ((xs ++ ys).map bs).flatten = []) ∨ (whole.toList.isEmpty = false ∧ ((xs ++ ys).map bs).flatten ≠ []) := by
        by_cases h : Wm.full ((xs ++ ys).map bs) = []
        · exact .inl ⟨Wm.empty_true (by rw [HW.out]; exact (Wm.join_nil_iff _).2 h), (Wm.flatten_nil _).2 h⟩
        · exact .inr ⟨Wm.empty_false (by rw [HW.out]; exact Wm.join_ne h), fun e => h ((Wm.flatten_nil _).1 e)⟩
      obtain ⟨z, tw, hz⟩ : ∃ z, whole.toList.isEmpty = z ∧ ∀ s : ByteArray, bs s = ((xs ++ ys).map bs).flatten → s.toList.isEmpty = z := by
        rcases hz with ⟨h1, h2⟩ | ⟨h1, h2⟩
        · exact ⟨true, h1, fun s hs => Wm.empty_true (hs.trans h2)⟩
        · exact ⟨false, h1, fun s hs => Wm.empty_false (by rw [hs]; exact h2)⟩
      have HZ := Lib.hid hz
      clear hz
      go_wp2_with fail
      refine (Wm.strings_all a (len0 + k) c (xs ++ ys) _ HV3.out (by rw [Wm.sumLen_append]; omega)).mono ?_
      rintro e w4 ⟨s, rfl, hs, hb4⟩
      have ts := HZ.out s hs
      have HB4 := Lib.hid (Wm.next HB3.out hb4)
      clear hs hb4 HB3 HV3
      have tz : (z == z) = true := by simp
      go_wp2_with fail
      refine (Wm.impl_Join_at a1 k cap1 ys _ (HY.out.below HB4.out).1 (by omega)).mono ?_
      rintro e w5 ⟨j1, rfl, hj, hb5⟩
      have hj1 := Wm.join_size hj
      have HJ := Lib.hid hj
      have hj2 : j1.size ≤ 1048576 := by have := LY.out; omega
      have HB5 := Lib.hid (Wm.next HB4.out hb5)
      clear hj hj1 hb5 HB4
      go_wp2_with fail
      refine (Wm.concat_lit _ _ a0 (some ⟨w5.heap.size, 0, none⟩) len0 cap0 1 1 xs [j1] (w5.alloc (.cells #[.string j1] 9)) (HX.out.below ((HB5.out).alloc HB5.out.size _)) (Wm.strsV_lit w5 j1 _) (by omega) (by omega) (by simp)).mono ?_
      rintro e w6 ⟨a', c', rfl, hv, hb6⟩
      have HV6 := Lib.hid hv
      have HB6 := Lib.hid (Wm.next (HB5.out.alloc HB5.out.size _) hb6)
      clear hv hb6 HB5
      go_wp2_with fail
      refine (Wm.impl_Join_at a' (len0 + 1) c' (xs ++ [j1]) _ HV6.out.1 (by rw [Wm.sumLen_append, Wm.sumLen_one]; omega)).mono ?_
      rintro e w7 ⟨other, rfl, ho, hb7⟩
      have to : (whole.toList == other.toList) = true := Wm.eq_true (by rw [HW.out, ho]; exact (show Pa.join ((xs ++ [j1]).map bs) = Pa.join ((xs ++ ys).map bs) by rw [List.map_append, List.map_append, List.map_cons, List.map_nil, HJ.out]; exact Wm.join_right _ _ (Wm.fstOf_rel HF.out)).symm)
      have HB7 := Lib.hid (Wm.next HB6.out hb7)
      clear ho hb7 HB6 HV6
      go_wp2
      go_ret
      exact ⟨by simp, HB7.out⟩

theorem own : ownKnob Try.prog.godebug = none := by kernel_rfl
theorem laidOut : laidOutB Try.prog = true := by kernel_rfl

theorem contract (H : Type) (enc : TypeId × Value → H) (W : World) (base : Nat) (args : Array Value) (ds gs : List (DataW H)) (before : List MemPlace)
    (hval : ∀ (j : Nat) t v, Try.f8.params[j]? = some t → args[j]? = some v → Value.okWide Try.prog W .any base t v)
    (hW : DataW.Whole enc Try.prog Try.f8.params.toList Rows.fnJoinFromRightSpec.vars false W args.toList ds gs before)
    (hk : Rows.uptoSmall H (ds ++ gs) = true)
    : Calls Try.prog 8 args W fun e W' => ∃ v, e = .returned v ∧ Rows.fnJoinFromRightSpec.post enc Try.prog Try.f8 false true false false W args v W' := by
  have hW' := hW
  obtain ⟨p, q, hA0, hV, rfl, hfz, hnd⟩ := hW
  have hA : DataW.TrodAll enc Try.prog W 0 (fun _ => true) true Try.f8.params.toList args.toList ds p := hA0
  rw [Try.params8] at hA hval
  obtain ⟨v0, vs0, d0, ds0, p0, q0, hargs, rfl, rfl, h0, r0⟩ := trodAll_cons hA
  obtain ⟨v1, vs1, d1, ds1, p1, q1, rfl, rfl, rfl, h1, r1⟩ := trodAll_cons r0
  obtain ⟨rfl, rfl, rfl⟩ := trodAll_nil r1
  obtain rfl : args = #[v0, v1] := by cases args; simp_all
  obtain ⟨rfl, rfl⟩ := trodVars_none hV
  obtain ⟨a0, len0, cap0, rfl⟩ := okWide_slice Try.underlying22 (hval 0 22 v0 rfl rfl)
  have k0 := h0
  have lt0 : ∀ x ∈ p0, x.block < W.heap.size := by obtain ⟨m, hm⟩ := k0; exact DataW.trod_lt m _ _ _ hm
  obtain ⟨z0, w0, e0⟩ : ∃ zs, Wm.IsStrs W a0 len0 cap0 zs ∧ Wm.StrsData zs len0 d0 := by
    obtain ⟨fuel, hf⟩ := h0
    exact Wm.open_strs Try.underlying22 Try.underlying9 (by kernel_rfl) hf
  obtain ⟨a1, len1, cap1, rfl⟩ := okWide_slice Try.underlying22 (hval 1 22 v1 rfl rfl)
  have k1 := h1
  have lt1 : ∀ x ∈ p1, x.block < W.heap.size := by obtain ⟨m, hm⟩ := k1; exact DataW.trod_lt m _ _ _ hm
  obtain ⟨z1, w1, e1⟩ : ∃ zs, Wm.IsStrs W a1 len1 cap1 zs ∧ Wm.StrsData zs len1 d1 := by
    obtain ⟨fuel, hf⟩ := h1
    exact Wm.open_strs Try.underlying22 Try.underlying9 (by kernel_rfl) hf
  clear hA0
  have hb : Rows.uptoBulkAll _ ≤ 1048576 := of_decide_eq_true hk
  simp only [List.append_nil] at hb
  have b0 : Wm.sumLen z0 + z0.length ≤ 1048576 := Bulk.strs_le e0 hb (by simp)
  have b1 : Wm.sumLen z1 + z1.length ≤ 1048576 := Bulk.strs_le e1 hb (by simp)
  refine (walk a0 len0 cap0 z0 a1 len1 cap1 z1 W w0 b0 w1 b1).mono fun e W' ⟨he, bel⟩ => ?_
  subst he
  exact ⟨_, rfl, _, _, _, [], _, [], hW', trodAll_mk1 (shut_bool Try.underlying4 _), (trodAll_cons_mk (Below.trod laidOut (by kernel_rfl) (of_decide_eq_true (by kernel_rfl)) k0 bel lt0) (trodAll_cons_mk (Below.trod laidOut (by kernel_rfl) (of_decide_eq_true (by kernel_rfl)) k1 bel lt1) trodAll_mk0)), rfl, bel.frame _, fun h => by cases h⟩

set_option maxRecDepth 100000 in
theorem lifted (os : Os) (started : os.Started) (H : Type) (enc : TypeId × Value → H) (F : Stop.Interp) :
    ReturnsInHanded {} Try.checked os 8 .any ((Rows.OpenSpec.upto Rows.fnJoinFromRightSpec).pre6 enc Try.prog Try.f8 Rows.fnJoinFromRightUptoRow.domain false) (((Rows.OpenSpec.upto Rows.fnJoinFromRightSpec).at F).post enc Try.prog Try.f8 false true false false) := by
  refine returnsInHanded_of_cond (C := Try.checked) (s := Rows.OpenSpec.upto Rows.fnJoinFromRightSpec) (k := Rows.uptoSmall) rfl own started (by kernel_rfl) Try.func8
    (OpenSpec.witness (enc := enc) (C := Try.checked) (s := Rows.OpenSpec.upto Rows.fnJoinFromRightSpec) (k := Rows.uptoSmall) rfl false ⟨#[], #[.slice none 0 0, .slice none 0 0], []⟩ 8 (by kernel_rfl) (by kernel_rfl) (by kernel_rfl)
      (x := ([.nil, .nil], [], [])) (by kernel_rfl) rfl (by kernel_rfl)) ?_
  intro W base args ds gs before hval hW _ hk _
  exact contract H enc W base args ds gs before hval hW hk

theorem proved : Rows.FnJoinFromRightUptoSaid :=
  OpenClaim.holds_of_cond 8 Try.f8 rfl rfl rfl rfl rfl rfl rfl ⟨rfl, rfl, rfl, rfl, rfl⟩ rfl rfl rfl rfl rfl (by kernel_rfl) Try.func8 (by kernel_rfl)
    (of_decide_eq_true (by kernel_rfl)) (by unfold Func.isWrapper; first | (rw [if_pos (by decide +kernel)]; kernel_rfl) | (rw [if_neg (by decide +kernel)]; exact ⟨rfl, rfl⟩))
    (fun os started H enc _ F => lifted os started H enc F)
#print axioms proved
end Go.Proofs.Ytgigodblbiiahaa.fnJoinFromRight
