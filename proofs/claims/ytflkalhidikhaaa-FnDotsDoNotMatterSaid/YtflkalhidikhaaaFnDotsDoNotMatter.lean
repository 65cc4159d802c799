/-
  PROVED: An element . more makes no difference to the result of Clean, which is not empty, nor does a name that is followed by an element .. (both between two slashes, or at the beginning of a path that is not rooted and not empty): the law FnDotsDoNotMatter returns true at every pair of strings and every integer. Conditions: none beyond the form's own reach.
-/
import Derived.Test.YtflkalhidikhaaaImpl
import Derived.Test.YtflkalhidikhaaaPlain3
import Derived.Test.YtflkalhidikhaaaCut
namespace Go.Proofs.Ytflkalhidikhaaa.fnDotsDoNotMatter
open Go Go.ChangeShapes Go.WideShapes Go.ChangeAt Go.RowKit
open Go.ChangeMaps (open_string shut_string)
open Go.Proofs.Ytflkalhidikhaaa.Wm (bs)
open Go.Lib

set_option maxHeartbeats 1600000 in
theorem at_empty (a0 a1 : ByteArray) (a2 : Int) (w : World) (b0 : a0.size ≤ 140737488351232) (b1 : a1.size ≤ 140737488351232) (h0 : bs a1 ≠ []) (h1 : bs a1 ≠ [46]) (h2 : bs a1 ≠ [46, 46]) (h47 : 47 ∉ bs a1) (hp : bs a0 = []) :
    Calls Try.prog 12 #[.string a0, .string a1, .int .i64 a2] w fun e w' => e = .returned (.bool true) ∧ Below w.heap.size w w' := by
  have n0 : a1.toList.isEmpty = false := Wm.empty_false h0
  have n1 : (a1.toList == [46]) = false := Wm.lit_false h1
  have n2 : (a1.toList == [46, 46]) = false := Wm.lit_false h2
  have N0 := Lib.hid h0
  have N1 := Lib.hid h1
  have N2 := Lib.hid h2
  have H47 := Lib.hid h47
  clear h0 h1 h2 h47
  have HB := Lib.hid (Below.refl w.heap.size w)
  have p0 := Wm.empty_true hp
  clear hp
  go_enter Try.func12, Try.ntmps12
  go_wp2_with fail
  refine (Wm.contains_no a1 _ H47.out).mono ?_
  rintro e w0 ⟨rfl, rfl⟩
  go_wp2_with fail
  refine (Wm.impl_Clean a0 _ (by omega)).mono ?_
  rintro e w6 ⟨c, rfl, hc, hb6⟩
  have tc : c.toList.isEmpty = false := Wm.empty_false (by rw [hc]; exact Wm.clean_ne _)
  have HC := Lib.hid hc
  have HB6 := Lib.hid (Wm.next HB.out hb6)
  clear hc hb6
  go_wp2_with fail
  refine (Wm.cut_any a0 a2 _ b0).mono ?_
  rintro e w7 ⟨a, b, ok, rfl, hok, hb7⟩
  have HB7 := Lib.hid (Wm.next HB6.out hb7)
  clear hb7
  cases ok with
  | false =>
    clear hok
    go_wp2
    go_ret
    exact ⟨by simp, HB7.out⟩
  | true =>
    have HP := Lib.hid (hok rfl)
    clear hok
    have hl : a.size + (1 + b.size) = a0.size := by
      rw [Wm.size_bs a, Wm.size_bs b, Wm.size_bs a0, HP.out]; simp; omega
    have s1 : a.size + 3 ≤ 9223372036854775807 := by omega
    have s2 : a.size + 3 + b.size ≤ 9223372036854775807 := by omega
    have s3 : a.size + 1 ≤ 9223372036854775807 := by omega
    have s4 : a.size + 1 + a1.size ≤ 9223372036854775807 := by omega
    have s5 : a.size + 1 + a1.size + 4 ≤ 9223372036854775807 := by omega
    have s6 : a.size + 1 + a1.size + 4 + b.size ≤ 9223372036854775807 := by omega
    have s7 : a.size + 3 + b.size ≤ 281474976710656 := by omega
    have s8 : a.size + 1 + a1.size + 4 + b.size ≤ 281474976710656 := by omega
    clear hl
    have HE1 := Lib.hid (show Pa.clean (bs (a ++ ⟨#[47, 46, 47]⟩ ++ b)) = Pa.clean (bs a0) by
      rw [Wm.bs_append, Wm.bs_append, HP.out]
      show Pa.clean (bs a ++ [47, 46, 47] ++ bs b) = _
      rw [List.append_assoc]; exact Wm.clean_dot _ _)
    have HE2 := Lib.hid (show Pa.clean (bs (a ++ ⟨#[47]⟩ ++ a1 ++ ⟨#[47, 46, 46, 47]⟩ ++ b)) = Pa.clean (bs a0) by
      rw [Wm.bs_append, Wm.bs_append, Wm.bs_append, Wm.bs_append, HP.out]
      show Pa.clean (bs a ++ [47] ++ bs a1 ++ [47, 46, 46, 47] ++ bs b) = _
      rw [List.append_assoc, List.append_assoc, List.append_assoc]; exact Wm.clean_name_dd _ _ _ N0.out N1.out N2.out H47.out)
    go_wp2_with fail
    refine (Wm.impl_Clean _ _ (by rw [ByteArray.size_append, ByteArray.size_append, Wm.size3]; exact s7)).mono ?_
    rintro e w8 ⟨x, rfl, hx, hb8⟩
    have t8 : (x.toList == c.toList) = true := Wm.eq_true (by rw [hx, HE1.out, HC.out])
    have HB8 := Lib.hid (Wm.next HB7.out hb8)
    clear hx hb8
    go_wp2_with fail
    refine (Wm.impl_Clean _ _ (by rw [ByteArray.size_append, ByteArray.size_append, ByteArray.size_append, ByteArray.size_append, Wm.size1, Wm.size4]; exact s8)).mono ?_
    rintro e w9 ⟨y, rfl, hy, hb9⟩
    have t9 : (y.toList == c.toList) = true := Wm.eq_true (by rw [hy, HE2.out, HC.out])
    have HB9 := Lib.hid (Wm.next HB8.out hb9)
    clear hy hb9
    go_wp2
    go_ret
    exact ⟨by simp, HB9.out⟩

set_option maxHeartbeats 1600000 in
theorem at_root (a0 a1 : ByteArray) (a2 : Int) (w : World) (b0 : a0.size ≤ 140737488351232) (b1 : a1.size ≤ 140737488351232) (h0 : bs a1 ≠ []) (h1 : bs a1 ≠ [46]) (h2 : bs a1 ≠ [46, 46]) (h47 : 47 ∉ bs a1) (hp : bs a0 ≠ []) (hr : Pa.isAbs (bs a0) = true) :
    Calls Try.prog 12 #[.string a0, .string a1, .int .i64 a2] w fun e w' => e = .returned (.bool true) ∧ Below w.heap.size w w' := by
  have n0 : a1.toList.isEmpty = false := Wm.empty_false h0
  have n1 : (a1.toList == [46]) = false := Wm.lit_false h1
  have n2 : (a1.toList == [46, 46]) = false := Wm.lit_false h2
  have N0 := Lib.hid h0
  have N1 := Lib.hid h1
  have N2 := Lib.hid h2
  have H47 := Lib.hid h47
  clear h0 h1 h2 h47
  have HB := Lib.hid (Below.refl w.heap.size w)
  have p0 := Wm.empty_false hp
  have HR := Lib.hid hr
  clear hp hr
  go_enter Try.func12, Try.ntmps12
  go_wp2_with fail
  refine (Wm.contains_no a1 _ H47.out).mono ?_
  rintro e w0 ⟨rfl, rfl⟩
  go_wp2_with fail
  refine (Wm.hasPrefix_slash a0 _ true HR.out).mono ?_
  rintro e w1 ⟨rfl, rfl⟩
  go_wp2_with fail
  refine (Wm.impl_Clean a0 _ (by omega)).mono ?_
  rintro e w6 ⟨c, rfl, hc, hb6⟩
  have tc : c.toList.isEmpty = false := Wm.empty_false (by rw [hc]; exact Wm.clean_ne _)
  have HC := Lib.hid hc
  have HB6 := Lib.hid (Wm.next HB.out hb6)
  clear hc hb6
  go_wp2_with fail
  refine (Wm.cut_any a0 a2 _ b0).mono ?_
  rintro e w7 ⟨a, b, ok, rfl, hok, hb7⟩
  have HB7 := Lib.hid (Wm.next HB6.out hb7)
  clear hb7
  cases ok with
  | false =>
    clear hok
    go_wp2
    go_ret
    exact ⟨by simp, HB7.out⟩
  | true =>
    have HP := Lib.hid (hok rfl)
    clear hok
    have hl : a.size + (1 + b.size) = a0.size := by
      rw [Wm.size_bs a, Wm.size_bs b, Wm.size_bs a0, HP.out]; simp; omega
    have s1 : a.size + 3 ≤ 9223372036854775807 := by omega
    have s2 : a.size + 3 + b.size ≤ 9223372036854775807 := by omega
    have s3 : a.size + 1 ≤ 9223372036854775807 := by omega
    have s4 : a.size + 1 + a1.size ≤ 9223372036854775807 := by omega
    have s5 : a.size + 1 + a1.size + 4 ≤ 9223372036854775807 := by omega
    have s6 : a.size + 1 + a1.size + 4 + b.size ≤ 9223372036854775807 := by omega
    have s7 : a.size + 3 + b.size ≤ 281474976710656 := by omega
    have s8 : a.size + 1 + a1.size + 4 + b.size ≤ 281474976710656 := by omega
    clear hl
    have HE1 := Lib.hid (show Pa.clean (bs (a ++ ⟨#[47, 46, 47]⟩ ++ b)) = Pa.clean (bs a0) by
      rw [Wm.bs_append, Wm.bs_append, HP.out]
      show Pa.clean (bs a ++ [47, 46, 47] ++ bs b) = _
      rw [List.append_assoc]; exact Wm.clean_dot _ _)
    have HE2 := Lib.hid (show Pa.clean (bs (a ++ ⟨#[47]⟩ ++ a1 ++ ⟨#[47, 46, 46, 47]⟩ ++ b)) = Pa.clean (bs a0) by
      rw [Wm.bs_append, Wm.bs_append, Wm.bs_append, Wm.bs_append, HP.out]
      show Pa.clean (bs a ++ [47] ++ bs a1 ++ [47, 46, 46, 47] ++ bs b) = _
      rw [List.append_assoc, List.append_assoc, List.append_assoc]; exact Wm.clean_name_dd _ _ _ N0.out N1.out N2.out H47.out)
    go_wp2_with fail
    refine (Wm.impl_Clean _ _ (by rw [ByteArray.size_append, ByteArray.size_append, Wm.size3]; exact s7)).mono ?_
    rintro e w8 ⟨x, rfl, hx, hb8⟩
    have t8 : (x.toList == c.toList) = true := Wm.eq_true (by rw [hx, HE1.out, HC.out])
    have HB8 := Lib.hid (Wm.next HB7.out hb8)
    clear hx hb8
    go_wp2_with fail
    refine (Wm.impl_Clean _ _ (by rw [ByteArray.size_append, ByteArray.size_append, ByteArray.size_append, ByteArray.size_append, Wm.size1, Wm.size4]; exact s8)).mono ?_
    rintro e w9 ⟨y, rfl, hy, hb9⟩
    have t9 : (y.toList == c.toList) = true := Wm.eq_true (by rw [hy, HE2.out, HC.out])
    have HB9 := Lib.hid (Wm.next HB8.out hb9)
    clear hy hb9
    go_wp2
    go_ret
    exact ⟨by simp, HB9.out⟩

set_option maxHeartbeats 1600000 in
theorem at_name (a0 a1 : ByteArray) (a2 : Int) (w : World) (b0 : a0.size ≤ 140737488351232) (b1 : a1.size ≤ 140737488351232) (h0 : bs a1 ≠ []) (h1 : bs a1 ≠ [46]) (h2 : bs a1 ≠ [46, 46]) (h47 : 47 ∉ bs a1) (hp : bs a0 ≠ []) (hr : Pa.isAbs (bs a0) = false) :
    Calls Try.prog 12 #[.string a0, .string a1, .int .i64 a2] w fun e w' => e = .returned (.bool true) ∧ Below w.heap.size w w' := by
  have n0 : a1.toList.isEmpty = false := Wm.empty_false h0
  have n1 : (a1.toList == [46]) = false := Wm.lit_false h1
  have n2 : (a1.toList == [46, 46]) = false := Wm.lit_false h2
  have N0 := Lib.hid h0
  have N1 := Lib.hid h1
  have N2 := Lib.hid h2
  have H47 := Lib.hid h47
  clear h0 h1 h2 h47
  have HB := Lib.hid (Below.refl w.heap.size w)
  have p0 := Wm.empty_false hp
  have HR := Lib.hid hr
  have HA := Lib.hid (show Pa.clean (bs (⟨#[46, 47]⟩ ++ a0)) = Pa.clean (bs a0) by
    rw [Wm.bs_append]; exact Wm.clean_dot_first _ hr)
  have HD := Lib.hid (show Pa.clean (bs (a1 ++ ⟨#[47, 46, 46, 47]⟩ ++ a0)) = Pa.clean (bs a0) by
    rw [Wm.bs_append, Wm.bs_append, List.append_assoc]; exact Wm.clean_name_first _ _ hr N0.out N1.out N2.out H47.out)
  clear hp hr
  have u1 : 2 + a0.size ≤ 9223372036854775807 := by omega
  have u2 : a1.size + 4 ≤ 9223372036854775807 := by omega
  have u3 : a1.size + 4 + a0.size ≤ 9223372036854775807 := by omega
  have u4 : a1.size + 4 + a0.size ≤ 281474976710656 := by omega
  go_enter Try.func12, Try.ntmps12
  go_wp2_with fail
  refine (Wm.contains_no a1 _ H47.out).mono ?_
  rintro e w0 ⟨rfl, rfl⟩
  go_wp2_with fail
  refine (Wm.hasPrefix_slash a0 _ false HR.out).mono ?_
  rintro e w1 ⟨rfl, rfl⟩
  go_wp2_with fail
  refine (Wm.impl_Clean _ _ (by rw [ByteArray.size_append, Wm.size2]; omega)).mono ?_
  rintro e w1 ⟨x1, rfl, hx1, hb1⟩
  have HX1 := Lib.hid hx1
  clear hx1
  go_wp2_with fail
  refine (Wm.impl_Clean a0 _ (by omega)).mono ?_
  rintro e w2 ⟨x2, rfl, hx2, hb2⟩
  obtain rfl : x1 = x2 := Wm.bs_inj (by rw [hx2, HX1.out, HA.out])
  have HB2 := Lib.hid (Wm.next hb1 hb2)
  clear hx2 hb1 hb2
  go_wp2_with fail
  refine (Wm.impl_Clean _ _ (by rw [ByteArray.size_append, ByteArray.size_append, Wm.size4]; exact u4)).mono ?_
  rintro e w3 ⟨x3, rfl, hx3, hb3⟩
  have HX3 := Lib.hid hx3
  have HB3 := Lib.hid (Wm.next HB2.out hb3)
  clear hx3 hb3
  go_wp2_with fail
  refine (Wm.impl_Clean a0 _ (by omega)).mono ?_
  rintro e w4 ⟨x4, rfl, hx4, hb4⟩
  obtain rfl : x3 = x4 := Wm.bs_inj (by rw [hx4, HX3.out, HD.out])
  clear HB HX1 HX3 HA HD u1 u2 u3 u4
  have HB := Lib.hid (Wm.next HB3.out hb4)
  clear hx4 hb4 HB2 HB3
  go_wp2_with fail
  refine (Wm.impl_Clean a0 _ (by omega)).mono ?_
  rintro e w6 ⟨c, rfl, hc, hb6⟩
  have tc : c.toList.isEmpty = false := Wm.empty_false (by rw [hc]; exact Wm.clean_ne _)
  have HC := Lib.hid hc
  have HB6 := Lib.hid (Wm.next HB.out hb6)
  clear hc hb6
  go_wp2_with fail
  refine (Wm.cut_any a0 a2 _ b0).mono ?_
  rintro e w7 ⟨a, b, ok, rfl, hok, hb7⟩
  have HB7 := Lib.hid (Wm.next HB6.out hb7)
  clear hb7
  cases ok with
  | false =>
    clear hok
    go_wp2
    go_ret
    exact ⟨by simp, HB7.out⟩
  | true =>
    have HP := Lib.hid (hok rfl)
    clear hok
    have hl : a.size + (1 + b.size) = a0.size := by
      rw [Wm.size_bs a, Wm.size_bs b, Wm.size_bs a0, HP.out]; simp; omega
    have s1 : a.size + 3 ≤ 9223372036854775807 := by omega
    have s2 : a.size + 3 + b.size ≤ 9223372036854775807 := by omega
    have s3 : a.size + 1 ≤ 9223372036854775807 := by omega
    have s4 : a.size + 1 + a1.size ≤ 9223372036854775807 := by omega
    have s5 : a.size + 1 + a1.size + 4 ≤ 9223372036854775807 := by omega
    have s6 : a.size + 1 + a1.size + 4 + b.size ≤ 9223372036854775807 := by omega
    have s7 : a.size + 3 + b.size ≤ 281474976710656 := by omega
    have s8 : a.size + 1 + a1.size + 4 + b.size ≤ 281474976710656 := by omega
    clear hl
    have HE1 := Lib.hid (show Pa.clean (bs (a ++ ⟨#[47, 46, 47]⟩ ++ b)) = Pa.clean (bs a0) by
      rw [Wm.bs_append, Wm.bs_append, HP.out]
      show Pa.clean (bs a ++ [47, 46, 47] ++ bs b) = _
      rw [List.append_assoc]; exact Wm.clean_dot _ _)
    have HE2 := Lib.hid (show Pa.clean (bs (a ++ ⟨#[47]⟩ ++ a1 ++ ⟨#[47, 46, 46, 47]⟩ ++ b)) = Pa.clean (bs a0) by
      rw [Wm.bs_append, Wm.bs_append, Wm.bs_append, Wm.bs_append, HP.out]
      show Pa.clean (bs a ++ [47] ++ bs a1 ++ [47, 46, 46, 47] ++ bs b) = _
      rw [List.append_assoc, List.append_assoc, List.append_assoc]; exact Wm.clean_name_dd _ _ _ N0.out N1.out N2.out H47.out)
    go_wp2_with fail
    refine (Wm.impl_Clean _ _ (by rw [ByteArray.size_append, ByteArray.size_append, Wm.size3]; exact s7)).mono ?_
    rintro e w8 ⟨x, rfl, hx, hb8⟩
    have t8 : (x.toList == c.toList) = true := Wm.eq_true (by rw [hx, HE1.out, HC.out])
    have HB8 := Lib.hid (Wm.next HB7.out hb8)
    clear hx hb8
    go_wp2_with fail
    refine (Wm.impl_Clean _ _ (by rw [ByteArray.size_append, ByteArray.size_append, ByteArray.size_append, ByteArray.size_append, Wm.size1, Wm.size4]; exact s8)).mono ?_
    rintro e w9 ⟨y, rfl, hy, hb9⟩
    have t9 : (y.toList == c.toList) = true := Wm.eq_true (by rw [hy, HE2.out, HC.out])
    have HB9 := Lib.hid (Wm.next HB8.out hb9)
    clear hy hb9
    go_wp2
    go_ret
    exact ⟨by simp, HB9.out⟩

set_option maxHeartbeats 800000 in
theorem walk (a0 a1 : ByteArray) (a2 : Int) (w : World) (b0 : a0.size ≤ 140737488351232) (b1 : a1.size ≤ 140737488351232) (_ : -9223372036854775808 ≤ a2 ∧ a2 ≤ 9223372036854775807) :
    Calls Try.prog 12 #[.string a0, .string a1, .int .i64 a2] w fun e w' => e = .returned (.bool true) ∧ Below w.heap.size w w' := by
  by_cases h0 : bs a1 = []
  · have n0 := Wm.empty_true h0
    clear h0
    go_enter Try.func12, Try.ntmps12
    go_wp2
    go_ret
    exact ⟨rfl, Below.refl _ _⟩
  by_cases h1 : bs a1 = [46]
  · have n0 := Wm.empty_false h0
    have n1 : (a1.toList == [46]) = true := Wm.lit_true h1
    clear h0 h1
    go_enter Try.func12, Try.ntmps12
    go_wp2
    go_ret
    exact ⟨rfl, Below.refl _ _⟩
  by_cases h2 : bs a1 = [46, 46]
  · have n0 := Wm.empty_false h0
    have n1 : (a1.toList == [46]) = false := Wm.lit_false h1
    have n2 : (a1.toList == [46, 46]) = true := Wm.lit_true h2
    clear h0 h1 h2
    go_enter Try.func12, Try.ntmps12
    go_wp2
    go_ret
    exact ⟨rfl, Below.refl _ _⟩
  by_cases h47 : 47 ∈ bs a1
  · have n0 := Wm.empty_false h0
    have n1 : (a1.toList == [46]) = false := Wm.lit_false h1
    have n2 : (a1.toList == [46, 46]) = false := Wm.lit_false h2
    have H47 := Lib.hid h47
    clear h0 h1 h2 h47
    go_enter Try.func12, Try.ntmps12
    go_wp2_with fail
    refine (Wm.contains_yes a1 _ H47.out).mono ?_
    rintro e w0 ⟨rfl, rfl⟩
    go_wp2
    go_ret
    exact ⟨rfl, Below.refl _ _⟩
  by_cases hp : bs a0 = []
  · exact at_empty a0 a1 a2 w b0 b1 h0 h1 h2 h47 hp
  cases hr : Pa.isAbs (bs a0) with
  | true => exact at_root a0 a1 a2 w b0 b1 h0 h1 h2 h47 hp hr
  | false => exact at_name a0 a1 a2 w b0 b1 h0 h1 h2 h47 hp hr

theorem own : ownKnob Try.prog.godebug = none := by kernel_rfl

theorem contract (H : Type) (enc : TypeId × Value → H) (W : World) (base : Nat) (args : Array Value) (ds gs : List (DataW H)) (before : List MemPlace)
    (hval : ∀ (j : Nat) t v, Try.f12.params[j]? = some t → args[j]? = some v → Value.okWide Try.prog W .any base t v)
    (hW : DataW.Whole enc Try.prog Try.f12.params.toList Rows.fnDotsDoNotMatterSpec.vars false W args.toList ds gs before)
    (hsz : (DataW.weightsEach Try.prog (Try.f12.params.toList ++ Rows.fnDotsDoNotMatterSpec.plain.varTypes Try.prog) (ds ++ gs)).all (· ≤ reachBytes) = true)
    : Calls Try.prog 12 args W fun e W' => ∃ v, e = .returned v ∧ Rows.fnDotsDoNotMatterSpec.post enc Try.prog Try.f12 false true false false W args v W' := by
  have hW' := hW
  obtain ⟨p, q, hA0, hV, rfl, hfz, hnd⟩ := hW
  have hA : DataW.TrodAll enc Try.prog W 0 (fun _ => true) true Try.f12.params.toList args.toList ds p := hA0
  rw [Try.params12] at hA hval hsz
  obtain ⟨v0, vs0, d0, ds0, p0, q0, hargs, rfl, rfl, h0, r0⟩ := trodAll_cons hA
  obtain ⟨v1, vs1, d1, ds1, p1, q1, rfl, rfl, rfl, h1, r1⟩ := trodAll_cons r0
  obtain ⟨v2, vs2, d2, ds2, p2, q2, rfl, rfl, rfl, h2, r2⟩ := trodAll_cons r1
  obtain ⟨rfl, rfl, rfl⟩ := trodAll_nil r2
  obtain rfl : args = #[v0, v1, v2] := by cases args; simp_all
  obtain ⟨rfl, rfl⟩ := trodVars_none hV
  obtain ⟨a0, rfl, rfl, rfl, w0⟩ := open_string Try.underlying9 (hval 0 9 v0 rfl rfl) h0
  obtain ⟨a1, rfl, rfl, rfl, w1⟩ := open_string Try.underlying9 (hval 1 9 v1 rfl rfl) h1
  obtain ⟨a2, rfl, rfl, rfl, w2⟩ := open_int Try.underlying3 (hval 2 3 v2 rfl rfl) h2
  clear hA0
  have b0 : a0.size ≤ 140737488351232 := by have h := sized_string hsz (j := 0) (t := 9) rfl rfl; rw [Lib.size_eq]; exact h
  have b1 : a1.size ≤ 140737488351232 := by have h := sized_string hsz (j := 1) (t := 9) rfl rfl; rw [Lib.size_eq]; exact h
  have b2 := Wm.bounds_i64 w2
  refine (walk a0 a1 a2 W b0 b1 b2).mono fun e W' ⟨he, bel⟩ => ?_
  subst he
  exact ⟨_, rfl, _, _, _, [], _, [], hW', trodAll_mk1 (shut_bool Try.underlying4 _), (trodAll_cons_mk (shut_string Try.underlying9 w0) (trodAll_cons_mk (shut_string Try.underlying9 w1) (trodAll_cons_mk (shut_int Try.underlying3 w2) trodAll_mk0))), rfl, bel.frame _, fun h => by cases h⟩

set_option maxRecDepth 100000 in
theorem lifted (os : Os) (started : os.Started) (H : Type) (enc : TypeId × Value → H) :
    ReturnsInHanded {} Try.checked os 12 .any (Rows.fnDotsDoNotMatterSpec.pre6 enc Try.prog Try.f12 Rows.fnDotsDoNotMatterRow.domain false) (Rows.fnDotsDoNotMatterSpec.post enc Try.prog Try.f12 false true false false) := by
  refine returnsInHanded_of_change_sized (C := Try.checked) own started (by kernel_rfl) Try.func12
    (ChangeSpec.witness6 (enc := enc) (C := Try.checked) false ⟨#[], #[.string .empty, .string .empty, .int .i64 0], []⟩ 8 (by kernel_rfl) (by kernel_rfl) (by kernel_rfl) (by kernel_rfl)) ?_
  intro W base args ds gs before hval hW _ hsz _
  exact contract H enc W base args ds gs before hval hW hsz

theorem proved : Rows.FnDotsDoNotMatterSaid :=
  OpenClaim.holds_of_wide 12 Try.f12 rfl rfl rfl rfl rfl rfl rfl ⟨rfl, rfl, rfl, rfl, rfl⟩ rfl rfl rfl rfl rfl (by kernel_rfl) Try.func12 (by kernel_rfl)
    (of_decide_eq_true (by kernel_rfl)) (by unfold Func.isWrapper; first | (rw [if_pos (by decide +kernel)]; kernel_rfl) | (rw [if_neg (by decide +kernel)]; exact ⟨rfl, rfl⟩))
    (fun os started H enc _ => lifted os started H enc)
#print axioms proved
end Go.Proofs.Ytflkalhidikhaaa.fnDotsDoNotMatter
