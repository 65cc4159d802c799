/-
  PROVED: The results of Join, if there are elements that are not empty, and of Dir are not empty, and are their own results of Clean: the law FnResultsAreClean returns true at every string and every slice of strings. Condition (the second form): what it reads is of bulk at most 1048576.
-/
import Derived.Test.YtgigodblbiiahaaImpl
import Derived.Test.YtgigodblbiiahaaPlain3
import Derived.Test.YtgigodblbiiahaaSlices
namespace Go.Proofs.Ytgigodblbiiahaa.fnResultsAreClean
open Go Go.ChangeShapes Go.WideShapes Go.ChangeAt Go.RowKit
open Go.ChangeMaps (open_string shut_string)
open Go.Proofs.Ytgigodblbiiahaa.Wm (bs)
open Go.Lib

theorem dir_len (l : List UInt8) : (Pa.dir l).length ≤ l.length + 1 := by
  unfold Pa.dir
  have h1 := (Wm.clean_length (Pa.split l).1).2
  have h2 := Pa.split_fst_le l
  omega

set_option maxHeartbeats 1600000 in
theorem walk (a0 : ByteArray) (a1 : Option Addr) (len1 cap1 : Nat) (z1 : List ByteArray) (w : World) (b0 : a0.size ≤ 1048576) (w1 : Wm.IsStrs w a1 len1 cap1 z1) (b1 : Wm.sumLen z1 + z1.length ≤ 1048576) :
    Calls Try.prog 6 #[.string a0, .slice a1 len1 cap1] w fun e w' => e = .returned (.bool true) ∧ Below w.heap.size w w' := by
  have hX := w1.v
  have hsx := Wm.sumLen_take z1 len1
  have hlx := hX.1.1
  have hlx' : (z1.take len1).length ≤ z1.length := by rw [List.length_take]; omega
  generalize z1.take len1 = xs at hX hsx hlx hlx'
  have sx : Wm.sumLen xs + len1 ≤ 1048576 := by omega
  have HX := Lib.hid hX
  have LX := Lib.hid hlx
  clear w1 hX hsx hlx hlx' b1
  go_enter Try.func6, Try.ntmps6
  go_wp2_with fail
  refine (Wm.impl_Join_at a1 len1 cap1 xs _ HX.out.1 (by omega)).mono ?_
  rintro e w2 ⟨j, rfl, hj, hb2⟩
  have hjs := Wm.join_size hj
  have sj : j.size ≤ 1048576 := by have := LX.out; omega
  have HJ := Lib.hid hj
  clear hj hjs
  go_wp2_with fail
  refine (Wm.impl_Dir a0 _ (by omega)).mono ?_
  rintro e w3 ⟨d, rfl, hd, hb3⟩
  have td : d.toList.isEmpty = false := Wm.empty_false (by rw [hd]; exact Wm.dir_ne _)
  have sd : d.size ≤ 1048577 := by have := dir_len (bs a0); rw [← hd, ← Wm.size_bs, ← Wm.size_bs] at this; omega
  have HD := Lib.hid (show Pa.clean (bs d) = bs d by rw [hd]; exact Wm.clean_clean _)
  have HB3 := Lib.hid (Wm.next hb2 hb3)
  clear hd hb2 hb3
  go_wp2_with fail
  refine (Wm.impl_Clean d _ (by omega)).mono ?_
  rintro e w4 ⟨x, rfl, hx, hb4⟩
  have tx : (x.toList == d.toList) = true := Wm.eq_true (by rw [hx, HD.out])
  have HB4 := Lib.hid (Wm.next HB3.out hb4)
  clear hx hb4 HB3
  by_cases h : Wm.full (xs.map bs) = []
  · have tj : j.toList.isEmpty = true := Wm.empty_true (by rw [HJ.out]; exact (Wm.join_nil_iff _).2 h)
    have HS := Lib.hid ((Wm.flatten_nil _).2 h)
    clear h
    go_wp2_with fail
    refine (Wm.strings_all a1 len1 cap1 xs _ (HX.out.below HB4.out) (by omega)).mono ?_
    rintro e w5 ⟨s, rfl, hs, hb5⟩
    have ts : s.toList.isEmpty = true := Wm.empty_true (hs.trans HS.out)
    have HB5 := Lib.hid (Wm.next HB4.out hb5)
    clear hs hb5
    go_wp2
    go_ret
    exact ⟨by simp, HB5.out⟩
  · have tj : j.toList.isEmpty = false := Wm.empty_false (by rw [HJ.out]; exact Wm.join_ne h)
    have HS := Lib.hid (show (xs.map bs).flatten ≠ [] from fun e => h ((Wm.flatten_nil _).1 e))
    have HC := Lib.hid (show Pa.clean (bs j) = bs j by rw [HJ.out]; exact Wm.clean_join h)
    clear h
    go_wp2_with fail
    refine (Wm.strings_all a1 len1 cap1 xs _ (HX.out.below HB4.out) (by omega)).mono ?_
    rintro e w5 ⟨s, rfl, hs, hb5⟩
    have ts : s.toList.isEmpty = false := Wm.empty_false (by rw [hs]; exact HS.out)
    have HB5 := Lib.hid (Wm.next HB4.out hb5)
    clear hs hb5
    go_wp2_with fail
    refine (Wm.impl_Clean j _ (by omega)).mono ?_
    rintro e w6 ⟨y, rfl, hy, hb6⟩
    have ty : (y.toList == j.toList) = true := Wm.eq_true (by rw [hy, HC.out])
    have HB6 := Lib.hid (Wm.next HB5.out hb6)
    clear hy hb6
    go_wp2
    go_ret
    exact ⟨by simp, HB6.out⟩

theorem own : ownKnob Try.prog.godebug = none := by kernel_rfl
theorem laidOut : laidOutB Try.prog = true := by kernel_rfl

theorem contract (H : Type) (enc : TypeId × Value → H) (W : World) (base : Nat) (args : Array Value) (ds gs : List (DataW H)) (before : List MemPlace)
    (hval : ∀ (j : Nat) t v, Try.f6.params[j]? = some t → args[j]? = some v → Value.okWide Try.prog W .any base t v)
    (hW : DataW.Whole enc Try.prog Try.f6.params.toList Rows.fnResultsAreCleanSpec.vars false W args.toList ds gs before)
    (hk : Rows.uptoSmall H (ds ++ gs) = true)
    : Calls Try.prog 6 args W fun e W' => ∃ v, e = .returned v ∧ Rows.fnResultsAreCleanSpec.post enc Try.prog Try.f6 false true false false W args v W' := by
  have hW' := hW
  obtain ⟨p, q, hA0, hV, rfl, hfz, hnd⟩ := hW
  have hA : DataW.TrodAll enc Try.prog W 0 (fun _ => true) true Try.f6.params.toList args.toList ds p := hA0
  rw [Try.params6] at hA hval
  obtain ⟨v0, vs0, d0, ds0, p0, q0, hargs, rfl, rfl, h0, r0⟩ := trodAll_cons hA
  obtain ⟨v1, vs1, d1, ds1, p1, q1, rfl, rfl, rfl, h1, r1⟩ := trodAll_cons r0
  obtain ⟨rfl, rfl, rfl⟩ := trodAll_nil r1
  obtain rfl : args = #[v0, v1] := by cases args; simp_all
  obtain ⟨rfl, rfl⟩ := trodVars_none hV
  obtain ⟨a0, rfl, rfl, rfl, w0⟩ := open_string Try.underlying9 (hval 0 9 v0 rfl rfl) h0
  obtain ⟨a1, len1, cap1, rfl⟩ := okWide_slice Try.underlying22 (hval 1 22 v1 rfl rfl)
  have k1 := h1
  have lt1 : ∀ x ∈ p1, x.block < W.heap.size := by obtain ⟨m, hm⟩ := k1; exact DataW.trod_lt m _ _ _ hm
  obtain ⟨z1, w1, e1⟩ : ∃ zs, Wm.IsStrs W a1 len1 cap1 zs ∧ Wm.StrsData zs len1 d1 := by
    obtain ⟨fuel, hf⟩ := h1
    exact Wm.open_strs Try.underlying22 Try.underlying9 (by kernel_rfl) hf
  clear hA0
  have hb : Rows.uptoBulkAll _ ≤ 1048576 := of_decide_eq_true hk
  simp only [List.append_nil] at hb
  have b0 : a0.size ≤ 1048576 := Bulk.str_le hb (by simp)
  have b1 : Wm.sumLen z1 + z1.length ≤ 1048576 := Bulk.strs_le e1 hb (by simp)
  refine (walk a0 a1 len1 cap1 z1 W b0 w1 b1).mono fun e W' ⟨he, bel⟩ => ?_
  subst he
  exact ⟨_, rfl, _, _, _, [], _, [], hW', trodAll_mk1 (shut_bool Try.underlying4 _), (trodAll_cons_mk (shut_string Try.underlying9 w0) (trodAll_cons_mk (Below.trod laidOut (by kernel_rfl) (of_decide_eq_true (by kernel_rfl)) k1 bel lt1) trodAll_mk0)), rfl, bel.frame _, fun h => by cases h⟩

set_option maxRecDepth 100000 in
theorem lifted (os : Os) (started : os.Started) (H : Type) (enc : TypeId × Value → H) (F : Stop.Interp) :
    ReturnsInHanded {} Try.checked os 6 .any ((Rows.OpenSpec.upto Rows.fnResultsAreCleanSpec).pre6 enc Try.prog Try.f6 Rows.fnResultsAreCleanUptoRow.domain false) (((Rows.OpenSpec.upto Rows.fnResultsAreCleanSpec).at F).post enc Try.prog Try.f6 false true false false) := by
  refine returnsInHanded_of_cond (C := Try.checked) (s := Rows.OpenSpec.upto Rows.fnResultsAreCleanSpec) (k := Rows.uptoSmall) rfl own started (by kernel_rfl) Try.func6
    (OpenSpec.witness (enc := enc) (C := Try.checked) (s := Rows.OpenSpec.upto Rows.fnResultsAreCleanSpec) (k := Rows.uptoSmall) rfl false ⟨#[], #[.string .empty, .slice none 0 0], []⟩ 8 (by kernel_rfl) (by kernel_rfl) (by kernel_rfl)
      (x := ([.lit (.string []), .nil], [], [])) (by kernel_rfl) rfl (by kernel_rfl)) ?_
  intro W base args ds gs before hval hW _ hk _
  exact contract H enc W base args ds gs before hval hW hk

theorem proved : Rows.FnResultsAreCleanUptoSaid :=
  OpenClaim.holds_of_cond 6 Try.f6 rfl rfl rfl rfl rfl rfl rfl ⟨rfl, rfl, rfl, rfl, rfl⟩ rfl rfl rfl rfl rfl (by kernel_rfl) Try.func6 (by kernel_rfl)
    (of_decide_eq_true (by kernel_rfl)) (by unfold Func.isWrapper; first | (rw [if_pos (by decide +kernel)]; kernel_rfl) | (rw [if_neg (by decide +kernel)]; exact ⟨rfl, rfl⟩))
    (fun os started H enc _ F => lifted os started H enc F)
#print axioms proved
end Go.Proofs.Ytgigodblbiiahaa.fnResultsAreClean
