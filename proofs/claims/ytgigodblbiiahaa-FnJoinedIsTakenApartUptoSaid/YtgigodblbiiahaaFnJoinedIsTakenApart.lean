/-
  PROVED: Base and Dir take apart what was joined with a name: the law FnJoinedIsTakenApart returns true at every slice of strings and every string. Condition (the second form): what it reads is of bulk at most 1048576.
-/
import Derived.Test.YtgigodblbiiahaaImpl
import Derived.Test.YtgigodblbiiahaaPlain3
import Derived.Test.YtgigodblbiiahaaSlices
namespace Go.Proofs.Ytgigodblbiiahaa.fnJoinedIsTakenApart
open Go Go.ChangeShapes Go.WideShapes Go.ChangeAt Go.RowKit
open Go.ChangeMaps (open_string shut_string)
open Go.Proofs.Ytgigodblbiiahaa.Wm (bs)
open Go.Lib

set_option maxHeartbeats 1600000 in
theorem at_name (a0 : Option Addr) (len0 cap0 : Nat) (z0 : List ByteArray) (a1 : ByteArray) (w : World) (w0 : Wm.IsStrs w a0 len0 cap0 z0) (b0 : Wm.sumLen z0 + z0.length ≤ 1048576) (b1 : a1.size ≤ 1048576) (h0 : bs a1 ≠ []) (h1 : bs a1 ≠ [46]) (h2 : bs a1 ≠ [46, 46]) (h47 : 47 ∉ bs a1) :
    Calls Try.prog 10 #[.slice a0 len0 cap0, .string a1] w fun e w' => e = .returned (.bool true) ∧ Below w.heap.size w w' := by
  have hX := w0.v
  have hsx := Wm.sumLen_take z0 len0
  have hlx := hX.1.1
  have hlx' : (z0.take len0).length ≤ z0.length := by rw [List.length_take]; omega
  generalize z0.take len0 = xs at hX hsx hlx hlx'
  have sx : Wm.sumLen xs + len0 ≤ 1048576 := by omega
  have HX := Lib.hid hX
  have LX := Lib.hid hlx
  clear w0 hX hsx hlx hlx' b0
  have HN := Lib.hid (Wm.join_name (xs.map bs) (bs a1) h0 h1 h2 h47)
  have n0 : a1.toList.isEmpty = false := Wm.empty_false h0
  have n1 : (a1.toList == [46]) = false := Wm.lit_false h1
  have n2 : (a1.toList == [46, 46]) = false := Wm.lit_false h2
  have H47 := Lib.hid h47
  clear h0 h1 h2 h47
  go_enter Try.func10, Try.ntmps10
  go_wp2_with fail
  refine (Wm.contains_no a1 _ H47.out).mono ?_
  rintro e w1 ⟨rfl, rfl⟩
  go_wp2_with fail
  refine (Wm.concat_lit _ _ a0 (some ⟨w.heap.size, 0, none⟩) len0 cap0 1 1 xs [a1] (w.alloc (.cells #[.string a1] 9)) (HX.out.below ((Below.refl _ _).alloc (Nat.le_refl _) _)) (Wm.strsV_lit w a1 _) (by omega) (by omega) (by simp)).mono ?_
  rintro e w2 ⟨a, c, rfl, hv, hb2⟩
  have HV := Lib.hid hv
  have HB2 := Lib.hid (Wm.next ((Below.refl w.heap.size w).alloc (Nat.le_refl _) _) hb2)
  clear hv hb2
  go_wp2_with fail
  refine (Wm.impl_Join_at a (len0 + 1) c (xs ++ [a1]) _ HV.out.1 (by rw [Wm.sumLen_append, Wm.sumLen_one]; omega)).mono ?_
  rintro e w3 ⟨p, rfl, hp, hb3⟩
  have hps := Wm.join_size hp
  have hps2 : p.size ≤ 2097154 := by rw [Wm.sumLen_append, Wm.sumLen_one, List.length_append, LX.out, List.length_singleton] at hps; omega
  rw [List.map_append, List.map_cons, List.map_nil] at hp
  have HP := Lib.hid hp
  have HB3 := Lib.hid (Wm.next HB2.out hb3)
  clear hp hps hb3 HB2 HV
  go_wp2_with fail
  refine (Wm.impl_Join_at a0 len0 cap0 xs _ (HX.out.below HB3.out).1 (by omega)).mono ?_
  rintro e w4 ⟨d, rfl, hd, hb4⟩
  have HD := Lib.hid hd
  have HB4 := Lib.hid (Wm.next HB3.out hb4)
  clear hd hb4 HB3
  by_cases hd0 : bs d = []
  · have td := Wm.empty_true hd0
    have HE := Lib.hid (show Pa.dir (bs p) = [46] by rw [HP.out, HN.out.2, if_pos (by rw [← HD.out]; exact hd0)])
    clear hd0
    go_wp2_with fail
    refine (Wm.impl_Base p _ (by omega)).mono ?_
    rintro e w5 ⟨x, rfl, hx, hb5⟩
    have tx : (x.toList == a1.toList) = true := Wm.eq_true (by rw [hx, HP.out]; exact HN.out.1)
    have HB5 := Lib.hid (Wm.next HB4.out hb5)
    clear hx hb5
    go_wp2_with fail
    refine (Wm.impl_Dir p _ (by omega)).mono ?_
    rintro e w6 ⟨y, rfl, hy, hb6⟩
    have ty : (y.toList == [46]) = true := Wm.lit_true (by rw [hy]; exact HE.out)
    have HB6 := Lib.hid (Wm.next HB5.out hb6)
    clear hy hb6
    go_wp2
    go_ret
    exact ⟨by simp, HB6.out⟩
  · have td := Wm.empty_false hd0
    have HE := Lib.hid (show Pa.dir (bs p) = bs d by rw [HP.out, HN.out.2, if_neg (by rw [← HD.out]; exact hd0), HD.out])
    clear hd0
    go_wp2_with fail
    refine (Wm.impl_Base p _ (by omega)).mono ?_
    rintro e w5 ⟨x, rfl, hx, hb5⟩
    have tx : (x.toList == a1.toList) = true := Wm.eq_true (by rw [hx, HP.out]; exact HN.out.1)
    have HB5 := Lib.hid (Wm.next HB4.out hb5)
    clear hx hb5
    go_wp2_with fail
    refine (Wm.impl_Dir p _ (by omega)).mono ?_
    rintro e w6 ⟨y, rfl, hy, hb6⟩
    have ty : (y.toList == d.toList) = true := Wm.eq_true (by rw [hy]; exact HE.out)
    have HB6 := Lib.hid (Wm.next HB5.out hb6)
    clear hy hb6
    go_wp2
    go_ret
    exact ⟨by simp, HB6.out⟩

set_option maxHeartbeats 800000 in
theorem walk (a0 : Option Addr) (len0 cap0 : Nat) (z0 : List ByteArray) (a1 : ByteArray) (w : World) (w0 : Wm.IsStrs w a0 len0 cap0 z0) (b0 : Wm.sumLen z0 + z0.length ≤ 1048576) (b1 : a1.size ≤ 1048576) :
    Calls Try.prog 10 #[.slice a0 len0 cap0, .string a1] w fun e w' => e = .returned (.bool true) ∧ Below w.heap.size w w' := by
  by_cases h0 : bs a1 = []
  · have n0 := Wm.empty_true h0
    clear h0
    go_enter Try.func10, Try.ntmps10
    go_wp2
    go_ret
    exact ⟨rfl, Below.refl _ _⟩
  by_cases h1 : bs a1 = [46]
  · have n0 := Wm.empty_false h0
    have n1 : (a1.toList == [46]) = true := Wm.lit_true h1
    clear h0 h1
    go_enter Try.func10, Try.ntmps10
    go_wp2
    go_ret
    exact ⟨rfl, Below.refl _ _⟩
  by_cases h2 : bs a1 = [46, 46]
  · have n0 := Wm.empty_false h0
    have n1 : (a1.toList == [46]) = false := Wm.lit_false h1
    have n2 : (a1.toList == [46, 46]) = true := Wm.lit_true h2
    clear h0 h1 h2
    go_enter Try.func10, Try.ntmps10
    go_wp2
    go_ret
    exact ⟨rfl, Below.refl _ _⟩
  by_cases h47 : 47 ∈ bs a1
  · have n0 := Wm.empty_false h0
    have n1 : (a1.toList == [46]) = false := Wm.lit_false h1
    have n2 : (a1.toList == [46, 46]) = false := Wm.lit_false h2
    have H47 := Lib.hid h47
    clear h0 h1 h2 h47
    go_enter Try.func10, Try.ntmps10
    go_wp2_with fail
    refine (Wm.contains_yes a1 _ H47.out).mono ?_
    rintro e w0 ⟨rfl, rfl⟩
    go_wp2
    go_ret
    exact ⟨rfl, Below.refl _ _⟩
  exact at_name a0 len0 cap0 z0 a1 w w0 b0 b1 h0 h1 h2 h47

theorem own : ownKnob Try.prog.godebug = none := by kernel_rfl
theorem laidOut : laidOutB Try.prog = true := by kernel_rfl

theorem contract (H : Type) (enc : TypeId × Value → H) (W : World) (base : Nat) (args : Array Value) (ds gs : List (DataW H)) (before : List MemPlace)
    (hval : ∀ (j : Nat) t v, Try.f10.params[j]? = some t → args[j]? = some v → Value.okWide Try.prog W .any base t v)
    (hW : DataW.Whole enc Try.prog Try.f10.params.toList Rows.fnJoinedIsTakenApartSpec.vars false W args.toList ds gs before)
    (hk : Rows.uptoSmall H (ds ++ gs) = true)
    : Calls Try.prog 10 args W fun e W' => ∃ v, e = .returned v ∧ Rows.fnJoinedIsTakenApartSpec.post enc Try.prog Try.f10 false true false false W args v W' := by
  have hW' := hW
  obtain ⟨p, q, hA0, hV, rfl, hfz, hnd⟩ := hW
  have hA : DataW.TrodAll enc Try.prog W 0 (fun _ => true) true Try.f10.params.toList args.toList ds p := hA0
  rw [Try.params10] at hA hval
  obtain ⟨v0, vs0, d0, ds0, p0, q0, hargs, rfl, rfl, h0, r0⟩ := trodAll_cons hA
  obtain ⟨v1, vs1, d1, ds1, p1, q1, rfl, rfl, rfl, h1, r1⟩ := trodAll_cons r0
  obtain ⟨rfl, rfl, rfl⟩ := trodAll_nil r1
  obtain rfl : args = #[v0, v1] := by cases args; simp_all
  obtain ⟨rfl, rfl⟩ := trodVars_none hV
  obtain ⟨a0, len0, cap0, rfl⟩ := okWide_slice Try.underlying22 (hval 0 22 v0 rfl rfl)
  have k0 := h0
  have lt0 : ∀ x ∈ p0, x.block < W.heap.size := by obtain ⟨m, hm⟩ := k0; exact DataW.trod_lt m _ _ _ hm
  obtain ⟨z0, w0, e0⟩ : ∃ zs, Wm.IsStrs W a0 len0 cap0 zs ∧ Wm.StrsData zs len0 d0 := by
    obtain ⟨fuel, hf⟩ := h0
    exact Wm.open_strs Try.underlying22 Try.underlying9 (by kernel_rfl) hf
  obtain ⟨a1, rfl, rfl, rfl, w1⟩ := open_string Try.underlying9 (hval 1 9 v1 rfl rfl) h1
  clear hA0
  have hb : Rows.uptoBulkAll _ ≤ 1048576 := of_decide_eq_true hk
  simp only [List.append_nil] at hb
  have b0 : Wm.sumLen z0 + z0.length ≤ 1048576 := Bulk.strs_le e0 hb (by simp)
  have b1 : a1.size ≤ 1048576 := Bulk.str_le hb (by simp)
  refine (walk a0 len0 cap0 z0 a1 W w0 b0 b1).mono fun e W' ⟨he, bel⟩ => ?_
  subst he
  exact ⟨_, rfl, _, _, _, [], _, [], hW', trodAll_mk1 (shut_bool Try.underlying4 _), (trodAll_cons_mk (Below.trod laidOut (by kernel_rfl) (of_decide_eq_true (by kernel_rfl)) k0 bel lt0) (trodAll_cons_mk (shut_string Try.underlying9 w1) trodAll_mk0)), rfl, bel.frame _, fun h => by cases h⟩

set_option maxRecDepth 100000 in
theorem lifted (os : Os) (started : os.Started) (H : Type) (enc : TypeId × Value → H) (F : Stop.Interp) :
    ReturnsInHanded {} Try.checked os 10 .any ((Rows.OpenSpec.upto Rows.fnJoinedIsTakenApartSpec).pre6 enc Try.prog Try.f10 Rows.fnJoinedIsTakenApartUptoRow.domain false) (((Rows.OpenSpec.upto Rows.fnJoinedIsTakenApartSpec).at F).post enc Try.prog Try.f10 false true false false) := by
  refine returnsInHanded_of_cond (C := Try.checked) (s := Rows.OpenSpec.upto Rows.fnJoinedIsTakenApartSpec) (k := Rows.uptoSmall) rfl own started (by kernel_rfl) Try.func10
    (OpenSpec.witness (enc := enc) (C := Try.checked) (s := Rows.OpenSpec.upto Rows.fnJoinedIsTakenApartSpec) (k := Rows.uptoSmall) rfl false ⟨#[], #[.slice none 0 0, .string .empty], []⟩ 8 (by kernel_rfl) (by kernel_rfl) (by kernel_rfl)
      (x := ([.nil, .lit (.string [])], [], [])) (by kernel_rfl) rfl (by kernel_rfl)) ?_
  intro W base args ds gs before hval hW _ hk _
  exact contract H enc W base args ds gs before hval hW hk

theorem proved : Rows.FnJoinedIsTakenApartUptoSaid :=
  OpenClaim.holds_of_cond 10 Try.f10 rfl rfl rfl rfl rfl rfl rfl ⟨rfl, rfl, rfl, rfl, rfl⟩ rfl rfl rfl rfl rfl (by kernel_rfl) Try.func10 (by kernel_rfl)
    (of_decide_eq_true (by kernel_rfl)) (by unfold Func.isWrapper; first | (rw [if_pos (by decide +kernel)]; kernel_rfl) | (rw [if_neg (by decide +kernel)]; exact ⟨rfl, rfl⟩))
    (fun os started H enc _ F => lifted os started H enc F)
#print axioms proved
end Go.Proofs.Ytgigodblbiiahaa.fnJoinedIsTakenApart
