/-
  PROVED: To clean an element that is not empty before Join makes no difference, if it is the first one or not absolute; the result is not empty: the law FnJoinCleansElements returns true at every slice of strings and every integer. Condition (the second form): what it reads is of bulk at most 1048576.
-/
import Derived.Test.YtgigodblbiiahaaImpl
import Derived.Test.YtgigodblbiiahaaPlain3
import Derived.Test.YtgigodblbiiahaaInsert
namespace Go.Proofs.Ytgigodblbiiahaa.fnJoinCleansElements
open Go Go.ChangeShapes Go.WideShapes Go.ChangeAt Go.RowKit
open Go.ChangeMaps (open_string shut_string)
open Go.Proofs.Ytgigodblbiiahaa.Wm (bs)
open Go.Lib

theorem own_slice {base : Nat} {w : World} {v : Value} {xs : List ByteArray} (h : Wm.OwnStrs base w v xs) (hp : 0 < xs.length) : ∃ g c, v = .slice (some ⟨g, 0, none⟩) xs.length c ∧ base ≤ g := by
  rcases h.2 with ⟨_, hz⟩ | ⟨g, cap, cur, hv, hb, _⟩
  · omega
  · exact ⟨g, cap, hv, hb⟩
theorem set_split (xs : List ByteArray) (i : Nat) (x y : ByteArray) (h : xs[i]? = some x) : xs = xs.take i ++ x :: xs.drop (i + 1) ∧ xs.set i y = xs.take i ++ y :: xs.drop (i + 1) := by
  obtain ⟨hi, hx⟩ := List.getElem?_eq_some_iff.1 h
  constructor
  · rw [← hx, ← List.drop_eq_getElem_cons hi, List.take_append_drop]
  · rw [List.set_eq_take_append_cons_drop, if_pos hi]
theorem sum_split (xs ys : List ByteArray) (x : ByteArray) : Wm.sumLen (xs ++ x :: ys) = Wm.sumLen xs + x.size + Wm.sumLen ys := by
  rw [Wm.sumLen_append, show x :: ys = [x] ++ ys from rfl, Wm.sumLen_append, Wm.sumLen_one]; omega

set_option maxHeartbeats 3200000 in
theorem walk (a0 : Option Addr) (len0 cap0 : Nat) (z0 : List ByteArray) (a1 : Int) (w : World) (w0 : Wm.IsStrs w a0 len0 cap0 z0) (b0 : Wm.sumLen z0 + z0.length ≤ 1048576) (_ : -9223372036854775808 ≤ a1 ∧ a1 ≤ 9223372036854775807) :
    Calls Try.prog 3 #[.slice a0 len0 cap0, .int .i64 a1] w fun e w' => e = .returned (.bool true) ∧ Below w.heap.size w w' := by
  have hX := w0.v
  have hsx := Wm.sumLen_take z0 len0
  have hlx := hX.1.1
  have hlx' : (z0.take len0).length ≤ z0.length := by rw [List.length_take]; omega
  generalize z0.take len0 = xs at hX hsx hlx hlx'
  have sx : Wm.sumLen xs + len0 ≤ 1048576 := by omega
  have HX := Lib.hid hX
  have LX := Lib.hid hlx
  clear w0 hX hsx hlx hlx' b0
  by_cases h0 : len0 = 0
  · have t0 : ((len0 : Int) == 0) = true := by rw [h0]; rfl
    subst h0
    go_enter Try.func3, Try.ntmps3
    go_wp2
    go_ret
    exact ⟨rfl, Below.refl _ _⟩
  have t0 : ((len0 : Int) == 0) = false := beq_eq_false_iff_ne.2 (by omega)
  have hp : 1 ≤ (len0 : Int) := by omega
  obtain ⟨i, hi, hI⟩ := Wm.place_in a1 len0 (by omega) (by omega)
  obtain ⟨b, o, rfl, hb, hcells⟩ := HX.out.1.addr (by omega)
  have hix : i < xs.length := by have := LX.out; omega
  have hcell := hcells i _ (List.getElem?_eq_getElem hix)
  have hE : xs[i]? = some xs[i] := List.getElem?_eq_getElem hix
  have sxi : xs[i].size ≤ 1048576 := by
    have h1 := congrArg Wm.sumLen (set_split xs i _ ByteArray.empty hE).1
    rw [sum_split] at h1
    omega
  generalize xs[i] = x at hcell hE sxi
  have HE := Lib.hid hE
  clear hcells hb hE hix
  by_cases hx0 : bs x = []
  · have n0 := Wm.empty_true hx0
    clear hx0
    go_enter Try.func3, Try.ntmps3
    go_wp2
    go_ret
    exact ⟨rfl, Below.refl _ _⟩
  have n0 := Wm.empty_false hx0
  have N0 := Lib.hid hx0
  clear hx0
  by_cases hi0 : i = 0
  · have HC := Lib.hid (show (xs.take i).map bs = [] ∨ Pa.isAbs (bs x) = false from .inl (by rw [hi0]; rfl))
    have q0 : ¬ (0 < (i : Int)) := by omega
    have q1 : decide (0 < (i : Int)) = false := by simpa using q0
    clear hi0
    go_enter Try.func3, Try.ntmps3
    go_wp2_with fail
    refine (Wm.clone_any _ len0 cap0 xs _ HX.out (by omega)).mono ?_
    rintro e w1 ⟨v, rfl, hown, hb1⟩
    obtain ⟨g, c, rfl, hbg⟩ := own_slice hown (by rw [LX.out]; omega)
    rw [LX.out] at hown
    rw [LX.out]
    have hcell1 : w1.cell? ⟨b, o + i, none⟩ = some (.string x) := by rw [hb1.cell (p := ⟨b, o + i, none⟩) (Wm.lt_of_cell (a := ⟨b, o + i, none⟩) hcell)]; exact hcell
    have HO := Lib.hid hown
    have HB1 := Lib.hid hb1
    clear hown hb1
    go_wp2_with fail
    refine (Wm.impl_Clean x _ (by omega)).mono ?_
    rintro e w2 ⟨d, rfl, hd, hb2⟩
    have sd : d.size ≤ x.size := by rw [Wm.size_bs d, Wm.size_bs x, hd]; exact (Wm.clean_short N0.out).1
    have HO2 : Hid (Wm.OwnStrs w.heap.size w2 (.slice (some ⟨g, 0, none⟩) len0 c) xs) := HO.out.below hb2
    have hown2 : w2.ownsRow w.heap.size 9 1 (.slice (some ⟨g, 0, none⟩) len0 c) len0 (xs.map Value.string) := by have := HO2.out; unfold Wm.OwnStrs at this; rwa [LX.out] at this
    have hc2 : w2.cell? ⟨g, i, none⟩ = some (.string x) := by rw [hown2.cellAt i (by omega), List.getElem?_map, HE.out]; rfl
    have hf2 : w2.frozen? ⟨g, i, none⟩ = false := hown2.frozenAt i
    have hst := (hown2.stored i (.string d)).1
    rw [← List.map_set] at hst
    have HST := Lib.hid hst
    have HD := Lib.hid hd
    have HB2 := Lib.hid (Wm.next HB1.out hb2)
    have HB3 := Lib.hid ((Wm.next HB1.out hb2).setCell (p := ⟨g, i, none⟩) hbg (.string d))
    clear hown2 hst hd hb2 HO HB1 HO2 hcell1
    go_wp2_with fail
    refine (Wm.impl_Join_at _ len0 cap0 xs _ (HX.out.below HB3.out).1 (by omega)).mono ?_
    rintro e w4 ⟨whole, rfl, hw, hb4⟩
    have HW := Lib.hid hw
    have HB4 := Lib.hid (Wm.next HB3.out hb4)
    have hlen : (xs.set i d).length = len0 := by rw [List.length_set, LX.out]
    have hS : Wm.StrsAt (w2.setCell ⟨g, i, none⟩ (.string d)) (some ⟨g, 0, none⟩) len0 (xs.set i d) := Wm.strsAt_own HST.out
    have HS4 := Lib.hid (hS.below hb4)
    have tw : whole.toList.isEmpty = false := Wm.empty_false (by
      rw [hw]
      refine Wm.join_ne ?_
      intro e
      exact N0.out ((Wm.full_nil_iff _).1 e _ (List.mem_map.2 ⟨x, List.mem_of_getElem? HE.out, rfl⟩)))
    have HSP := Lib.hid (set_split xs i x d HE.out)
    have hsum : Wm.sumLen (xs.set i d) ≤ Wm.sumLen xs := by
      have h1 := congrArg Wm.sumLen HSP.out.1
      have h2 := congrArg Wm.sumLen HSP.out.2
      rw [sum_split] at h1 h2
      omega
    clear hw hb4 HB3 HB2 hlen hS HST hc2 hf2
    go_wp2_with fail
    refine (Wm.impl_Join_at _ len0 c (xs.set i d) _ HS4.out (by omega)).mono ?_
    rintro e w5 ⟨other, rfl, ho, hb5⟩
    have to : (other.toList == whole.toList) = true := Wm.eq_true (by
      rw [ho, HW.out, HSP.out.2]
      conv => rhs; rw [HSP.out.1]
      rw [List.map_append, List.map_append, List.map_cons, List.map_cons, HD.out]
      exact Wm.join_clean _ _ _ N0.out HC.out)
    have HB5 := Lib.hid (Wm.next HB4.out hb5)
    clear ho hb5 HB4 HS4
    go_wp2
    go_ret
    exact ⟨by simp, HB5.out⟩
  cases hr : Pa.isAbs (bs x) with
  | true =>
    have HR := Lib.hid hr
    clear hr
    have q0 : 0 < (i : Int) := by omega
    have q1 : decide (0 < (i : Int)) = true := by simpa using q0
    go_enter Try.func3, Try.ntmps3
    go_wp2_with fail
    refine (Wm.hasPrefix_slash x _ true HR.out).mono ?_
    rintro e w1 ⟨rfl, rfl⟩
    go_wp2
    go_ret
    exact ⟨rfl, Below.refl _ _⟩
  | false =>
    have HR := Lib.hid hr
    have HC := Lib.hid (show (xs.take i).map bs = [] ∨ Pa.isAbs (bs x) = false from .inr hr)
    clear hr
    have q0 : 0 < (i : Int) := by omega
    have q1 : decide (0 < (i : Int)) = true := by simpa using q0
    go_enter Try.func3, Try.ntmps3
    go_wp2_with fail
    refine (Wm.hasPrefix_slash x _ false HR.out).mono ?_
    rintro e w1 ⟨rfl, rfl⟩
    go_wp2_with fail
    refine (Wm.clone_any _ len0 cap0 xs _ HX.out (by omega)).mono ?_
    rintro e w1 ⟨v, rfl, hown, hb1⟩
    obtain ⟨g, c, rfl, hbg⟩ := own_slice hown (by rw [LX.out]; omega)
    rw [LX.out] at hown
    rw [LX.out]
    have hcell1 : w1.cell? ⟨b, o + i, none⟩ = some (.string x) := by rw [hb1.cell (p := ⟨b, o + i, none⟩) (Wm.lt_of_cell (a := ⟨b, o + i, none⟩) hcell)]; exact hcell
    have HO := Lib.hid hown
    have HB1 := Lib.hid hb1
    clear hown hb1
    go_wp2_with fail
    refine (Wm.impl_Clean x _ (by omega)).mono ?_
    rintro e w2 ⟨d, rfl, hd, hb2⟩
    have sd : d.size ≤ x.size := by rw [Wm.size_bs d, Wm.size_bs x, hd]; exact (Wm.clean_short N0.out).1
    have HO2 : Hid (Wm.OwnStrs w.heap.size w2 (.slice (some ⟨g, 0, none⟩) len0 c) xs) := HO.out.below hb2
    have hown2 : w2.ownsRow w.heap.size 9 1 (.slice (some ⟨g, 0, none⟩) len0 c) len0 (xs.map Value.string) := by have := HO2.out; unfold Wm.OwnStrs at this; rwa [LX.out] at this
    have hc2 : w2.cell? ⟨g, i, none⟩ = some (.string x) := by rw [hown2.cellAt i (by omega), List.getElem?_map, HE.out]; rfl
    have hf2 : w2.frozen? ⟨g, i, none⟩ = false := hown2.frozenAt i
    have hst := (hown2.stored i (.string d)).1
    rw [← List.map_set] at hst
    have HST := Lib.hid hst
    have HD := Lib.hid hd
    have HB2 := Lib.hid (Wm.next HB1.out hb2)
    have HB3 := Lib.hid ((Wm.next HB1.out hb2).setCell (p := ⟨g, i, none⟩) hbg (.string d))
    clear hown2 hst hd hb2 HO HB1 HO2 hcell1
    go_wp2_with fail
    refine (Wm.impl_Join_at _ len0 cap0 xs _ (HX.out.below HB3.out).1 (by omega)).mono ?_
    rintro e w4 ⟨whole, rfl, hw, hb4⟩
    have HW := Lib.hid hw
    have HB4 := Lib.hid (Wm.next HB3.out hb4)
    have hlen : (xs.set i d).length = len0 := by rw [List.length_set, LX.out]
    have hS : Wm.StrsAt (w2.setCell ⟨g, i, none⟩ (.string d)) (some ⟨g, 0, none⟩) len0 (xs.set i d) := Wm.strsAt_own HST.out
    have HS4 := Lib.hid (hS.below hb4)
    have tw : whole.toList.isEmpty = false := Wm.empty_false (by
      rw [hw]
      refine Wm.join_ne ?_
      intro e
      exact N0.out ((Wm.full_nil_iff _).1 e _ (List.mem_map.2 ⟨x, List.mem_of_getElem? HE.out, rfl⟩)))
    have HSP := Lib.hid (set_split xs i x d HE.out)
    have hsum : Wm.sumLen (xs.set i d) ≤ Wm.sumLen xs := by
      have h1 := congrArg Wm.sumLen HSP.out.1
      have h2 := congrArg Wm.sumLen HSP.out.2
      rw [sum_split] at h1 h2
      omega
    clear hw hb4 HB3 HB2 hlen hS HST hc2 hf2
    go_wp2_with fail
    refine (Wm.impl_Join_at _ len0 c (xs.set i d) _ HS4.out (by omega)).mono ?_
    rintro e w5 ⟨other, rfl, ho, hb5⟩
    have to : (other.toList == whole.toList) = true := Wm.eq_true (by
      rw [ho, HW.out, HSP.out.2]
      conv => rhs; rw [HSP.out.1]
      rw [List.map_append, List.map_append, List.map_cons, List.map_cons, HD.out]
      exact Wm.join_clean _ _ _ N0.out HC.out)
    have HB5 := Lib.hid (Wm.next HB4.out hb5)
    clear ho hb5 HB4 HS4
    go_wp2
    go_ret
    exact ⟨by simp, HB5.out⟩

theorem own : ownKnob Try.prog.godebug = none := by kernel_rfl
theorem laidOut : laidOutB Try.prog = true := by kernel_rfl

theorem contract (H : Type) (enc : TypeId × Value → H) (W : World) (base : Nat) (args : Array Value) (ds gs : List (DataW H)) (before : List MemPlace)
    (hval : ∀ (j : Nat) t v, Try.f3.params[j]? = some t → args[j]? = some v → Value.okWide Try.prog W .any base t v)
    (hW : DataW.Whole enc Try.prog Try.f3.params.toList Rows.fnJoinCleansElementsSpec.vars false W args.toList ds gs before)
    (hk : Rows.uptoSmall H (ds ++ gs) = true)
    : Calls Try.prog 3 args W fun e W' => ∃ v, e = .returned v ∧ Rows.fnJoinCleansElementsSpec.post enc Try.prog Try.f3 false true false false W args v W' := by
  have hW' := hW
  obtain ⟨p, q, hA0, hV, rfl, hfz, hnd⟩ := hW
  have hA : DataW.TrodAll enc Try.prog W 0 (fun _ => true) true Try.f3.params.toList args.toList ds p := hA0
  rw [Try.params3] at hA hval
  obtain ⟨v0, vs0, d0, ds0, p0, q0, hargs, rfl, rfl, h0, r0⟩ := trodAll_cons hA
  obtain ⟨v1, vs1, d1, ds1, p1, q1, rfl, rfl, rfl, h1, r1⟩ := trodAll_cons r0
  obtain ⟨rfl, rfl, rfl⟩ := trodAll_nil r1
  obtain rfl : args = #[v0, v1] := by cases args; simp_all
  obtain ⟨rfl, rfl⟩ := trodVars_none hV
  obtain ⟨a0, len0, cap0, rfl⟩ := okWide_slice Try.underlying22 (hval 0 22 v0 rfl rfl)
  have k0 := h0
  have lt0 : ∀ x ∈ p0, x.block < W.heap.size := by obtain ⟨m, hm⟩ := k0; exact DataW.trod_lt m _ _ _ hm
  obtain ⟨z0, w0, e0⟩ : ∃ zs, Wm.IsStrs W a0 len0 cap0 zs ∧ Wm.StrsData zs len0 d0 := by
    obtain ⟨fuel, hf⟩ := h0
    exact Wm.open_strs Try.underlying22 Try.underlying9 (by kernel_rfl) hf
  obtain ⟨a1, rfl, rfl, rfl, w1⟩ := open_int Try.underlying3 (hval 1 3 v1 rfl rfl) h1
  clear hA0
  have hb : Rows.uptoBulkAll _ ≤ 1048576 := of_decide_eq_true hk
  simp only [List.append_nil] at hb
  have b0 : Wm.sumLen z0 + z0.length ≤ 1048576 := Bulk.strs_le e0 hb (by simp)
  have b1 := Wm.bounds_i64 w1
  refine (walk a0 len0 cap0 z0 a1 W w0 b0 b1).mono fun e W' ⟨he, bel⟩ => ?_
  subst he
  exact ⟨_, rfl, _, _, _, [], _, [], hW', trodAll_mk1 (shut_bool Try.underlying4 _), (trodAll_cons_mk (Below.trod laidOut (by kernel_rfl) (of_decide_eq_true (by kernel_rfl)) k0 bel lt0) (trodAll_cons_mk (shut_int Try.underlying3 w1) trodAll_mk0)), rfl, bel.frame _, fun h => by cases h⟩

set_option maxRecDepth 100000 in
theorem lifted (os : Os) (started : os.Started) (H : Type) (enc : TypeId × Value → H) (F : Stop.Interp) :
    ReturnsInHanded {} Try.checked os 3 .any ((Rows.OpenSpec.upto Rows.fnJoinCleansElementsSpec).pre6 enc Try.prog Try.f3 Rows.fnJoinCleansElementsUptoRow.domain false) (((Rows.OpenSpec.upto Rows.fnJoinCleansElementsSpec).at F).post enc Try.prog Try.f3 false true false false) := by
  refine returnsInHanded_of_cond (C := Try.checked) (s := Rows.OpenSpec.upto Rows.fnJoinCleansElementsSpec) (k := Rows.uptoSmall) rfl own started (by kernel_rfl) Try.func3
    (OpenSpec.witness (enc := enc) (C := Try.checked) (s := Rows.OpenSpec.upto Rows.fnJoinCleansElementsSpec) (k := Rows.uptoSmall) rfl false ⟨#[], #[.slice none 0 0, .int .i64 0], []⟩ 8 (by kernel_rfl) (by kernel_rfl) (by kernel_rfl)
      (x := ([.nil, .lit (.int .i64 0)], [], [])) (by kernel_rfl) rfl (by kernel_rfl)) ?_
  intro W base args ds gs before hval hW _ hk _
  exact contract H enc W base args ds gs before hval hW hk

theorem proved : Rows.FnJoinCleansElementsUptoSaid :=
  OpenClaim.holds_of_cond 3 Try.f3 rfl rfl rfl rfl rfl rfl rfl ⟨rfl, rfl, rfl, rfl, rfl⟩ rfl rfl rfl rfl rfl (by kernel_rfl) Try.func3 (by kernel_rfl)
    (of_decide_eq_true (by kernel_rfl)) (by unfold Func.isWrapper; first | (rw [if_pos (by decide +kernel)]; kernel_rfl) | (rw [if_neg (by decide +kernel)]; exact ⟨rfl, rfl⟩))
    (fun os started H enc _ F => lifted os started H enc F)
#print axioms proved
end Go.Proofs.Ytgigodblbiiahaa.fnJoinCleansElements
