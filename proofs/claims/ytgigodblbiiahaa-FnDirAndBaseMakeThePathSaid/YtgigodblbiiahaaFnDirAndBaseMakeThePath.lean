/-
  PROVED: Dir and Base of a clean path, which is not empty, are, joined, the path: the law FnDirAndBaseMakeThePath returns true at every string. Conditions: none beyond the form's own reach.
-/
import Derived.Test.YtgigodblbiiahaaImpl
import Derived.Test.YtgigodblbiiahaaPlain3
import Derived.Test.YtgigodblbiiahaaSlices
namespace Go.Proofs.Ytgigodblbiiahaa.fnDirAndBaseMakeThePath
open Go Go.ChangeShapes Go.WideShapes Go.ChangeAt Go.RowKit
open Go.ChangeMaps (open_string shut_string)
open Go.Proofs.Ytgigodblbiiahaa.Wm (bs)
open Go.Lib

theorem base_len (l : List UInt8) : (Pa.base l).length ≤ l.length + 1 := by
  rcases Wm.base_cases l with ⟨k, rfl⟩ | ⟨a, f, k, rfl, ha, hf, h47⟩
  · cases k with
    | zero => decide
    | succ k => rw [Wm.base_slashes]; simp
  · rw [Wm.base_mk k ha hf h47]; simp; omega
theorem dir_len (l : List UInt8) : (Pa.dir l).length ≤ l.length + 1 := by
  unfold Pa.dir
  have h1 := (Wm.clean_length (Pa.split l).1).2
  have h2 := Pa.split_fst_le l
  omega

set_option maxHeartbeats 800000 in
theorem walk (a0 : ByteArray) (w : World) (b0 : a0.size ≤ 140737488351232) :
    Calls Try.prog 5 #[.string a0] w fun e w' => e = .returned (.bool true) ∧ Below w.heap.size w w' := by
  have hl := (Wm.clean_length (bs a0)).2
  rw [← Wm.size_bs] at hl
  go_enter Try.func5, Try.ntmps5
  go_wp2_with fail
  refine (Wm.impl_Clean a0 _ (by omega)).mono ?_
  rintro e w1 ⟨c, rfl, hc, hb1⟩
  have tc : c.toList.isEmpty = false := Wm.empty_false (by rw [hc]; exact Wm.clean_ne _)
  have sc : c.size ≤ 140737488351232 := by rw [Wm.size_bs, hc]; omega
  have HJ := Lib.hid (show Pa.join [Pa.dir (bs c), Pa.base (bs c)] = bs c by rw [hc]; exact Wm.join_dir_base _)
  clear hc hl
  go_wp2_with fail
  refine (Wm.impl_Dir c _ (by omega)).mono ?_
  rintro e w2 ⟨d, rfl, hd, hb2⟩
  have sd : d.size ≤ c.size + 1 := by rw [Wm.size_bs d, Wm.size_bs c, hd]; exact dir_len _
  have HD := Lib.hid hd
  have HB2 := Lib.hid (Wm.next hb1 hb2)
  clear hd hb1 hb2
  go_wp2_with fail
  refine (Wm.impl_Base c _ (by omega)).mono ?_
  rintro e w3 ⟨b, rfl, hb, hb3⟩
  have sb : b.size ≤ c.size + 1 := by rw [Wm.size_bs b, Wm.size_bs c, hb]; exact base_len _
  have HE := Lib.hid (show Pa.join ([d, b].map bs) = bs c by rw [← HJ.out, List.map_cons, List.map_cons, List.map_nil, HD.out, hb])
  have HB3 := Lib.hid (Wm.next HB2.out hb3)
  clear hb hb3 HB2 HJ HD
  go_wp2_with fail
  refine (Wm.impl_Join_at _ 2 2 [d, b] _ (Wm.strsAt_lit w3 [d, b] 9) (by simp [Wm.sumLen]; omega)).mono ?_
  rintro e w4 ⟨x, rfl, hx, hb4⟩
  have tx : (x.toList == c.toList) = true := Wm.eq_true (by rw [hx, HE.out])
  have HB4 := Lib.hid (Wm.next (HB3.out.alloc HB3.out.size _) hb4)
  clear hx hb4 HB3
  go_wp2
  go_ret
  exact ⟨by simp, HB4.out⟩

theorem own : ownKnob Try.prog.godebug = none := by kernel_rfl

theorem contract (H : Type) (enc : TypeId × Value → H) (W : World) (base : Nat) (args : Array Value) (ds gs : List (DataW H)) (before : List MemPlace)
    (hval : ∀ (j : Nat) t v, Try.f5.params[j]? = some t → args[j]? = some v → Value.okWide Try.prog W .any base t v)
    (hW : DataW.Whole enc Try.prog Try.f5.params.toList Rows.fnDirAndBaseMakeThePathSpec.vars false W args.toList ds gs before)
    (hsz : (DataW.weightsEach Try.prog (Try.f5.params.toList ++ Rows.fnDirAndBaseMakeThePathSpec.plain.varTypes Try.prog) (ds ++ gs)).all (· ≤ reachBytes) = true)
    : Calls Try.prog 5 args W fun e W' => ∃ v, e = .returned v ∧ Rows.fnDirAndBaseMakeThePathSpec.post enc Try.prog Try.f5 false true false false W args v W' := by
  have hW' := hW
  obtain ⟨p, q, hA0, hV, rfl, hfz, hnd⟩ := hW
  have hA : DataW.TrodAll enc Try.prog W 0 (fun _ => true) true Try.f5.params.toList args.toList ds p := hA0
  rw [Try.params5] at hA hval hsz
  obtain ⟨v0, vs0, d0, ds0, p0, q0, hargs, rfl, rfl, h0, r0⟩ := trodAll_cons hA
  obtain ⟨rfl, rfl, rfl⟩ := trodAll_nil r0
  obtain rfl : args = #[v0] := by cases args; simp_all
  obtain ⟨rfl, rfl⟩ := trodVars_none hV
  obtain ⟨a0, rfl, rfl, rfl, w0⟩ := open_string Try.underlying9 (hval 0 9 v0 rfl rfl) h0
  clear hA0
  have b0 : a0.size ≤ 140737488351232 := by have h := sized_string hsz (j := 0) (t := 9) rfl rfl; rw [Lib.size_eq]; exact h
  refine (walk a0 W b0).mono fun e W' ⟨he, bel⟩ => ?_
  subst he
  exact ⟨_, rfl, _, _, _, [], _, [], hW', trodAll_mk1 (shut_bool Try.underlying4 _), (trodAll_cons_mk (shut_string Try.underlying9 w0) trodAll_mk0), rfl, bel.frame _, fun h => by cases h⟩

set_option maxRecDepth 100000 in
theorem lifted (os : Os) (started : os.Started) (H : Type) (enc : TypeId × Value → H) :
    ReturnsInHanded {} Try.checked os 5 .any (Rows.fnDirAndBaseMakeThePathSpec.pre6 enc Try.prog Try.f5 Rows.fnDirAndBaseMakeThePathRow.domain false) (Rows.fnDirAndBaseMakeThePathSpec.post enc Try.prog Try.f5 false true false false) := by
  refine returnsInHanded_of_change_sized (C := Try.checked) own started (by kernel_rfl) Try.func5
    (ChangeSpec.witness6 (enc := enc) (C := Try.checked) false ⟨#[], #[.string .empty], []⟩ 8 (by kernel_rfl) (by kernel_rfl) (by kernel_rfl) (by kernel_rfl)) ?_
  intro W base args ds gs before hval hW _ hsz _
  exact contract H enc W base args ds gs before hval hW hsz

theorem proved : Rows.FnDirAndBaseMakeThePathSaid :=
  OpenClaim.holds_of_wide 5 Try.f5 rfl rfl rfl rfl rfl rfl rfl ⟨rfl, rfl, rfl, rfl, rfl⟩ rfl rfl rfl rfl rfl (by kernel_rfl) Try.func5 (by kernel_rfl)
    (of_decide_eq_true (by kernel_rfl)) (by unfold Func.isWrapper; first | (rw [if_pos (by decide +kernel)]; kernel_rfl) | (rw [if_neg (by decide +kernel)]; exact ⟨rfl, rfl⟩))
    (fun os started H enc _ => lifted os started H enc)
#print axioms proved
end Go.Proofs.Ytgigodblbiiahaa.fnDirAndBaseMakeThePath
