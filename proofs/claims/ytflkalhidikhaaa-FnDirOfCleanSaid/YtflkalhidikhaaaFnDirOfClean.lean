/-
  PROVED: Dir of a clean path is what stands before its last slash (a slash if that is the first byte, a dot if there is none); the root and the dot are their own: the law FnDirOfClean returns true at every string. Conditions: none beyond the form's own reach.
-/
import Derived.Test.YtflkalhidikhaaaImpl
import Derived.Test.YtflkalhidikhaaaPlain3
import Derived.Deep.QuietTactic
import Derived.BigQuiet
import Derived.RegionTactic
import Derived.Deep.RegionWith
namespace Go.Proofs.Ytflkalhidikhaaa.fnDirOfClean
open Go Go.ChangeShapes Go.WideShapes Go.ChangeAt Go.RowKit
open Go.ChangeMaps (open_string shut_string)
open Go.Proofs.Ytflkalhidikhaaa.Wm (bs)
open Go.Lib

set_option maxHeartbeats 1600000 in
theorem walk (a0 : ByteArray) (w : World) (b0 : a0.size ≤ 140737488351232) :
    Calls Try.prog 8 #[.string a0] w fun e w' => e = .returned (.bool true) ∧ Below w.heap.size w w' := by
  have hl := (Wm.clean_length (bs a0)).2
  rw [← Wm.size_bs] at hl
  go_enter Try.func8, Try.ntmps8
  go_wp2_with fail
  refine (Wm.impl_Clean a0 _ (by omega)).mono ?_
  rintro e w1 ⟨c, rfl, hc, hb1⟩
  have hcase := Wm.dir_clean_cases (bs a0)
  rw [← hc] at hcase
  have sc : c.size ≤ 140737488351232 := by rw [Wm.size_bs, hc]; omega
  clear hl hc
  obtain ⟨i, hi⟩ : ∃ i, Pa.lastIndexByte (bs c) 47 = i := ⟨_, rfl⟩
  have HI := Lib.hid hi
  clear hi
  go_wp2_with fail
  refine (Wm.lastIndex_byte c 47 _ (by omega)).mono ?_
  rintro e w2 ⟨rfl, rfl⟩
  rw [HI.out]
  rcases hcase with ⟨h1, h2⟩ | ⟨h1, h2⟩ | ⟨h1, h2, h3⟩
  · have t1 : (c.toList == [47]) = true := Wm.lit_true h1
    have HD := Lib.hid (h2.trans h1.symm)
    clear h1 h2
    go_wp2_with fail
    refine (Wm.impl_Dir c _ (by omega)).mono ?_
    rintro e w3 ⟨d, rfl, hd, hb3⟩
    have t3 : (d.toList == c.toList) = true := Wm.eq_true (by rw [hd, HD.out])
    have HB := Lib.hid (Wm.next hb1 hb3)
    clear hd hb1 hb3
    go_wp2
    go_ret
    exact ⟨by simp, HB.out⟩
  · have t1 : (c.toList == [47]) = false := Wm.lit_false (by rw [h1]; decide)
    have t2 : (c.toList == [46]) = true := Wm.lit_true h1
    have HD := Lib.hid (h2.trans h1.symm)
    clear h1 h2
    go_wp2_with fail
    refine (Wm.impl_Dir c _ (by omega)).mono ?_
    rintro e w3 ⟨d, rfl, hd, hb3⟩
    have t3 : (d.toList == c.toList) = true := Wm.eq_true (by rw [hd, HD.out])
    have HB := Lib.hid (Wm.next hb1 hb3)
    clear hd hb1 hb3
    go_wp2
    go_ret
    exact ⟨by simp, HB.out⟩
  · have t1 : (c.toList == [47]) = false := Wm.lit_false h1
    have t2 : (c.toList == [46]) = false := Wm.lit_false h2
    clear h1 h2
    rcases h3 with ⟨h3, h4⟩ | ⟨x, h3, h5, h4⟩ | ⟨d0, x, h6, h3, h5, h4⟩
    · have hi := HI.out
      rw [Wm.last_none h3] at hi
      subst hi
      have HD := Lib.hid h4
      clear h3 h4
      go_wp2_with fail
      refine (Wm.impl_Dir c _ (by omega)).mono ?_
      rintro e w3 ⟨d, rfl, hd, hb3⟩
      have t3 : (d.toList == [46]) = true := Wm.lit_true (by rw [hd, HD.out])
      have HB := Lib.hid (Wm.next hb1 hb3)
      clear hd hb1 hb3
      go_wp2
      go_ret
      exact ⟨by simp, HB.out⟩
    · have hi := HI.out
      have hi0 : i = 0 := by rw [← hi, h3]; exact Wm.last_at (a := []) h5
      subst hi0
      have HD := Lib.hid h4
      clear h3 h4 h5 hi HI
      go_wp2_with fail
      refine (Wm.impl_Dir c _ (by omega)).mono ?_
      rintro e w3 ⟨d, rfl, hd, hb3⟩
      have t3 : (d.toList == [47]) = true := Wm.lit_true (by rw [hd, HD.out])
      have HB := Lib.hid (Wm.next hb1 hb3)
      clear hd hb1 hb3
      go_wp2
      go_ret
      exact ⟨by simp, HB.out⟩
    · have hi := HI.out
      rw [h3, Wm.last_at h5] at hi
      obtain ⟨n, hn⟩ : ∃ n, d0.length = n := ⟨_, rfl⟩
      have hpos : 0 < n := by rw [← hn]; exact List.length_pos_iff.2 h6
      have hle : n ≤ c.size := by rw [Wm.size_bs, h3, ← hn]; simp
      have hin : i = (n : Int) := by rw [← hi, hn]
      subst hin
      have HD := Lib.hid (show Pa.dir (bs c) = bs (c.extract 0 n) by rw [h4, Pa.extract_upto, Wm.bs_mk]; show _ = (bs c).take n; rw [h3, ← hn, List.take_left])
      clear h3 h4 h5 h6 hi HI hn
      have q0 : ¬ ((n : Int) < 0) := by omega
      have q1 : ((n : Int) == 0) = false := beq_eq_false_iff_ne.2 (by omega)
      have q2 : (n : Int) ≤ (c.size : Int) := by omega
      go_wp2_with fail
      go_region_with (go_at_call 24; refine (Wm.impl_Dir c _ (by omega)).mono ?_; rintro e w3 ⟨d, rfl, hd, hb3⟩; have t3 : (d.toList == (c.extract 0 n).toList) = true := Wm.eq_true (hd.trans HD.out); have HB := Lib.hid (Wm.next hb1.drew hb3); clear hd hb3)
      all_goals go_wp2
      all_goals go_ret
      all_goals exact ⟨rfl, HB.out⟩

theorem own : ownKnob Try.prog.godebug = none := by kernel_rfl

theorem contract (H : Type) (enc : TypeId × Value → H) (W : World) (base : Nat) (args : Array Value) (ds gs : List (DataW H)) (before : List MemPlace)
    (hval : ∀ (j : Nat) t v, Try.f8.params[j]? = some t → args[j]? = some v → Value.okWide Try.prog W .any base t v)
    (hW : DataW.Whole enc Try.prog Try.f8.params.toList Rows.fnDirOfCleanSpec.vars false W args.toList ds gs before)
    (hsz : (DataW.weightsEach Try.prog (Try.f8.params.toList ++ Rows.fnDirOfCleanSpec.plain.varTypes Try.prog) (ds ++ gs)).all (· ≤ reachBytes) = true)
    : Calls Try.prog 8 args W fun e W' => ∃ v, e = .returned v ∧ Rows.fnDirOfCleanSpec.post enc Try.prog Try.f8 false true false false W args v W' := by
  have hW' := hW
  obtain ⟨p, q, hA0, hV, rfl, hfz, hnd⟩ := hW
  have hA : DataW.TrodAll enc Try.prog W 0 (fun _ => true) true Try.f8.params.toList args.toList ds p := hA0
  rw [Try.params8] at hA hval hsz
  obtain ⟨v0, vs0, d0, ds0, p0, q0, hargs, rfl, rfl, h0, r0⟩ := trodAll_cons hA
  obtain ⟨rfl, rfl, rfl⟩ := trodAll_nil r0
  obtain rfl : args = #[v0] := by cases args; simp_all
  obtain ⟨rfl, rfl⟩ := trodVars_none hV
  obtain ⟨a0, rfl, rfl, rfl, w0⟩ := open_string Try.underlying9 (hval 0 9 v0 rfl rfl) h0
  clear hA0
  have b0 : a0.size ≤ 140737488351232 := by have h := sized_string hsz (j := 0) (t := 9) rfl rfl; rw [Lib.size_eq]; exact h
  refine (walk a0 W b0).mono fun e W' ⟨he, bel⟩ => ?_
  subst he
  exact ⟨_, rfl, _, _, _, [], _, [], hW', trodAll_mk1 (shut_bool Try.underlying4 _), (trodAll_cons_mk (shut_string Try.underlying9 w0) trodAll_mk0), rfl, bel.frame _, fun h => by cases h⟩

set_option maxRecDepth 100000 in
theorem lifted (os : Os) (started : os.Started) (H : Type) (enc : TypeId × Value → H) :
    ReturnsInHanded {} Try.checked os 8 .any (Rows.fnDirOfCleanSpec.pre6 enc Try.prog Try.f8 Rows.fnDirOfCleanRow.domain false) (Rows.fnDirOfCleanSpec.post enc Try.prog Try.f8 false true false false) := by
  refine returnsInHanded_of_change_sized (C := Try.checked) own started (by kernel_rfl) Try.func8
    (ChangeSpec.witness6 (enc := enc) (C := Try.checked) false ⟨#[], #[.string .empty], []⟩ 8 (by kernel_rfl) (by kernel_rfl) (by kernel_rfl) (by kernel_rfl)) ?_
  intro W base args ds gs before hval hW _ hsz _
  exact contract H enc W base args ds gs before hval hW hsz

theorem proved : Rows.FnDirOfCleanSaid :=
  OpenClaim.holds_of_wide 8 Try.f8 rfl rfl rfl rfl rfl rfl rfl ⟨rfl, rfl, rfl, rfl, rfl⟩ rfl rfl rfl rfl rfl (by kernel_rfl) Try.func8 (by kernel_rfl)
    (of_decide_eq_true (by kernel_rfl)) (by unfold Func.isWrapper; first | (rw [if_pos (by decide +kernel)]; kernel_rfl) | (rw [if_neg (by decide +kernel)]; exact ⟨rfl, rfl⟩))
    (fun os started H enc _ => lifted os started H enc)
#print axioms proved
end Go.Proofs.Ytflkalhidikhaaa.fnDirOfClean
