/-
  PROVED: Dir of a clean path that is rooted, or leads to a name, is the path joined with ..; it is never empty: the law FnDirIsDotDot returns true at every string. Condition (the second form): what it reads is of bulk at most 1048576.
-/
import Derived.Test.YtoaepbobbfgbgaaImpl
import Derived.Test.YtoaepbobbfgbgaaSpecF
namespace Go.Proofs.Ytoaepbobbfgbgaa.fnDirIsDotDot
open Go Go.ChangeShapes Go.WideShapes Go.ChangeAt Go.RowKit
open Go.ChangeMaps (open_string shut_string)
open Go.Proofs.Ytoaepbobbfgbgaa.Wm (bs)
open Go.Lib

/-- Two dots, as a string. -/
def dd : ByteArray := ⟨#[46, 46]⟩

theorem top_name {ro : Bool} {st : List (List UInt8)} {up : Nat} {N : List (List UInt8)} (h : Wm.Means ro st up N) (hN : N ≠ []) : ∃ x r, st = x :: r ∧ x ≠ [46, 46] := by
  rcases List.eq_nil_or_concat N with rfl | ⟨N', y, rfl⟩
  · exact absurd rfl hN
  · rw [List.concat_eq_append] at h
    refine ⟨y, N'.reverse ++ List.replicate up [46, 46], ?_, h.2.1 y (by simp)⟩
    rw [h.1, List.reverse_append, List.reverse_singleton, List.singleton_append, List.cons_append]

theorem strsAt_two (w : World) (B : Nat) (x y : ByteArray) (t : TypeId) (hB : w.heap.size = B) : Wm.StrsAt (w.alloc (.cells #[.string x, .string y] t)) (some ⟨B, 0, none⟩) 2 [x, y] := by
  subst hB
  exact Wm.strsAt_lit w [x, y] t

set_option maxHeartbeats 1000000 in
theorem walk (a0 : ByteArray) (w : World) (b0 : a0.size ≤ 1048576) :
    Calls Try.prog 13 #[.string a0] w fun e w' => e = .returned (.bool true) ∧ Below w.heap.size w w' := by
  have hl := (Wm.clean_length (bs a0)).2
  rw [← Wm.size_bs] at hl
  go_enter Try.func13, Try.ntmps13
  go_wp2_with fail
  refine (Wm.impl_Clean a0 _ (by omega)).mono ?_
  rintro e w1 ⟨c, rfl, hc, hb1⟩
  have sc : c.size ≤ 1048576 := by rw [Wm.size_bs, hc]; omega
  have HC := Lib.hid hc
  clear hc hl
  go_wp2_with fail
  refine (Wm.impl_Dir c _ (by omega)).mono ?_
  rintro e w2 ⟨d, rfl, hd, hb2⟩
  have td : d.toList.isEmpty = false := Wm.empty_false (by rw [hd]; exact Wm.dir_ne _)
  have HD := Lib.hid hd
  have HB2 := Lib.hid (Wm.next hb1 hb2)
  clear hd hb1 hb2
  go_wp2_with fail
  refine (Wm.meaning_any a0 _ (by omega)).mono ?_
  rintro e w3 ⟨up, v, N, rfl, hown, hm, hu, hn, hb3⟩
  obtain ⟨va, vc, rfl, hv⟩ := hown.v
  have HJ := Lib.hid (show (Pa.isAbs (bs a0) = true ∨ N.length ≠ 0) → Pa.join ([c, dd].map bs) = bs d from fun h => by
    rw [HD.out, HC.out, Wm.dir_dotdot (bs a0) (by
      rcases h with h | h
      · exact .inl h
      · refine .inr (top_name hm (fun e => h ?_))
        have := congrArg List.length e
        rw [List.length_map] at this
        exact this), List.map_cons, List.map_cons, List.map_nil, HC.out]
    rfl)
  have HB3 := Lib.hid (Wm.next HB2.out hb3)
  obtain ⟨ro, hro⟩ : ∃ ro, Pa.isAbs (bs a0) = ro := ⟨_, rfl⟩
  rw [hro] at HJ ⊢
  clear hown hm hv hb3 HB2 HC HD hro
  obtain ⟨n, hn'⟩ : ∃ n, N.length = n := ⟨_, rfl⟩
  rw [hn'] at hn HJ ⊢
  clear hn'
  by_cases hz : ro = false ∧ n = 0
  · obtain ⟨rfl, rfl⟩ := hz
    clear HJ
    go_wp2
    go_ret
    exact ⟨by simp, HB3.out.alloc HB3.out.size _⟩
  · have HE : Hid (Pa.join ([c, dd].map bs) = bs d) := HJ.out (by
      cases ro with
      | true => exact .inl rfl
      | false => exact .inr (fun e => hz ⟨rfl, e⟩))
    have hsl : Wm.sumLen [c, dd] + 2 ≤ 281474976710656 := by
      rw [show [c, dd] = [c] ++ [dd] from rfl, Wm.sumLen_append, Wm.sumLen_one, Wm.sumLen_one]
      show c.size + 2 + 2 ≤ _
      omega
    clear HJ
    cases ro with
    | true =>
      clear hz
      go_wp2_with fail
      refine (Wm.impl_Join_at (some ⟨w3.heap.size + 1, 0, none⟩) 2 2 [c, ⟨#[46, 46]⟩] _ (strsAt_two (w3.alloc (.cells #[.bool true, .int .i64 up, .slice va n vc] 34)) (w3.heap.size + 1) c ⟨#[46, 46]⟩ 9 (Wm.alloc_size _ _)) hsl).mono ?_
      rintro e w4 ⟨x, rfl, hx, hb4⟩
      have tx : (d.toList == x.toList) = true := Wm.eq_true (hx.trans HE.out).symm
      have HB4 := Lib.hid (Wm.next ((HB3.out.alloc HB3.out.size _).alloc (by rw [Wm.alloc_size]; exact Nat.le_succ_of_le HB3.out.size) _) hb4)
      clear hx hb4
      go_wp2
      go_ret
      exact ⟨by simp, HB4.out⟩
    | false =>
      have tn : ((n : Int) == 0) = false := beq_eq_false_iff_ne.2 (fun e => hz ⟨rfl, by omega⟩)
      clear hz
      go_wp2_with fail
      refine (Wm.impl_Join_at (some ⟨w3.heap.size + 1, 0, none⟩) 2 2 [c, ⟨#[46, 46]⟩] _ (strsAt_two (w3.alloc (.cells #[.bool false, .int .i64 up, .slice va n vc] 34)) (w3.heap.size + 1) c ⟨#[46, 46]⟩ 9 (Wm.alloc_size _ _)) hsl).mono ?_
      rintro e w4 ⟨x, rfl, hx, hb4⟩
      have tx : (d.toList == x.toList) = true := Wm.eq_true (hx.trans HE.out).symm
      have HB4 := Lib.hid (Wm.next ((HB3.out.alloc HB3.out.size _).alloc (by rw [Wm.alloc_size]; exact Nat.le_succ_of_le HB3.out.size) _) hb4)
      clear hx hb4
      go_wp2
      go_ret
      exact ⟨by simp, HB4.out⟩

theorem own : ownKnob Try.prog.godebug = none := by kernel_rfl

theorem contract (H : Type) (enc : TypeId × Value → H) (W : World) (base : Nat) (args : Array Value) (ds gs : List (DataW H)) (before : List MemPlace)
    (hval : ∀ (j : Nat) t v, Try.f13.params[j]? = some t → args[j]? = some v → Value.okWide Try.prog W .any base t v)
    (hW : DataW.Whole enc Try.prog Try.f13.params.toList Rows.fnDirIsDotDotSpec.vars false W args.toList ds gs before)
    (hk : Rows.uptoSmall H (ds ++ gs) = true)
    : Calls Try.prog 13 args W fun e W' => ∃ v, e = .returned v ∧ Rows.fnDirIsDotDotSpec.post enc Try.prog Try.f13 false true false false W args v W' := by
  have hW' := hW
  obtain ⟨p, q, hA0, hV, rfl, hfz, hnd⟩ := hW
  have hA : DataW.TrodAll enc Try.prog W 0 (fun _ => true) true Try.f13.params.toList args.toList ds p := hA0
  rw [Try.params13] at hA hval
  obtain ⟨v0, vs0, d0, ds0, p0, q0, hargs, rfl, rfl, h0, r0⟩ := trodAll_cons hA
  obtain ⟨rfl, rfl, rfl⟩ := trodAll_nil r0
  obtain rfl : args = #[v0] := by cases args; simp_all
  obtain ⟨rfl, rfl⟩ := trodVars_none hV
  obtain ⟨a0, rfl, rfl, rfl, w0⟩ := open_string Try.underlying9 (hval 0 9 v0 rfl rfl) h0
  clear hA0
  have hb : Rows.uptoBulkAll _ ≤ 1048576 := of_decide_eq_true hk
  simp only [List.append_nil] at hb
  have b0 : a0.size ≤ 1048576 := Bulk.str_le hb (by simp)
  refine (walk a0 W b0).mono fun e W' ⟨he, bel⟩ => ?_
  subst he
  exact ⟨_, rfl, _, _, _, [], _, [], hW', trodAll_mk1 (shut_bool Try.underlying4 _), (trodAll_cons_mk (shut_string Try.underlying9 w0) trodAll_mk0), rfl, bel.frame _, fun h => by cases h⟩

set_option maxRecDepth 100000 in
theorem lifted (os : Os) (started : os.Started) (H : Type) (enc : TypeId × Value → H) (F : Stop.Interp) :
    ReturnsInHanded {} Try.checked os 13 .any ((Rows.OpenSpec.upto Rows.fnDirIsDotDotSpec).pre6 enc Try.prog Try.f13 Rows.fnDirIsDotDotUptoRow.domain false) (((Rows.OpenSpec.upto Rows.fnDirIsDotDotSpec).at F).post enc Try.prog Try.f13 false true false false) := by
  refine returnsInHanded_of_cond (C := Try.checked) (s := Rows.OpenSpec.upto Rows.fnDirIsDotDotSpec) (k := Rows.uptoSmall) rfl own started (by kernel_rfl) Try.func13
    (OpenSpec.witness (enc := enc) (C := Try.checked) (s := Rows.OpenSpec.upto Rows.fnDirIsDotDotSpec) (k := Rows.uptoSmall) rfl false ⟨#[], #[.string .empty], []⟩ 8 (by kernel_rfl) (by kernel_rfl) (by kernel_rfl)
      (x := ([.lit (.string [])], [], [])) (by kernel_rfl) rfl (by kernel_rfl)) ?_
  intro W base args ds gs before hval hW _ hk _
  exact contract H enc W base args ds gs before hval hW hk

theorem proved : Rows.FnDirIsDotDotUptoSaid :=
  OpenClaim.holds_of_cond 13 Try.f13 rfl rfl rfl rfl rfl rfl rfl ⟨rfl, rfl, rfl, rfl, rfl⟩ rfl rfl rfl rfl rfl (by kernel_rfl) Try.func13 (by kernel_rfl)
    (of_decide_eq_true (by kernel_rfl)) (by unfold Func.isWrapper; first | (rw [if_pos (by decide +kernel)]; kernel_rfl) | (rw [if_neg (by decide +kernel)]; exact ⟨rfl, rfl⟩))
    (fun os started H enc _ F => lifted os started H enc F)
#print axioms proved
end Go.Proofs.Ytoaepbobbfgbgaa.fnDirIsDotDot
