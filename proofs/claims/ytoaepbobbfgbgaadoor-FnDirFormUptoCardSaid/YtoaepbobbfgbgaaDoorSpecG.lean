/-
  The contract of the reference's Alike: two paths lead to the same place just where Clean returns the same for both.
-/
import Derived.Test.YtoaepbobbfgbgaaDoorSpecF
import Derived.RegionTactic
import Derived.Deep.QuietTactic
import Derived.BigQuiet
namespace Go.Proofs.YtoaepbobbfgbgaaDoor.Wm
open Go Go.RowKit

theorem take_next {N1 N2 : List ByteArray} {k : Nat} (h1 : k < N1.length) (h2 : k < N2.length) (h : (N1.take k).map bs = (N2.take k).map bs) (hx : bs N1[k] = bs N2[k]) : (N1.take (k + 1)).map bs = (N2.take (k + 1)).map bs := by
  rw [List.take_succ_eq_append_getElem h1, List.take_succ_eq_append_getElem h2, List.map_append, List.map_append, h, List.map_cons, List.map_cons, hx]
theorem int_ne {a b : Nat} (h : a ≠ b) : ((a : Int) == (b : Int)) = false ∧ ((a : Int) != (b : Int)) = true := by
  have h1 : (a : Int) ≠ (b : Int) := by omega
  exact ⟨beq_eq_false_iff_ne.2 h1, bne_iff_ne.2 h1⟩

set_option maxHeartbeats 4000000 in
theorem alike_any (s t : ByteArray) (w : World) (hs : s.size ≤ 2097152) (ht : t.size ≤ 2097152) (r : Bool) (hr : r = decide (Lib.Pa.clean (bs s) = Lib.Pa.clean (bs t))) :
    Calls Tryd.prog 9 #[.string s, .string t] w fun e w' => e = .returned (.bool r) ∧ Below w.heap.size w w' := by
  have HRR := Lib.hid hr
  clear hr
  go_enter Tryd.func9, Tryd.ntmps9
  go_wp2_with fail
  refine (meaning_any s _ hs).mono ?_
  rintro e w1 ⟨up1, v1, N1, rfl, hown1, hm1, hu1, hn1, hb1⟩
  obtain ⟨va1, vc1, rfl, hv1⟩ := hown1.v
  have HV1 := Lib.hid hv1
  have HB1 := Lib.hid hb1
  have HM1 := Lib.hid hm1
  obtain ⟨ro1, hro1⟩ : ∃ ro, Lib.Pa.isAbs (bs s) = ro := ⟨_, rfl⟩
  rw [hro1]
  have HO1 := Lib.hid hro1
  clear hown1 hv1 hb1 hm1 hro1
  go_wp2_with fail
  refine (meaning_any t _ ht).mono ?_
  rintro e w2 ⟨up2, v2, N2, rfl, hown2, hm2, hu2, hn2, hb2⟩
  obtain ⟨va2, vc2, rfl, hv2⟩ := hown2.v
  obtain ⟨ro2, hro2⟩ : ∃ ro, Lib.Pa.isAbs (bs t) = ro := ⟨_, rfl⟩
  rw [hro2]
  have HB2 := Lib.hid (next HB1.out hb2)
  have HV12 := Lib.hid (HV1.out.below hb2)
  have HV22 := Lib.hid hv2
  have HC : Hid (Lib.Pa.clean (bs s) = Lib.Pa.clean (bs t) ↔ ro1 = ro2 ∧ up1 = up2 ∧ N1.map bs = N2.map bs) := by
    show _ ↔ _
    rw [← HO1.out, ← hro2]
    exact means_clean HM1.out hm2
  clear hown2 hm2 hb2 hv2 hro2 HM1 HV1 HB1 HO1
  have HBW : ∀ (C1 C2 : Array Value), Hid (Below w.heap.size w ((w2.alloc (.cells C1 39)).alloc (.cells C2 39))) := fun C1 C2 =>
    (HB2.out.alloc HB2.out.size _).alloc (by rw [alloc_size]; exact Nat.le_succ_of_le HB2.out.size) _
  have HW2 := Lib.hid HBW
  clear HBW
  by_cases hro : ro1 = ro2
  · subst hro
    by_cases hup : up1 = up2
    · subst hup
      by_cases hln : N1.length = N2.length
      · obtain ⟨n, hn⟩ : ∃ n, N1.length = n := ⟨_, rfl⟩
        rw [hn] at hln HV12 hn1 ⊢
        rw [← hln] at HV22 hn2 ⊢
        have hA1 : Box ((w2.alloc (.cells #[.bool ro1, .int .i64 up1, .slice va1 n vc1] 39)).alloc (.cells #[.bool ro1, .int .i64 up1, .slice va2 n vc2] 39)) w2.heap.size ro1 up1 (.slice va1 n vc1) :=
          (box_alloc w2 ro1 up1 (.slice va1 n vc1)).keep (Below.heap_alloc _ _ _ (by rw [alloc_size]; omega))
        have hA2 : Box ((w2.alloc (.cells #[.bool ro1, .int .i64 up1, .slice va1 n vc1] 39)).alloc (.cells #[.bool ro1, .int .i64 up1, .slice va2 n vc2] 39)) (w2.heap.size + 1) ro1 up1 (.slice va2 n vc2) := by
          have h := box_alloc (w2.alloc (.cells #[.bool ro1, .int .i64 up1, .slice va1 n vc1] 39)) ro1 up1 (.slice va2 n vc2)
          rw [alloc_size] at h
          exact h
        have hbW : Below w2.heap.size w2 ((w2.alloc (.cells #[.bool ro1, .int .i64 up1, .slice va1 n vc1] 39)).alloc (.cells #[.bool ro1, .int .i64 up1, .slice va2 n vc2] 39)) :=
          ((Below.refl _ _).alloc (Nat.le_refl _) _).alloc (by rw [alloc_size]; omega) _
        have HBF := Lib.hid (HW2.out #[.bool ro1, .int .i64 up1, .slice va1 n vc1] #[.bool ro1, .int .i64 up1, .slice va2 n vc2]).out
        have HV13 := Lib.hid (HV12.out.below hbW)
        have HV23 := Lib.hid (HV22.out.below hbW)
        have HC1 := Lib.hid hA1.c2.1
        have HC2 := Lib.hid hA2.c2.1
        have HN1 := Lib.hid hn
        have HN2 := Lib.hid hln.symm
        clear hA1 hA2 hbW HV12 HV22 HW2 HB2 hn hln
        go_wp2
        generalize ((w2.alloc (.cells #[.bool ro1, .int .i64 up1, .slice va1 n vc1] 39)).alloc (.cells #[.bool ro1, .int .i64 up1, .slice va2 n vc2] 39)) = W at HBF HV13 HV23 HC1 HC2 ⊢
        go_loopw [36] (fun i wr => ∃ k : Nat, i = .int .i64 k ∧ k ≤ n ∧ Hid ((N1.take k).map bs = (N2.take k).map bs) ∧ Hid (Below W.heap.size W wr)) (fun i _ => n - (intOf i).toNat)
        case atStart => exact ⟨0, rfl, Nat.zero_le _, rfl, Below.refl _ _⟩
        case round =>
          obtain ⟨k, rfl, hk, heq, hbw⟩ := hrel
          have c12 : wr.cell? ⟨w2.heap.size, 2, none⟩ = _ := (hbw.out.cell (lt_of_cell HC1.out)).trans HC1.out
          have c22 : wr.cell? ⟨w2.heap.size + 1, 2, none⟩ = _ := (hbw.out.cell (lt_of_cell HC2.out)).trans HC2.out
          by_cases hlt : k < n
          · obtain ⟨b1, o1, rfl, hb1, hcells1⟩ := (HV13.out.below hbw.out).1.addr (by omega)
            obtain ⟨b2, o2, rfl, hb2, hcells2⟩ := (HV23.out.below hbw.out).1.addr (by omega)
            have hk1 : k < N1.length := by rw [HN1.out]; exact hlt
            have hk2 : k < N2.length := by rw [HN2.out]; exact hlt
            have hcell1 := hcells1 k _ (List.getElem?_eq_getElem hk1)
            have hcell2 := hcells2 k _ (List.getElem?_eq_getElem hk2)
            have HT := Lib.hid (fun hx => take_next hk1 hk2 heq.out hx)
            have HX1 := Lib.hid (show (N1.map bs)[k]? = some (bs N1[k]) by rw [List.getElem?_map, List.getElem?_eq_getElem hk1]; rfl)
            have HX2 := Lib.hid (show (N2.map bs)[k]? = some (bs N2[k]) by rw [List.getElem?_map, List.getElem?_eq_getElem hk2]; rfl)
            obtain ⟨x, hx⟩ : ∃ x, N1[k] = x := ⟨_, rfl⟩
            obtain ⟨y, hy⟩ : ∃ y, N2[k] = y := ⟨_, rfl⟩
            rw [hx] at hcell1 HX1 HT
            rw [hy] at hcell2 HX2 HT
            clear hcells1 hcells2 hx hy hk1 hk2
            by_cases hxy : bs x = bs y
            · have txy : (x.toList == y.toList) = true := eq_true hxy
              have txy2 : (x.toList != y.toList) = false := by rw [bne, txy]; rfl
              have HE := Lib.hid (HT.out hxy)
              clear HT hxy heq
              go_wp2
              go_quiet (fail)
              go_wp2
              go_roundw
              case rel => exact ⟨k + 1, by go_num, hlt, HE, below_drewN _ hbw.out⟩
              case measure => simp [intOf]; omega
            · have txy : (x.toList == y.toList) = false := eq_false hxy
              have txy2 : (x.toList != y.toList) = true := by rw [bne, txy]; rfl
              have HF := Lib.hid (show r = false by
                rw [HRR.out, decide_eq_false_iff_not, HC.out]
                rintro ⟨_, _, h⟩
                have := HX1.out
                rw [h, HX2.out] at this
                exact hxy (Option.some.inj this).symm)
              clear HT hxy heq
              go_wp2
              go_quiet (fail)
              go_wp2
              go_ret
              exact ⟨by rw [HF.out]; rfl, below_drewN _ (HBF.out.trans (hbw.out.mono HBF.out.size))⟩
          · obtain rfl : n = k := by omega
            have HF := Lib.hid (show r = true by
              rw [HRR.out, decide_eq_true_eq, HC.out]
              refine ⟨by trivial, by trivial, ?_⟩
              have := heq.out
              rw [List.take_of_length_le (by rw [HN1.out]; exact Nat.le_refl _), List.take_of_length_le (by rw [HN2.out]; exact Nat.le_refl _)] at this
              exact this)
            clear heq
            go_wp2
            go_ret
            exact ⟨by rw [HF.out]; rfl, HBF.out.trans (hbw.out.mono HBF.out.size)⟩
      · obtain ⟨t1, t2⟩ := int_ne hln
        have HF := Lib.hid (show r = false by
          rw [HRR.out, decide_eq_false_iff_not, HC.out]
          rintro ⟨_, _, h⟩
          have := congrArg List.length h
          rw [List.length_map, List.length_map] at this
          exact hln this)
        go_wp2
        go_ret
        exact ⟨by rw [HF.out]; rfl, (HW2.out _ _).out⟩
    · obtain ⟨t1, t2⟩ := int_ne hup
      have HF := Lib.hid (show r = false by
        rw [HRR.out, decide_eq_false_iff_not, HC.out]
        rintro ⟨_, h, _⟩
        exact hup h)
      go_wp2
      go_ret
      exact ⟨by rw [HF.out]; rfl, (HW2.out _ _).out⟩
  · have HF := Lib.hid (show r = false by
      rw [HRR.out, decide_eq_false_iff_not, HC.out]
      rintro ⟨h, _⟩
      exact hro h)
    have tro : (ro1 != ro2) = true := bne_iff_ne.2 hro
    go_wp2
    go_ret
    exact ⟨by rw [HF.out]; rfl, (HW2.out _ _).out⟩

end Go.Proofs.YtoaepbobbfgbgaaDoor.Wm
