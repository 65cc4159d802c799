/-
  PROVED: The results of Clean and Join are absolute if and only if the path, and the first element that is not empty, are: the law FnResultsKeepRoot returns true at every string and every slice of strings. Condition (the second form): what it reads is of bulk at most 1048576.
-/
import Derived.Test.YtnoobjhbedfgfaaImpl
import Derived.Test.YtnoobjhbedfgfaaPlain2
namespace Go.Proofs.Ytnoobjhbedfgfaa.fnResultsKeepRoot
open Go Go.ChangeShapes Go.WideShapes Go.ChangeAt Go.RowKit
open Go.ChangeMaps (open_string shut_string)
open Go.Proofs.Ytnoobjhbedfgfaa.Wm (bs)
open Go.Lib

theorem both (xs : List (List UInt8)) (j s : ByteArray) (hj : bs j = Pa.join xs) (hs : bs s = Wm.fstOf xs) : Pa.isAbs (bs j) = Pa.isAbs (bs s) := by
  rw [hj, hs]
  rcases Wm.fstOf_join xs with ⟨h1, h2⟩ | ⟨_, _, h⟩
  · rw [h1, h2]
  · exact h

set_option maxHeartbeats 800000 in
theorem walk (a0 : ByteArray) (a1 : Option Addr) (len1 cap1 : Nat) (z1 : List ByteArray) (w : World) (b0 : a0.size ≤ 1048576) (w1 : Wm.IsStrs w a1 len1 cap1 z1) (b1 : Wm.sumLen z1 + z1.length ≤ 1048576) :
    Calls Try.prog 14 #[.string a0, .slice a1 len1 cap1] w fun e w' => e = .returned (.bool true) ∧ Below w.heap.size w w' := by
  obtain ⟨xs, hS, h2, _⟩ := w1.all b1
  have HL := Lib.hid hS.1
  have HS := Lib.hid hS
  clear hS w1 b1
  go_enter Try.func14, Try.ntmps14
  go_wp2
  go_loop [5, 10] (fun f i => ∃ (k : Nat) (s : ByteArray), k ≤ len1 ∧ i = .int .i64 k ∧ f = .string s ∧ Hid (bs s = Wm.fstOf ((xs.take k).map bs))) (fun _ i => len1 - (RowKit.intOf i).toNat)
  case atStart => exact ⟨0, _, Nat.zero_le _, rfl, rfl, rfl⟩
  case round =>
    obtain ⟨k, s, hk, rfl, rfl, hs⟩ := hrel
    by_cases hlt : k < len1
    · obtain ⟨b, o, rfl, hb, hcells⟩ := HS.out.addr (by omega)
      have hkx : k < xs.length := by have := HL.out; omega
      have hcell := hcells k _ (List.getElem?_eq_getElem hkx)
      have HX := Lib.hid (show xs.take (k + 1) = xs.take k ++ [xs[k]] from List.take_succ_eq_append_getElem hkx)
      generalize xs[k] = x at hcell HX
      clear hcells hb
      have HN : Hid (Wm.fstOf ((xs.take (k + 1)).map bs) = if bs s = [] then bs x else bs s) := by
        show _ = _
        rw [HX.out, List.map_append, List.map_cons, List.map_nil, Wm.fstOf_snoc, hs.out]
      by_cases h0 : bs s = []
      · have t0 := Wm.empty_true h0
        have HR : Hid (bs x = Wm.fstOf ((xs.take (k + 1)).map bs)) := by show _ = _; rw [HN.out, if_pos h0]
        clear h0
        go_wp2
        go_round
        case rel => exact ⟨k + 1, x, by omega, by go_num, rfl, HR⟩
        case measure => simp [RowKit.intOf]; omega
      · have t0 := Wm.empty_false h0
        have HR : Hid (bs s = Wm.fstOf ((xs.take (k + 1)).map bs)) := by show _ = _; rw [HN.out, if_neg h0]
        clear h0
        go_wp2
        go_round
        case rel => exact ⟨k + 1, s, by omega, by go_num, rfl, HR⟩
        case measure => simp [RowKit.intOf]; omega
    · obtain rfl : k = len1 := by omega
      have hs' : bs s = Wm.fstOf (xs.map bs) := by
        have := hs.out
        rwa [List.take_of_length_le (by rw [HL.out]; exact Nat.le_refl _)] at this
      have HF := Lib.hid hs'
      clear hs hs'
      obtain ⟨r, hr⟩ : ∃ r, Pa.isAbs (bs a0) = r := ⟨_, rfl⟩
      obtain ⟨q, hq⟩ : ∃ q, Pa.isAbs (bs s) = q := ⟨_, rfl⟩
      have HR := Lib.hid hr
      have HQ := Lib.hid hq
      clear hr hq
      go_wp2_with fail
      refine (Wm.impl_Clean a0 _ (by omega)).mono ?_
      rintro e w1 ⟨c, rfl, hc, hb1⟩
      have HC := Lib.hid hc
      clear hc
      go_wp2_with fail
      refine (Wm.impl_IsAbs_val c _ r (by rw [HC.out, Wm.isAbs_clean, HR.out])).mono ?_
      rintro e w2 ⟨rfl, rfl⟩
      go_wp2_with fail
      refine (Wm.impl_IsAbs_val a0 _ r HR.out).mono ?_
      rintro e w2 ⟨rfl, rfl⟩
      have tr : (r == r) = true := by simp
      go_wp2_with fail
      refine (Wm.impl_Join_at a1 k cap1 xs _ (HS.out.below hb1) (by omega)).mono ?_
      rintro e w2 ⟨j, rfl, hj, hb2⟩
      have HJ := Lib.hid hj
      have HB := Lib.hid (Wm.next hb1 hb2)
      clear hj hb1 hb2
      go_wp2_with fail
      refine (Wm.impl_IsAbs_val j _ q (by rw [both _ j s HJ.out HF.out, HQ.out])).mono ?_
      rintro e w3 ⟨rfl, rfl⟩
      go_wp2_with fail
      refine (Wm.impl_IsAbs_val s _ q HQ.out).mono ?_
      rintro e w3 ⟨rfl, rfl⟩
      have tq : (q == q) = true := by simp
      go_wp2_with fail
      refine (Wm.impl_IsAbs_val a0 _ r HR.out).mono ?_
      rintro e w3 ⟨rfl, rfl⟩
      go_wp2_with fail
      refine (Wm.hasPrefix_slash a0 _ r HR.out).mono ?_
      rintro e w3 ⟨rfl, rfl⟩
      go_wp2
      go_ret
      exact ⟨by simp, HB.out⟩

theorem own : ownKnob Try.prog.godebug = none := by kernel_rfl
theorem laidOut : laidOutB Try.prog = true := by kernel_rfl

theorem contract (H : Type) (enc : TypeId × Value → H) (W : World) (base : Nat) (args : Array Value) (ds gs : List (DataW H)) (before : List MemPlace)
    (hval : ∀ (j : Nat) t v, Try.f14.params[j]? = some t → args[j]? = some v → Value.okWide Try.prog W .any base t v)
    (hW : DataW.Whole enc Try.prog Try.f14.params.toList Rows.fnResultsKeepRootSpec.vars false W args.toList ds gs before)
    (hk : Rows.uptoSmall H (ds ++ gs) = true)
    : Calls Try.prog 14 args W fun e W' => ∃ v, e = .returned v ∧ Rows.fnResultsKeepRootSpec.post enc Try.prog Try.f14 false true false false W args v W' := by
  have hW' := hW
  obtain ⟨p, q, hA0, hV, rfl, hfz, hnd⟩ := hW
  have hA : DataW.TrodAll enc Try.prog W 0 (fun _ => true) true Try.f14.params.toList args.toList ds p := hA0
  rw [Try.params14] at hA hval
  obtain ⟨v0, vs0, d0, ds0, p0, q0, hargs, rfl, rfl, h0, r0⟩ := trodAll_cons hA
  obtain ⟨v1, vs1, d1, ds1, p1, q1, rfl, rfl, rfl, h1, r1⟩ := trodAll_cons r0
  obtain ⟨rfl, rfl, rfl⟩ := trodAll_nil r1
  obtain rfl : args = #[v0, v1] := by cases args; simp_all
  obtain ⟨rfl, rfl⟩ := trodVars_none hV
  obtain ⟨a0, rfl, rfl, rfl, w0⟩ := open_string Try.underlying9 (hval 0 9 v0 rfl rfl) h0
  obtain ⟨a1, len1, cap1, rfl⟩ := okWide_slice Try.underlying27 (hval 1 27 v1 rfl rfl)
  have k1 := h1
  have lt1 : ∀ x ∈ p1, x.block < W.heap.size := by obtain ⟨m, hm⟩ := k1; exact DataW.trod_lt m _ _ _ hm
  obtain ⟨z1, w1, e1⟩ : ∃ zs, Wm.IsStrs W a1 len1 cap1 zs ∧ Wm.StrsData zs len1 d1 := by
    obtain ⟨fuel, hf⟩ := h1
    exact Wm.open_strs Try.underlying27 Try.underlying9 (by kernel_rfl) hf
  clear hA0
  have hb : Rows.uptoBulkAll _ ≤ 1048576 := of_decide_eq_true hk
  simp only [List.append_nil] at hb
  have b0 : a0.size ≤ 1048576 := Bulk.str_le hb (by simp)
  have b1 : Wm.sumLen z1 + z1.length ≤ 1048576 := Bulk.strs_le e1 hb (by simp)
  refine (walk a0 a1 len1 cap1 z1 W b0 w1 b1).mono fun e W' ⟨he, bel⟩ => ?_
  subst he
  exact ⟨_, rfl, _, _, _, [], _, [], hW', trodAll_mk1 (shut_bool Try.underlying4 _), (trodAll_cons_mk (shut_string Try.underlying9 w0) (trodAll_cons_mk (Below.trod laidOut (by kernel_rfl) (of_decide_eq_true (by kernel_rfl)) k1 bel lt1) trodAll_mk0)), rfl, bel.frame _, fun h => by cases h⟩

set_option maxRecDepth 100000 in
theorem lifted (os : Os) (started : os.Started) (H : Type) (enc : TypeId × Value → H) (F : Stop.Interp) :
    ReturnsInHanded {} Try.checked os 14 .any ((Rows.OpenSpec.upto Rows.fnResultsKeepRootSpec).pre6 enc Try.prog Try.f14 Rows.fnResultsKeepRootUptoRow.domain false) (((Rows.OpenSpec.upto Rows.fnResultsKeepRootSpec).at F).post enc Try.prog Try.f14 false true false false) := by
  refine returnsInHanded_of_cond (C := Try.checked) (s := Rows.OpenSpec.upto Rows.fnResultsKeepRootSpec) (k := Rows.uptoSmall) rfl own started (by kernel_rfl) Try.func14
    (OpenSpec.witness (enc := enc) (C := Try.checked) (s := Rows.OpenSpec.upto Rows.fnResultsKeepRootSpec) (k := Rows.uptoSmall) rfl false ⟨#[], #[.string .empty, .slice none 0 0], []⟩ 8 (by kernel_rfl) (by kernel_rfl) (by kernel_rfl)
      (x := ([.lit (.string []), .nil], [], [])) (by kernel_rfl) rfl (by kernel_rfl)) ?_
  intro W base args ds gs before hval hW _ hk _
  exact contract H enc W base args ds gs before hval hW hk

theorem proved : Rows.FnResultsKeepRootUptoSaid :=
  OpenClaim.holds_of_cond 14 Try.f14 rfl rfl rfl rfl rfl rfl rfl ⟨rfl, rfl, rfl, rfl, rfl⟩ rfl rfl rfl rfl rfl (by kernel_rfl) Try.func14 (by kernel_rfl)
    (of_decide_eq_true (by kernel_rfl)) (by unfold Func.isWrapper; first | (rw [if_pos (by decide +kernel)]; kernel_rfl) | (rw [if_neg (by decide +kernel)]; exact ⟨rfl, rfl⟩))
    (fun os started H enc _ F => lifted os started H enc F)
#print axioms proved
end Go.Proofs.Ytnoobjhbedfgfaa.fnResultsKeepRoot
