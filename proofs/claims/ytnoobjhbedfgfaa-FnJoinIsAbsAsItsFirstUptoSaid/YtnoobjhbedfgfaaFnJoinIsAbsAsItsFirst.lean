/-
  PROVED: The result of Join begins with a slash if and only if its first element that is not empty does; it is empty if and only if all elements are: the law FnJoinIsAbsAsItsFirst returns true at every slice of strings. Condition (the second form): what it reads is of bulk at most 1048576.
-/
import Derived.Test.YtnoobjhbedfgfaaImpl
import Derived.Test.YtnoobjhbedfgfaaPlain2
namespace Go.Proofs.Ytnoobjhbedfgfaa.fnJoinIsAbsAsItsFirst
open Go Go.ChangeShapes Go.WideShapes Go.ChangeAt Go.RowKit
open Go.ChangeMaps (open_string shut_string)
open Go.Proofs.Ytnoobjhbedfgfaa.Wm (bs)
open Go.Lib

set_option maxHeartbeats 800000 in
theorem walk (a0 : Option Addr) (len0 cap0 : Nat) (z0 : List ByteArray) (w : World) (w0 : Wm.IsStrs w a0 len0 cap0 z0) (b0 : Wm.sumLen z0 + z0.length ≤ 1048576) :
    Calls Try.prog 13 #[.slice a0 len0 cap0] w fun e w' => e = .returned (.bool true) ∧ Below w.heap.size w w' := by
  have hS := w0.at
  have hsum := Wm.sumLen_take z0 len0
  have hlen : (z0.take len0).length ≤ z0.length := by rw [List.length_take]; omega
  rw [hS.1] at hlen
  generalize z0.take len0 = xs at hS hsum
  have hl : xs.length = len0 := hS.1
  have HS := Lib.hid hS
  have HL := Lib.hid hl
  clear hS w0 hl
  have h1 : len0 ≤ 1048576 := by omega
  have h2 : Wm.sumLen xs + len0 ≤ 1048576 := by omega
  clear b0 hsum hlen
  go_enter Try.func13, Try.ntmps13
  go_wp2
  go_loop [3, 9] (fun f i => ∃ (k : Nat) (s : ByteArray), k ≤ len0 ∧ i = .int .i64 k ∧ f = .string s ∧ Hid (bs s = Wm.fstOf ((xs.take k).map bs))) (fun _ i => len0 - (RowKit.intOf i).toNat)
  case atStart => exact ⟨0, _, Nat.zero_le _, rfl, rfl, rfl⟩
  case round =>
    obtain ⟨k, s, hk, rfl, rfl, hs⟩ := hrel
    by_cases hlt : k < len0
    · obtain ⟨b, o, rfl, hb, hcells⟩ := HS.out.addr (by omega)
      have hkx : k < xs.length := by have := HL.out; omega
      have hcell := hcells k _ (List.getElem?_eq_getElem hkx)
      have HX := Lib.hid (show xs.take (k + 1) = xs.take k ++ [xs[k]] from List.take_succ_eq_append_getElem hkx)
      generalize xs[k] = x at hcell HX
      clear hcells hb
      have HN : Hid (Wm.fstOf ((xs.take (k + 1)).map bs) = if bs s = [] then bs x else bs s) := by
        show _ = _
        rw [HX.out, List.map_append, List.map_cons, List.map_nil, Wm.fstOf_snoc, hs.out]
      by_cases h0 : bs s = []
      · have t0 := Wm.empty_true h0
        have HR : Hid (bs x = Wm.fstOf ((xs.take (k + 1)).map bs)) := by show _ = _; rw [HN.out, if_pos h0]
        clear h0
        go_wp2
        go_round
        case rel => exact ⟨k + 1, x, by omega, by go_num, rfl, HR⟩
        case measure => simp [RowKit.intOf]; omega
      · have t0 := Wm.empty_false h0
        have HR : Hid (bs s = Wm.fstOf ((xs.take (k + 1)).map bs)) := by show _ = _; rw [HN.out, if_neg h0]
        clear h0
        go_wp2
        go_round
        case rel => exact ⟨k + 1, s, by omega, by go_num, rfl, HR⟩
        case measure => simp [RowKit.intOf]; omega
    · obtain rfl : k = len0 := by omega
      have hs' : bs s = Wm.fstOf (xs.map bs) := by
        have := hs.out
        rwa [List.take_of_length_le (by rw [HL.out]; exact Nat.le_refl _)] at this
      have HF := Lib.hid hs'
      clear hs hs'
      go_wp2_with fail
      refine (Wm.impl_Join_at a0 k cap0 xs _ HS.out (by omega)).mono ?_
      rintro e w1 ⟨j, rfl, hj, hb1⟩
      rcases Wm.fstOf_join (xs.map bs) with ⟨hj0, hf0⟩ | ⟨hj0, hf0, hab⟩
      · have tj := Wm.empty_true (hj.trans hj0)
        have ts := Wm.empty_true (HF.out.trans hf0)
        have rj : Pa.isAbs (bs j) = false := by rw [hj, hj0]; rfl
        have rs : Pa.isAbs (bs s) = false := by rw [HF.out, hf0]; rfl
        have RJ := Lib.hid rj
        have RS := Lib.hid rs
        clear hj hj0 hf0 rj rs
        go_wp2_with fail
        refine (Wm.hasPrefix_slash j _ false RJ.out).mono ?_
        rintro e w2 ⟨rfl, rfl⟩
        go_wp2_with fail
        refine (Wm.hasPrefix_slash s _ false RS.out).mono ?_
        rintro e w2 ⟨rfl, rfl⟩
        go_wp2
        go_ret
        exact ⟨by simp, hb1⟩
      · have tj := Wm.empty_false (a := j) (by rw [hj]; exact hj0)
        have ts := Wm.empty_false (a := s) (by rw [HF.out]; exact hf0)
        obtain ⟨r, hr⟩ : ∃ r, Pa.isAbs (bs s) = r := ⟨_, rfl⟩
        have RJ := Lib.hid (show Pa.isAbs (bs j) = r by rw [hj, hab, ← HF.out, hr])
        have RS := Lib.hid hr
        clear hj hj0 hf0 hr hab
        go_wp2_with fail
        refine (Wm.hasPrefix_slash j _ r RJ.out).mono ?_
        rintro e w2 ⟨rfl, rfl⟩
        go_wp2_with fail
        refine (Wm.hasPrefix_slash s _ r RS.out).mono ?_
        rintro e w2 ⟨rfl, rfl⟩
        go_wp2
        go_ret
        exact ⟨by simp, hb1⟩

theorem own : ownKnob Try.prog.godebug = none := by kernel_rfl
theorem laidOut : laidOutB Try.prog = true := by kernel_rfl

theorem contract (H : Type) (enc : TypeId × Value → H) (W : World) (base : Nat) (args : Array Value) (ds gs : List (DataW H)) (before : List MemPlace)
    (hval : ∀ (j : Nat) t v, Try.f13.params[j]? = some t → args[j]? = some v → Value.okWide Try.prog W .any base t v)
    (hW : DataW.Whole enc Try.prog Try.f13.params.toList Rows.fnJoinIsAbsAsItsFirstSpec.vars false W args.toList ds gs before)
    (hk : Rows.uptoSmall H (ds ++ gs) = true)
    : Calls Try.prog 13 args W fun e W' => ∃ v, e = .returned v ∧ Rows.fnJoinIsAbsAsItsFirstSpec.post enc Try.prog Try.f13 false true false false W args v W' := by
  have hW' := hW
  obtain ⟨p, q, hA0, hV, rfl, hfz, hnd⟩ := hW
  have hA : DataW.TrodAll enc Try.prog W 0 (fun _ => true) true Try.f13.params.toList args.toList ds p := hA0
  rw [Try.params13] at hA hval
  obtain ⟨v0, vs0, d0, ds0, p0, q0, hargs, rfl, rfl, h0, r0⟩ := trodAll_cons hA
  obtain ⟨rfl, rfl, rfl⟩ := trodAll_nil r0
  obtain rfl : args = #[v0] := by cases args; simp_all
  obtain ⟨rfl, rfl⟩ := trodVars_none hV
  obtain ⟨a0, len0, cap0, rfl⟩ := okWide_slice Try.underlying27 (hval 0 27 v0 rfl rfl)
  have k0 := h0
  have lt0 : ∀ x ∈ p0, x.block < W.heap.size := by obtain ⟨m, hm⟩ := k0; exact DataW.trod_lt m _ _ _ hm
  obtain ⟨z0, w0, e0⟩ : ∃ zs, Wm.IsStrs W a0 len0 cap0 zs ∧ Wm.StrsData zs len0 d0 := by
    obtain ⟨fuel, hf⟩ := h0
    exact Wm.open_strs Try.underlying27 Try.underlying9 (by kernel_rfl) hf
  clear hA0
  have hb : Rows.uptoBulkAll _ ≤ 1048576 := of_decide_eq_true hk
  simp only [List.append_nil] at hb
  have b0 : Wm.sumLen z0 + z0.length ≤ 1048576 := Bulk.strs_le e0 hb (by simp)
  refine (walk a0 len0 cap0 z0 W w0 b0).mono fun e W' ⟨he, bel⟩ => ?_
  subst he
  exact ⟨_, rfl, _, _, _, [], _, [], hW', trodAll_mk1 (shut_bool Try.underlying4 _), (trodAll_cons_mk (Below.trod laidOut (by kernel_rfl) (of_decide_eq_true (by kernel_rfl)) k0 bel lt0) trodAll_mk0), rfl, bel.frame _, fun h => by cases h⟩

set_option maxRecDepth 100000 in
theorem lifted (os : Os) (started : os.Started) (H : Type) (enc : TypeId × Value → H) (F : Stop.Interp) :
    ReturnsInHanded {} Try.checked os 13 .any ((Rows.OpenSpec.upto Rows.fnJoinIsAbsAsItsFirstSpec).pre6 enc Try.prog Try.f13 Rows.fnJoinIsAbsAsItsFirstUptoRow.domain false) (((Rows.OpenSpec.upto Rows.fnJoinIsAbsAsItsFirstSpec).at F).post enc Try.prog Try.f13 false true false false) := by
  refine returnsInHanded_of_cond (C := Try.checked) (s := Rows.OpenSpec.upto Rows.fnJoinIsAbsAsItsFirstSpec) (k := Rows.uptoSmall) rfl own started (by kernel_rfl) Try.func13
    (OpenSpec.witness (enc := enc) (C := Try.checked) (s := Rows.OpenSpec.upto Rows.fnJoinIsAbsAsItsFirstSpec) (k := Rows.uptoSmall) rfl false ⟨#[], #[.slice none 0 0], []⟩ 8 (by kernel_rfl) (by kernel_rfl) (by kernel_rfl)
      (x := ([.nil], [], [])) (by kernel_rfl) rfl (by kernel_rfl)) ?_
  intro W base args ds gs before hval hW _ hk _
  exact contract H enc W base args ds gs before hval hW hk

theorem proved : Rows.FnJoinIsAbsAsItsFirstUptoSaid :=
  OpenClaim.holds_of_cond 13 Try.f13 rfl rfl rfl rfl rfl rfl rfl ⟨rfl, rfl, rfl, rfl, rfl⟩ rfl rfl rfl rfl rfl (by kernel_rfl) Try.func13 (by kernel_rfl)
    (of_decide_eq_true (by kernel_rfl)) (by unfold Func.isWrapper; first | (rw [if_pos (by decide +kernel)]; kernel_rfl) | (rw [if_neg (by decide +kernel)]; exact ⟨rfl, rfl⟩))
    (fun os started H enc _ F => lifted os started H enc F)
#print axioms proved
end Go.Proofs.Ytnoobjhbedfgfaa.fnJoinIsAbsAsItsFirst
