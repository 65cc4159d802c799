/-
  PROVED: The four rules leave what Clean returns, in whatever order they are applied, each at any place where it can be applied: the law FnCleanInAnyOrder returns true at every string and every slice of integers. Condition (the second form): what it reads is of bulk at most 1048576.
-/
import Derived.Test.YtoaepbobbfgbgaaImpl
import Derived.Test.YtoaepbobbfgbgaaSpecE
namespace Go.Proofs.Ytoaepbobbfgbgaa.fnCleanInAnyOrder
open Go Go.ChangeShapes Go.WideShapes Go.ChangeAt Go.RowKit
open Go.ChangeMaps (open_string shut_string)
open Go.Proofs.Ytoaepbobbfgbgaa.Wm (bs)
open Go.Lib

theorem ints_v {w : World} {a : Option Addr} {len cap : Nat} {zs : List Int} (h : Wm.IsInts w a len cap zs) : Wm.IntsV w a len cap (zs.take len) := by
  rcases h with ⟨rfl, rfl, rfl, rfl⟩ | ⟨x, rfl, hl, _, hs, hc, _⟩
  · exact ⟨rfl, Nat.le_refl _, fun j z hz => by simp at hz⟩
  · refine ⟨by rw [List.length_take]; omega, hl, fun j z hz => ?_⟩
    rw [List.getElem?_take] at hz
    split at hz
    · have hj : j < zs.length := (List.getElem?_eq_some_iff.1 hz).1
      have h0 := hc 0 (by omega)
      obtain ⟨b, o, sp⟩ := x
      have hsp : sp = none := by simpa [Addr.add] using World.cell?_spot h0
      subst hsp
      refine ⟨b, o, rfl, ?_⟩
      rw [← Go.WideShapes.add_plain, hc j hj, List.getD_eq_getElem?_getD, hz]; rfl
    · cases hz

set_option maxHeartbeats 400000 in
theorem walk (a0 : ByteArray) (a1 : Option Addr) (len1 cap1 : Nat) (z1 : List Int) (w : World) (b0 : a0.size ≤ 1048576) (w1 : Wm.IsInts w a1 len1 cap1 z1) (_b1 : z1.length ≤ 1048576) :
    Calls Try.prog 8 #[.string a0, .slice a1 len1 cap1] w fun e w' => e = .returned (.bool true) ∧ Below w.heap.size w w' := by
  have HI := Lib.hid (ints_v w1)
  have HB := Lib.hid (Below.refl w.heap.size w)
  clear w1 _b1
  go_enter Try.func8, Try.ntmps8
  go_wp2_with fail
  refine (Wm.spec_Rewrite a0 a1 len1 cap1 _ _ HI.out (by omega)).mono ?_
  rintro e w1 ⟨c, rfl, hc, hb1⟩
  have HB1 := Lib.hid (Wm.next HB.out hb1)
  have HC := Lib.hid hc
  clear hc hb1
  go_wp2_with fail
  refine (Wm.impl_Clean a0 _ (by omega)).mono ?_
  rintro e w2 ⟨c2, rfl, hc2, hb2⟩
  have HB2 := Lib.hid (Wm.next HB1.out hb2)
  have t1 : (c.toList == c2.toList) = true := Wm.eq_true (HC.out.trans hc2.symm)
  clear hc2 hb2
  go_wp2
  go_ret
  exact ⟨by simp, HB2.out⟩

theorem own : ownKnob Try.prog.godebug = none := by kernel_rfl
theorem laidOut : laidOutB Try.prog = true := by kernel_rfl

theorem contract (H : Type) (enc : TypeId × Value → H) (W : World) (base : Nat) (args : Array Value) (ds gs : List (DataW H)) (before : List MemPlace)
    (hval : ∀ (j : Nat) t v, Try.f8.params[j]? = some t → args[j]? = some v → Value.okWide Try.prog W .any base t v)
    (hW : DataW.Whole enc Try.prog Try.f8.params.toList Rows.fnCleanInAnyOrderSpec.vars false W args.toList ds gs before)
    (hk : Rows.uptoSmall H (ds ++ gs) = true)
    : Calls Try.prog 8 args W fun e W' => ∃ v, e = .returned v ∧ Rows.fnCleanInAnyOrderSpec.post enc Try.prog Try.f8 false true false false W args v W' := by
  have hW' := hW
  obtain ⟨p, q, hA0, hV, rfl, hfz, hnd⟩ := hW
  have hA : DataW.TrodAll enc Try.prog W 0 (fun _ => true) true Try.f8.params.toList args.toList ds p := hA0
  rw [Try.params8] at hA hval
  obtain ⟨v0, vs0, d0, ds0, p0, q0, hargs, rfl, rfl, h0, r0⟩ := trodAll_cons hA
  obtain ⟨v1, vs1, d1, ds1, p1, q1, rfl, rfl, rfl, h1, r1⟩ := trodAll_cons r0
  obtain ⟨rfl, rfl, rfl⟩ := trodAll_nil r1
  obtain rfl : args = #[v0, v1] := by cases args; simp_all
  obtain ⟨rfl, rfl⟩ := trodVars_none hV
  obtain ⟨a0, rfl, rfl, rfl, w0⟩ := open_string Try.underlying9 (hval 0 9 v0 rfl rfl) h0
  obtain ⟨a1, len1, cap1, rfl⟩ := okWide_slice Try.underlying27 (hval 1 27 v1 rfl rfl)
  have k1 := h1
  have lt1 : ∀ x ∈ p1, x.block < W.heap.size := by obtain ⟨m, hm⟩ := k1; exact DataW.trod_lt m _ _ _ hm
  obtain ⟨z1, w1, e1⟩ : ∃ zs, Wm.IsInts W a1 len1 cap1 zs ∧ Wm.IntsData zs len1 d1 := by
    obtain ⟨fuel, hf⟩ := h1
    exact Wm.open_nums Try.underlying27 Try.underlying3 (by kernel_rfl) hf
  clear hA0
  have hb : Rows.uptoBulkAll _ ≤ 1048576 := of_decide_eq_true hk
  simp only [List.append_nil] at hb
  have b0 : a0.size ≤ 1048576 := Bulk.str_le hb (by simp)
  have b1 : z1.length ≤ 1048576 := Bulk.ints_le e1 hb (by simp)
  refine (walk a0 a1 len1 cap1 z1 W b0 w1 b1).mono fun e W' ⟨he, bel⟩ => ?_
  subst he
  exact ⟨_, rfl, _, _, _, [], _, [], hW', trodAll_mk1 (shut_bool Try.underlying4 _), (trodAll_cons_mk (shut_string Try.underlying9 w0) (trodAll_cons_mk (Below.trod laidOut (by kernel_rfl) (of_decide_eq_true (by kernel_rfl)) k1 bel lt1) trodAll_mk0)), rfl, bel.frame _, fun h => by cases h⟩

set_option maxRecDepth 100000 in
theorem lifted (os : Os) (started : os.Started) (H : Type) (enc : TypeId × Value → H) (F : Stop.Interp) :
    ReturnsInHanded {} Try.checked os 8 .any ((Rows.OpenSpec.upto Rows.fnCleanInAnyOrderSpec).pre6 enc Try.prog Try.f8 Rows.fnCleanInAnyOrderUptoRow.domain false) (((Rows.OpenSpec.upto Rows.fnCleanInAnyOrderSpec).at F).post enc Try.prog Try.f8 false true false false) := by
  refine returnsInHanded_of_cond (C := Try.checked) (s := Rows.OpenSpec.upto Rows.fnCleanInAnyOrderSpec) (k := Rows.uptoSmall) rfl own started (by kernel_rfl) Try.func8
    (OpenSpec.witness (enc := enc) (C := Try.checked) (s := Rows.OpenSpec.upto Rows.fnCleanInAnyOrderSpec) (k := Rows.uptoSmall) rfl false ⟨#[], #[.string .empty, .slice none 0 0], []⟩ 8 (by kernel_rfl) (by kernel_rfl) (by kernel_rfl)
      (x := ([.lit (.string []), .nil], [], [])) (by kernel_rfl) rfl (by kernel_rfl)) ?_
  intro W base args ds gs before hval hW _ hk _
  exact contract H enc W base args ds gs before hval hW hk

theorem proved : Rows.FnCleanInAnyOrderUptoSaid :=
  OpenClaim.holds_of_cond 8 Try.f8 rfl rfl rfl rfl rfl rfl rfl ⟨rfl, rfl, rfl, rfl, rfl⟩ rfl rfl rfl rfl rfl (by kernel_rfl) Try.func8 (by kernel_rfl)
    (of_decide_eq_true (by kernel_rfl)) (by unfold Func.isWrapper; first | (rw [if_pos (by decide +kernel)]; kernel_rfl) | (rw [if_neg (by decide +kernel)]; exact ⟨rfl, rfl⟩))
    (fun os started H enc _ F => lifted os started H enc F)
#print axioms proved
end Go.Proofs.Ytoaepbobbfgbgaa.fnCleanInAnyOrder
