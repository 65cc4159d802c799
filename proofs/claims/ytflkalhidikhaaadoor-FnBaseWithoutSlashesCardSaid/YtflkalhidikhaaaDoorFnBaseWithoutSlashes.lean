/-
  PROVED: Slashes at the end of a path that is not empty make no difference to Base, nor does anything before a slash that is followed by other bytes than slashes; the result is not empty: the law FnBaseWithoutSlashes returns true at every pair of strings and every integer. Conditions: none beyond the form's own reach; utf8's two tables hold what the card ties to the program's text (the walk does not read them).
-/
import Derived.Test.YtflkalhidikhaaaDoorImpl
import Derived.Test.YtflkalhidikhaaaDoorPlain3
import Derived.Test.YtflkalhidikhaaaDoorCards
import Derived.Test.YtflkalhidikhaaaDoorTie
import Derived.Deep.DeepHandedRow
import Derived.Lib.LaidTab
import Derived.Test.YtflkalhidikhaaaDoorPlain7
namespace Go.Proofs.YtflkalhidikhaaaDoor.fnBaseWithoutSlashes
open Go Go.ChangeShapes Go.WideShapes Go.ChangeAt Go.RowKit
open Go.ChangeMaps (open_string shut_string)
open Go.Proofs.YtflkalhidikhaaaDoor.Wm (bs)
open Go.Lib

/-- strings.Trim at the slash: is anything left? -/
theorem trim_val (s : ByteArray) (w : World) (hs : s.size ≤ 9223372036854775807) :
    Calls Tryd.prog 6 #[.string s, .string ⟨#[47]⟩] w (Wm.StrIs (Lib.trimB (bs s) 47) w) := by
  refine (Tryd.strings_Trim_one s 47 (by decide) w hs).mono ?_
  rintro e w1 ⟨rfl, rfl | rfl⟩
  · exact ⟨_, rfl, rfl, Below.refl _ _⟩
  · exact ⟨_, rfl, rfl, Wm.below_drewN 1 (Below.refl _ _)⟩

set_option maxHeartbeats 1600000 in
theorem walk (a0 a1 : ByteArray) (a2 : Int) (w : World) (b0 : a0.size ≤ 140737488351232) (b1 : a1.size ≤ 140737488351232) (_ : -9223372036854775808 ≤ a2 ∧ a2 ≤ 9223372036854775807) :
    Calls Tryd.prog 3 #[.string a0, .string a1, .int .i64 a2] w fun e w' => e = .returned (.bool true) ∧ Below w.heap.size w w' := by
  by_cases h0 : bs a0 = []
  · have t0 := Wm.empty_true h0
    clear h0
    go_enter Tryd.func3, Tryd.ntmps3
    go_wp2
    go_ret
    exact ⟨by simp, Below.refl _ _⟩
  · have t0 := Wm.empty_false h0
    have H0 := Lib.hid h0
    clear h0
    obtain ⟨n, hn⟩ : ∃ n : Nat, max (a2.tmod 20) 0 = (n : Int) := ⟨(max (a2.tmod 20) 0).toNat, by omega⟩
    have hn20 : n ≤ 20 := by have := Int.tmod_lt_of_pos a2 (show (0 : Int) < 20 by decide); omega
    have HN := Lib.hid hn
    clear hn
    go_enter Tryd.func3, Tryd.ntmps3
    go_wp2_with fail
    refine (Wm.impl_Base a0 _ (by omega)).mono ?_
    rintro e w1 ⟨b, rfl, hb, hb1⟩
    have tb : b.toList.isEmpty = false := Wm.empty_false (by rw [hb]; exact Wm.base_ne _)
    have HB := Lib.hid hb
    have HW := Lib.hid hb1
    clear hb hb1
    go_wp2_with fail
    rw [HN.out]
    refine (Wm.repeat_slash n _ (by omega)).mono ?_
    rintro e w2 ⟨c, rfl, hc, hb2⟩
    have sc : c.size ≤ 20 := by rw [Wm.size_bs, hc, List.length_replicate]; omega
    have HW2 := Lib.hid (Wm.next HW.out hb2)
    have HC := Lib.hid (show Pa.base (bs (a0 ++ c)) = bs b by rw [Wm.bs_append, hc, HB.out]; exact Wm.base_trailing _ n H0.out)
    have hs2 : a0.size + c.size ≤ 9223372036854775807 := by omega
    clear hc hb2
    go_wp2_with fail
    refine (Wm.impl_Base (a0 ++ c) _ (by rw [ByteArray.size_append]; omega)).mono ?_
    rintro e w3 ⟨d, rfl, hd, hb3⟩
    obtain rfl : b = d := Wm.bs_inj (by rw [hd, HC.out])
    have HW3 := Lib.hid (Wm.next HW2.out hb3)
    clear hd hb3
    go_wp2_with fail
    refine (trim_val a0 _ (by omega)).mono ?_
    rintro e w4 ⟨t, rfl, ht, hb4⟩
    have HW4 := Lib.hid (Wm.next HW3.out hb4)
    clear hb4
    by_cases h1 : bs t = []
    · have t1 := Wm.empty_true h1
      clear h1 ht
      go_wp2
      go_ret
      exact ⟨by simp, HW4.out⟩
    · have t1 := Wm.empty_false h1
      have HT := Lib.hid (show ¬ ∃ k, bs a0 = Wm.slashes k by
        rintro ⟨k, hk⟩
        rw [hk, Wm.trimB_slashes] at ht
        exact h1 ht)
      clear h1 ht
      have s1 : a1.size + 1 ≤ 9223372036854775807 := by omega
      have s2 : a1.size + 1 + a0.size ≤ 9223372036854775807 := by omega
      go_wp2_with fail
      refine (Wm.impl_Base _ _ (by simp only [ByteArray.size_append, Wm.size1]; omega)).mono ?_
      rintro e w5 ⟨d, rfl, hd, hb5⟩
      obtain rfl : b = d := Wm.bs_inj (by
        rw [hd, Wm.bs_append, Wm.bs_append, HB.out]
        have := Wm.base_before (bs a1) (bs a0) HT.out
        rw [List.append_assoc]
        exact this.symm)
      have HW5 := Lib.hid (Wm.next HW4.out hb5)
      clear hd hb5
      go_wp2
      go_ret
      exact ⟨by simp, HW5.out⟩

theorem own : ownKnob Tryd.prog.godebug = none := by kernel_rfl

theorem contract (H : Type) (enc : TypeId × Value → H) (W : World) (base : Nat) (args : Array Value) (ds gs : List (DataW H)) (before : List MemPlace)
    (hval : ∀ (j : Nat) t v, Tryd.f3.params[j]? = some t → args[j]? = some v → Value.okWide Tryd.prog W .any base t v)
    (hW : DataW.Whole enc Tryd.prog Tryd.f3.params.toList Rows.fnBaseWithoutSlashesSpec.vars false W args.toList ds gs before)
    (hsz : (DataW.weightsEach Tryd.prog (Tryd.f3.params.toList ++ Rows.fnBaseWithoutSlashesSpec.plain.varTypes Tryd.prog) (ds ++ gs)).all (· ≤ reachBytes) = true)
    : Calls Tryd.prog 3 args W fun e W' => ∃ v, e = .returned v ∧ Rows.fnBaseWithoutSlashesSpec.post enc Tryd.prog Tryd.f3 false true false false W args v W' := by
  have hW' := hW
  obtain ⟨p, q, hA0, hV, rfl, hfz, hnd⟩ := hW
  have hA : DataW.TrodAll enc Tryd.prog W 0 (fun _ => true) true Tryd.f3.params.toList args.toList ds p := hA0
  rw [Tryd.params3] at hA hval hsz
  obtain ⟨v0, vs0, d0, ds0, p0, q0, hargs, rfl, rfl, h0, r0⟩ := trodAll_cons hA
  obtain ⟨v1, vs1, d1, ds1, p1, q1, rfl, rfl, rfl, h1, r1⟩ := trodAll_cons r0
  obtain ⟨v2, vs2, d2, ds2, p2, q2, rfl, rfl, rfl, h2, r2⟩ := trodAll_cons r1
  obtain ⟨rfl, rfl, rfl⟩ := trodAll_nil r2
  obtain rfl : args = #[v0, v1, v2] := by cases args; simp_all
  obtain ⟨rfl, rfl⟩ := trodVars_none hV
  obtain ⟨a0, rfl, rfl, rfl, w0⟩ := open_string Tryd.underlying9 (hval 0 9 v0 rfl rfl) h0
  obtain ⟨a1, rfl, rfl, rfl, w1⟩ := open_string Tryd.underlying9 (hval 1 9 v1 rfl rfl) h1
  obtain ⟨a2, rfl, rfl, rfl, w2⟩ := open_int Tryd.underlying3 (hval 2 3 v2 rfl rfl) h2
  clear hA0
  have b0 : a0.size ≤ 140737488351232 := by have h := sized_string hsz (j := 0) (t := 9) rfl rfl; rw [Lib.size_eq]; exact h
  have b1 : a1.size ≤ 140737488351232 := by have h := sized_string hsz (j := 1) (t := 9) rfl rfl; rw [Lib.size_eq]; exact h
  have b2 := Wm.bounds_i64 w2
  refine (walk a0 a1 a2 W b0 b1 b2).mono fun e W' ⟨he, bel⟩ => ?_
  subst he
  exact ⟨_, rfl, _, _, _, [], _, [], hW', trodAll_mk1 (shut_bool Tryd.underlying4 _), (trodAll_cons_mk (shut_string Tryd.underlying9 w0) (trodAll_cons_mk (shut_string Tryd.underlying9 w1) (trodAll_cons_mk (shut_int Tryd.underlying3 w2) trodAll_mk0))), rfl, bel.frame _, fun h => by cases h⟩

/-- A world for the witness: the settled one, utf8's two tables holding what the row lists. -/
def lay (g : Nat) (c : Array Value) (h : Array Obj) : Array Obj := h.modify g fun
  | .cells _ t frozen => .cells c t frozen
  | o => o
def accCells : Array Value := (([128, 191, 160, 191, 128, 159, 144, 191, 128, 143] ++ List.replicate 22 0 : List Int).map fun n => Value.int .u8 n).toArray
def firstCells : Array Value := (Go.Pinned.utf8FirstZ.map fun (n : Nat) => Value.int .u8 n).toArray
noncomputable def laidWorld (os : Os) : World :=
  { World.holding Tryd.prog os ⟨#[], #[], []⟩ with heap := lay 2 accCells (lay 1 firstCells (World.holding Tryd.prog os ⟨#[], #[], []⟩).heap) }
theorem laid_met (os : Os) : laidMet Tryd.prog Rows.fnBaseWithoutSlashesRow.laid ((laidWorld os).forCall (fun _ _ => 0) ⟨#[], #[.string .empty, .string .empty, .int .i64 0], []⟩).memory :=
  laidMet_of_run' 8 (by kernel_rfl) (by kernel_rfl)
theorem reads (os : Os) {H : Type} (enc : TypeId × Value → H) : ∃ places, DataW.whole enc Tryd.prog ((laidWorld os).forCall (fun _ _ => 0) ⟨#[], #[.string .empty, .string .empty, .int .i64 0], []⟩).memory Tryd.f3.params.toList Rows.fnBaseWithoutSlashesSpec.vars false (#[.string .empty, .string .empty, .int .i64 0] : Array Value).toList 8 = some ([.lit (.string []), .lit (.string []), .lit (.int .i64 0)], [], places) :=
  ⟨[], by kernel_rfl⟩

set_option maxRecDepth 100000 in
theorem lifted (os : Os) (started : os.Started) (H : Type) (enc : TypeId × Value → H) (F : Stop.Interp) :
    ReturnsInHanded {} Tryd.checked os 3 .any ((OpenSpec.ofChange Rows.fnBaseWithoutSlashesSpec).preRow enc Tryd.prog Tryd.f3 Rows.fnBaseWithoutSlashesRow.domain false Rows.fnBaseWithoutSlashesRow.laid) (((OpenSpec.ofChange Rows.fnBaseWithoutSlashesSpec).at F).post enc Tryd.prog Tryd.f3 false true false false) := by
  obtain ⟨places, hx⟩ := reads os enc
  refine returnsInHanded_of_row (C := Tryd.checked) (s := OpenSpec.ofChange Rows.fnBaseWithoutSlashesSpec) own started (by kernel_rfl) Tryd.func3
    (witness_row_at (enc := enc) (C := Tryd.checked) false (laidWorld os) #[.string .empty, .string .empty, .int .i64 0] rfl (by kernel_rfl) (by kernel_rfl) (by kernel_rfl)
      (OpenSpec.preRow_of_cond 8 hx (by kernel_rfl) (fun k hk => by cases hk) (by kernel_rfl) (laid_met os))) ?_
  intro W base args ds gs before hval hW _ _ hsz _ _ _
  exact contract H enc W base args ds gs before hval hW hsz

theorem said : Rows.FnBaseWithoutSlashesSaid :=
  OpenClaim.holds_of_cond 3 Tryd.f3 rfl rfl rfl rfl rfl rfl rfl ⟨rfl, rfl, rfl, rfl, rfl⟩ rfl rfl rfl rfl rfl (by kernel_rfl) Tryd.func3 (by kernel_rfl)
    (of_decide_eq_true (by kernel_rfl)) (by unfold Func.isWrapper; first | (rw [if_pos (by decide +kernel)]; kernel_rfl) | (rw [if_neg (by decide +kernel)]; exact ⟨rfl, rfl⟩))
    (fun os started H enc _ F => by rw [OpenClaim.pre_eq_preRow]; exact lifted os started H enc F)

/-- No parameter wants a stand-in; the program's own looks are off: what the card asks. -/
theorem plain (f : FuncId) (fn : Func) (hf : Tryd.pinned.checked.prog.funcNamed "lib-waymark/laws.FnBaseWithoutSlashes" = some f) (hfn : Tryd.pinned.checked.prog.funcs[f]? = some fn) :
    false = Tryd.pinned.checked.prog.looks [] ∧ ∀ (j : Nat) t, fn.params[j]? = some t → Tryd.pinned.checked.prog.wantsStandIn t = false := by
  obtain rfl : f = 3 := Option.some.inj ((show Tryd.prog.funcNamed "lib-waymark/laws.FnBaseWithoutSlashes" = some 3 by kernel_rfl).symm.trans hf) |>.symm
  obtain rfl : fn = Tryd.f3 := (Option.some.inj (Tryd.func3.symm.trans hfn)).symm
  refine ⟨by kernel_rfl, fun j t ht => ?_⟩
  rw [Tryd.params3] at ht
  have hm : t ∈ [9, 3] := by have := Array.mem_of_getElem? ht; simp at this ⊢; exact this
  have hall : ([9, 3].all fun u => !Tryd.prog.wantsStandIn u) = true := by kernel_rfl
  exact (show Tryd.prog.wantsStandIn t = false by simpa using List.all_eq_true.1 hall t hm)

theorem proved : Rows.FnBaseWithoutSlashesCardSaid :=
  Claim7.holds_tied_plain_at .later [] _ _ _ _ said (fun _ h => by cases h) (by kernel_rfl) (fun _ h => by cases h) fnBaseWithoutSlashes_row_tie rfl ⟨rfl, rfl⟩ (by kernel_rfl) rfl plain (by kernel_rfl)
#print axioms proved
end Go.Proofs.YtflkalhidikhaaaDoor.fnBaseWithoutSlashes
