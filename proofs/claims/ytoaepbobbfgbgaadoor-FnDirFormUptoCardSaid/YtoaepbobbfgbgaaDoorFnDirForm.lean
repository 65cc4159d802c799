/-
  PROVED: Dir is a dot for the empty path, a slash for slashes that are followed by other bytes alone, and in any other case it does not end with a slash, unless the path consists of slashes, or leads to the root, by its elements before the last one: the law FnDirForm returns true at every string. Condition (the second form): what it reads is of bulk at most 1048576; utf8's two tables hold what the card ties to the program's text (the walk does not read them).
-/
import Derived.Test.YtoaepbobbfgbgaaDoorImpl
import Derived.Test.YtoaepbobbfgbgaaDoorPlain3
import Derived.Test.YtoaepbobbfgbgaaDoorCards
import Derived.Test.YtoaepbobbfgbgaaDoorTie
import Derived.Deep.DeepHandedRow
import Derived.Lib.LaidTab
import Derived.Test.YtoaepbobbfgbgaaDoorPlain7
import Derived.Test.YtoaepbobbfgbgaaDoorSpecG
namespace Go.Proofs.YtoaepbobbfgbgaaDoor.fnDirForm
open Go Go.ChangeShapes Go.WideShapes Go.ChangeAt Go.RowKit
open Go.ChangeMaps (open_string shut_string)
open Go.Proofs.YtoaepbobbfgbgaaDoor.Wm (bs)
open Go.Lib

/-- strings.TrimLeft at the slash. -/
theorem left_val (s : ByteArray) (w : World) :
    Calls Tryd.prog 5 #[.string s, .string ⟨#[47]⟩] w fun e w' => (∃ c : ByteArray, e = .returned (.string c) ∧ bs c = Lib.trimLeftB (bs s) 47) ∧ w = w' := by
  refine (Tryd.strings_TrimLeft_one s 47 (by decide) w).mono ?_
  rintro e w1 ⟨rfl, rfl⟩
  exact ⟨⟨_, rfl, rfl⟩, rfl⟩

/-- A Dir that ends with a slash: what stands before the last element leads to the root. -/
theorem root_of {l : List UInt8} {d p : ByteArray} (hd : bs d = Pa.dir l) (hp : bs p = (Pa.split l).1) (h : Lib.hasSuffix (bs d) [47] = true) :
    true = decide (Pa.clean (bs p) = Pa.clean (bs ⟨#[47]⟩)) := by
  obtain ⟨x, hx⟩ := Wm.hasSuffix_yes h
  have h1 : bs d = Pa.clean (bs p) := by rw [hp]; exact hd
  rw [h1] at hx
  have h2 := Wm.clean_end hx
  have h3 : Pa.clean (bs ⟨#[47]⟩) = [47] := Wm.clean_all_slashes 0
  rw [h2, h3]
  exact (decide_eq_true rfl).symm

set_option maxHeartbeats 3200000 in
theorem walk (a0 : ByteArray) (w : World) (b0 : a0.size ≤ 1048576) :
    Calls Tryd.prog 3 #[.string a0] w fun e w' => e = .returned (.bool true) ∧ Below w.heap.size w w' := by
  go_enter Tryd.func3, Tryd.ntmps3
  go_wp2_with fail
  refine (Wm.impl_Dir a0 _ (by omega)).mono ?_
  rintro e w1 ⟨d, rfl, hd, hb1⟩
  have HD := Lib.hid hd
  have HB1 := Lib.hid hb1
  clear hd hb1
  go_wp2_with fail
  refine (left_val a0 _).mono ?_
  rintro e w2 ⟨⟨r, rfl, hr⟩, rfl⟩
  have HR := Lib.hid hr
  clear hr
  by_cases h0 : bs a0 = []
  · have t0 := Wm.empty_true h0
    have t1 : (d.toList == [46]) = true := Wm.lit_true (by rw [HD.out, h0]; decide)
    clear h0
    go_wp2
    go_ret
    exact ⟨by simp, HB1.out⟩
  · have t0 := Wm.empty_false h0
    clear h0
    by_cases h1 : bs r ≠ bs a0 ∧ bs r ≠ [] ∧ 47 ∉ bs r
    · obtain ⟨h1, h2, h3⟩ := h1
      have t1 := Wm.eq_false h1
      have t2 := Wm.empty_false h2
      have t3 : (d.toList == [47]) = true := Wm.lit_true (by rw [HD.out]; rw [HR.out] at h1 h3; exact Wm.dir_slashes h1 h3)
      have H3 := Lib.hid h3
      clear h1 h2 h3
      go_wp2_with fail
      refine (Wm.contains_no r _ H3.out).mono ?_
      rintro e w2 ⟨rfl, rfl⟩
      go_wp2
      go_ret
      exact ⟨by simp, HB1.out⟩
    · have sd : d.size ≤ 1048577 := by
        have h2 := (Wm.clean_length (Pa.split (bs a0)).1).2
        have h3 := Wm.split_le (bs a0)
        have h4 : bs d = Pa.clean (Pa.split (bs a0)).1 := HD.out
        rw [Wm.size_bs, h4]
        rw [← Wm.size_bs] at h3
        omega
      have hcase : (bs r = bs a0) ∨ (bs r ≠ bs a0 ∧ bs r = []) ∨ (bs r ≠ bs a0 ∧ bs r ≠ [] ∧ 47 ∈ bs r) := by
        by_cases c1 : bs r = bs a0
        · exact .inl c1
        · by_cases c2 : bs r = []
          · exact .inr (.inl ⟨c1, c2⟩)
          · exact .inr (.inr ⟨c1, c2, Classical.byContradiction fun c3 => h1 ⟨c1, c2, c3⟩⟩)
      clear h1
      rcases hcase with h1 | ⟨h1, h2⟩ | ⟨h1, h2, h3⟩
      · have t1 := Wm.eq_true h1
        clear h1 HR
        go_wp2_with fail
        refine (Wm.spec_Split a0 _ (by omega)).mono ?_
        rintro e w3 ⟨p, q, rfl, hp, _, hb3⟩
        have sp : p.size ≤ 1048576 := by
          have h3 := Wm.split_le (bs a0)
          rw [← hp, ← Wm.size_bs, ← Wm.size_bs] at h3
          omega
        have HB3 := Lib.hid (Wm.next HB1.out hb3)
        have HE := Lib.hid (root_of HD.out hp)
        clear hp hb3
        obtain ⟨v, hv⟩ : ∃ v, Lib.hasSuffix (bs d) [47] = v := ⟨_, rfl⟩
        have HV := Lib.hid hv
        clear hv
        go_wp2_with fail
        refine (Wm.hasSuffix_slash d _ v HV.out (by omega)).mono ?_
        rintro e w4 ⟨rfl, rfl⟩
        cases v with
        | false =>
          go_wp2
          go_ret
          exact ⟨by simp, HB3.out⟩
        | true =>
          have HA := Lib.hid (HE.out HV.out)
          go_wp2_with fail
          refine (Wm.alike_any p ⟨#[47]⟩ _ (by omega) (by decide) true HA.out).mono ?_
          rintro e w5 ⟨rfl, hb5⟩
          go_wp2
          go_ret
          exact ⟨by simp, Wm.next HB3.out hb5⟩
      · have t1 := Wm.eq_false h1
        have t2 := Wm.empty_true h2
        clear h1 h2 HR
        go_wp2_with fail
        refine (Wm.spec_Split a0 _ (by omega)).mono ?_
        rintro e w3 ⟨p, q, rfl, hp, _, hb3⟩
        have sp : p.size ≤ 1048576 := by
          have h3 := Wm.split_le (bs a0)
          rw [← hp, ← Wm.size_bs, ← Wm.size_bs] at h3
          omega
        have HB3 := Lib.hid (Wm.next HB1.out hb3)
        have HE := Lib.hid (root_of HD.out hp)
        clear hp hb3
        obtain ⟨v, hv⟩ : ∃ v, Lib.hasSuffix (bs d) [47] = v := ⟨_, rfl⟩
        have HV := Lib.hid hv
        clear hv
        go_wp2_with fail
        refine (Wm.hasSuffix_slash d _ v HV.out (by omega)).mono ?_
        rintro e w4 ⟨rfl, rfl⟩
        cases v with
        | false =>
          go_wp2
          go_ret
          exact ⟨by simp, HB3.out⟩
        | true =>
          have HA := Lib.hid (HE.out HV.out)
          go_wp2_with fail
          refine (Wm.alike_any p ⟨#[47]⟩ _ (by omega) (by decide) true HA.out).mono ?_
          rintro e w5 ⟨rfl, hb5⟩
          go_wp2
          go_ret
          exact ⟨by simp, Wm.next HB3.out hb5⟩
      · have t1 := Wm.eq_false h1
        have t2 := Wm.empty_false h2
        have H3 := Lib.hid h3
        clear h1 h2 h3 HR
        go_wp2_with fail
        refine (Wm.contains_yes r _ H3.out).mono ?_
        rintro e w2 ⟨rfl, rfl⟩
        go_wp2_with fail
        refine (Wm.spec_Split a0 _ (by omega)).mono ?_
        rintro e w3 ⟨p, q, rfl, hp, _, hb3⟩
        have sp : p.size ≤ 1048576 := by
          have h3 := Wm.split_le (bs a0)
          rw [← hp, ← Wm.size_bs, ← Wm.size_bs] at h3
          omega
        have HB3 := Lib.hid (Wm.next HB1.out hb3)
        have HE := Lib.hid (root_of HD.out hp)
        clear hp hb3
        obtain ⟨v, hv⟩ : ∃ v, Lib.hasSuffix (bs d) [47] = v := ⟨_, rfl⟩
        have HV := Lib.hid hv
        clear hv
        go_wp2_with fail
        refine (Wm.hasSuffix_slash d _ v HV.out (by omega)).mono ?_
        rintro e w4 ⟨rfl, rfl⟩
        cases v with
        | false =>
          go_wp2
          go_ret
          exact ⟨by simp, HB3.out⟩
        | true =>
          have HA := Lib.hid (HE.out HV.out)
          go_wp2_with fail
          refine (Wm.alike_any p ⟨#[47]⟩ _ (by omega) (by decide) true HA.out).mono ?_
          rintro e w5 ⟨rfl, hb5⟩
          go_wp2
          go_ret
          exact ⟨by simp, Wm.next HB3.out hb5⟩

theorem own : ownKnob Tryd.prog.godebug = none := by kernel_rfl

theorem contract (H : Type) (enc : TypeId × Value → H) (W : World) (base : Nat) (args : Array Value) (ds gs : List (DataW H)) (before : List MemPlace)
    (hval : ∀ (j : Nat) t v, Tryd.f3.params[j]? = some t → args[j]? = some v → Value.okWide Tryd.prog W .any base t v)
    (hW : DataW.Whole enc Tryd.prog Tryd.f3.params.toList Rows.fnDirFormSpec.vars false W args.toList ds gs before)
    (hk : Rows.uptoSmall H (ds ++ gs) = true)
    : Calls Tryd.prog 3 args W fun e W' => ∃ v, e = .returned v ∧ Rows.fnDirFormSpec.post enc Tryd.prog Tryd.f3 false true false false W args v W' := by
  have hW' := hW
  obtain ⟨p, q, hA0, hV, rfl, hfz, hnd⟩ := hW
  have hA : DataW.TrodAll enc Tryd.prog W 0 (fun _ => true) true Tryd.f3.params.toList args.toList ds p := hA0
  rw [Tryd.params3] at hA hval
  obtain ⟨v0, vs0, d0, ds0, p0, q0, hargs, rfl, rfl, h0, r0⟩ := trodAll_cons hA
  obtain ⟨rfl, rfl, rfl⟩ := trodAll_nil r0
  obtain rfl : args = #[v0] := by cases args; simp_all
  obtain ⟨rfl, rfl⟩ := trodVars_none hV
  obtain ⟨a0, rfl, rfl, rfl, w0⟩ := open_string Tryd.underlying9 (hval 0 9 v0 rfl rfl) h0
  clear hA0
  have hb : Rows.uptoBulkAll _ ≤ 1048576 := of_decide_eq_true hk
  simp only [List.append_nil] at hb
  have b0 : a0.size ≤ 1048576 := Bulk.str_le hb (by simp)
  refine (walk a0 W b0).mono fun e W' ⟨he, bel⟩ => ?_
  subst he
  exact ⟨_, rfl, _, _, _, [], _, [], hW', trodAll_mk1 (shut_bool Tryd.underlying4 _), (trodAll_cons_mk (shut_string Tryd.underlying9 w0) trodAll_mk0), rfl, bel.frame _, fun h => by cases h⟩

/-- A world for the witness: the settled one, utf8's two tables holding what the row lists. -/
def lay (g : Nat) (c : Array Value) (h : Array Obj) : Array Obj := h.modify g fun
  | .cells _ t frozen => .cells c t frozen
  | o => o
def accCells : Array Value := (([128, 191, 160, 191, 128, 159, 144, 191, 128, 143] ++ List.replicate 22 0 : List Int).map fun n => Value.int .u8 n).toArray
def firstCells : Array Value := (Go.Pinned.utf8FirstZ.map fun (n : Nat) => Value.int .u8 n).toArray
noncomputable def laidWorld (os : Os) : World :=
  { World.holding Tryd.prog os ⟨#[], #[], []⟩ with heap := lay 2 accCells (lay 1 firstCells (World.holding Tryd.prog os ⟨#[], #[], []⟩).heap) }
theorem laid_met (os : Os) : laidMet Tryd.prog Rows.fnDirFormUptoRow.laid ((laidWorld os).forCall (fun _ _ => 0) ⟨#[], #[.string .empty], []⟩).memory :=
  laidMet_of_run' 8 (by kernel_rfl) (by kernel_rfl)
theorem reads (os : Os) {H : Type} (enc : TypeId × Value → H) : ∃ places, DataW.whole enc Tryd.prog ((laidWorld os).forCall (fun _ _ => 0) ⟨#[], #[.string .empty], []⟩).memory Tryd.f3.params.toList Rows.fnDirFormSpec.vars false (#[.string .empty] : Array Value).toList 8 = some ([.lit (.string [])], [], places) :=
  ⟨[], by kernel_rfl⟩

set_option maxRecDepth 100000 in
theorem lifted (os : Os) (started : os.Started) (H : Type) (enc : TypeId × Value → H) (F : Stop.Interp) :
    ReturnsInHanded {} Tryd.checked os 3 .any ((Rows.OpenSpec.upto Rows.fnDirFormSpec).preRow enc Tryd.prog Tryd.f3 Rows.fnDirFormUptoRow.domain false Rows.fnDirFormUptoRow.laid) (((Rows.OpenSpec.upto Rows.fnDirFormSpec).at F).post enc Tryd.prog Tryd.f3 false true false false) := by
  obtain ⟨places, hx⟩ := reads os enc
  refine returnsInHanded_of_row (C := Tryd.checked) (s := Rows.OpenSpec.upto Rows.fnDirFormSpec) own started (by kernel_rfl) Tryd.func3
    (witness_row_at (enc := enc) (C := Tryd.checked) false (laidWorld os) #[.string .empty] rfl (by kernel_rfl) (by kernel_rfl) (by kernel_rfl)
      (OpenSpec.preRow_of_cond 8 hx (by kernel_rfl) (fun k hk => by cases hk; kernel_rfl) (by kernel_rfl) (laid_met os))) ?_
  intro W base args ds gs before hval hW _ hcond _ _ _ _
  exact contract H enc W base args ds gs before hval hW (hcond _ rfl)

theorem said : Rows.FnDirFormUptoSaid :=
  OpenClaim.holds_of_cond 3 Tryd.f3 rfl rfl rfl rfl rfl rfl rfl ⟨rfl, rfl, rfl, rfl, rfl⟩ rfl rfl rfl rfl rfl (by kernel_rfl) Tryd.func3 (by kernel_rfl)
    (of_decide_eq_true (by kernel_rfl)) (by unfold Func.isWrapper; first | (rw [if_pos (by decide +kernel)]; kernel_rfl) | (rw [if_neg (by decide +kernel)]; exact ⟨rfl, rfl⟩))
    (fun os started H enc _ F => by rw [OpenClaim.pre_eq_preRow]; exact lifted os started H enc F)

/-- No parameter wants a stand-in; the program's own looks are off: what the card asks. -/
theorem plain (f : FuncId) (fn : Func) (hf : Tryd.pinned.checked.prog.funcNamed "lib-waymark/laws.FnDirForm" = some f) (hfn : Tryd.pinned.checked.prog.funcs[f]? = some fn) :
    false = Tryd.pinned.checked.prog.looks [] ∧ ∀ (j : Nat) t, fn.params[j]? = some t → Tryd.pinned.checked.prog.wantsStandIn t = false := by
  obtain rfl : f = 3 := Option.some.inj ((show Tryd.prog.funcNamed "lib-waymark/laws.FnDirForm" = some 3 by kernel_rfl).symm.trans hf) |>.symm
  obtain rfl : fn = Tryd.f3 := (Option.some.inj (Tryd.func3.symm.trans hfn)).symm
  refine ⟨by kernel_rfl, fun j t ht => ?_⟩
  rw [Tryd.params3] at ht
  have hm : t ∈ [9] := by have := Array.mem_of_getElem? ht; simp at this ⊢; exact this
  have hall : ([9].all fun u => !Tryd.prog.wantsStandIn u) = true := by kernel_rfl
  exact (show Tryd.prog.wantsStandIn t = false by simpa using List.all_eq_true.1 hall t hm)

theorem proved : Rows.FnDirFormUptoCardSaid :=
  Claim7.holds_tied_plain_at .later [] _ _ _ _ said (fun _ h => by cases h) (by kernel_rfl) (fun _ h => by cases h) fnDirFormUpto_row_tie rfl ⟨rfl, rfl⟩ (by kernel_rfl) rfl plain (by kernel_rfl)
#print axioms proved
end Go.Proofs.YtoaepbobbfgbgaaDoor.fnDirForm
