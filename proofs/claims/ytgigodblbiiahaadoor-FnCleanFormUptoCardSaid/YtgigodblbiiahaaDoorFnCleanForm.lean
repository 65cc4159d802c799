/-
  PROVED: The result of Clean is not empty, has no two slashes side by side, ends with a slash only if it is a slash, has an element . only if it is a dot, and has elements .. at its beginning alone, and none if it is rooted: the law FnCleanForm returns true at every string. Condition (the second form): what it reads is of bulk at most 1048576; utf8's two tables hold what the card ties to the program's text (the walk does not read them).
-/
import Derived.Test.YtgigodblbiiahaaDoorImpl
import Derived.Test.YtgigodblbiiahaaDoorPlain3
import Derived.Test.YtgigodblbiiahaaDoorCards
import Derived.Test.YtgigodblbiiahaaDoorTie
import Derived.Deep.DeepHandedRow
import Derived.Lib.LaidTab
import Derived.Test.YtgigodblbiiahaaDoorPlain7
namespace Go.Proofs.YtgigodblbiiahaaDoor.fnCleanForm
open Go Go.ChangeShapes Go.WideShapes Go.ChangeAt Go.RowKit
open Go.ChangeMaps (open_string shut_string)
open Go.Proofs.YtgigodblbiiahaaDoor.Wm (bs)
open Go.Lib

theorem contains_pair_no (s : ByteArray) (w : World) (m : Int) (hm : w.cell? ⟨0, 0, none⟩ = some (.int .i64 m)) (hs : s.size ≤ 2097152) (h : Lib.contains (bs s) [47, 47] = false) :
    Calls Tryd.prog 5 #[.string s, .string ⟨#[47, 47]⟩] w fun e w' => e = .returned (.bool false) ∧ w = w' := by
  refine (Tryd.strings_Contains s ⟨#[47, 47]⟩ m w (by omega) hm).mono ?_
  rintro e w1 ⟨rfl, rfl⟩
  exact ⟨by rw [← h], rfl⟩
theorem trimPrefix_val (s : ByteArray) (w : World) :
    Calls Tryd.prog 9 #[.string s, .string ⟨#[47]⟩] w fun e w' => (∃ c : ByteArray, e = .returned (.string c) ∧ bs c = Wm.unroot (bs s)) ∧ w = w' := by
  refine (Tryd.strings_TrimPrefix s ⟨#[47]⟩ w).mono ?_
  rintro e w1 ⟨rfl, rfl⟩
  refine ⟨⟨_, rfl, ?_⟩, rfl⟩
  show Lib.trimPrefix (bs s) [47] = Wm.unroot (bs s)
  unfold Lib.trimPrefix Wm.unroot
  rw [← Pa.isAbs_eq]
  cases Lib.hasPrefix (bs s) [47] <;> simp
theorem split_val (s : ByteArray) (w : World) (m : Int) (hm : w.cell? ⟨0, 0, none⟩ = some (.int .i64 m)) (hs : s.size ≤ 2097152) :
    Calls Tryd.prog 8 #[.string s, .string ⟨#[47]⟩] w fun e w' => ∃ xs : List ByteArray, e = .returned (.slice (some ⟨w.heap.size, 0, none⟩) xs.length xs.length) ∧ xs.map bs = Pa.els (bs s) ∧ xs.length ≤ 4194304 ∧ Wm.StrsAt w' (some ⟨w.heap.size, 0, none⟩) xs.length xs ∧ Below w.heap.size w w' := by
  refine (Tryd.strings_Split s ⟨#[47]⟩ m w (by omega) hm (by decide)).mono ?_
  rintro e w1 ⟨rfl, rfl⟩
  have hl := Lib.splitB_all ⟨#[47]⟩ (by decide) 0 _ s rfl
  have hc := Lib.countB_le ⟨#[47]⟩ (by decide) s.size s (Nat.le_refl _)
  refine ⟨Lib.splitB ⟨#[47]⟩ 0 (Lib.countB s ⟨#[47]⟩) s, by rw [hl], Wm.splitB_els s, by rw [hl]; omega, Wm.strsAt_lit w _ _, (Below.refl _ _).alloc (Nat.le_refl _) _⟩

set_option maxHeartbeats 3200000 in
theorem walk (a0 : ByteArray) (w : World) (b0 : a0.size ≤ 1048576) (hsh : w.ShapedOpen Tryd.prog) :
    Calls Tryd.prog 3 #[.string a0] w fun e w' => e = .returned (.bool true) ∧ Below w.heap.size w w' := by
  obtain ⟨m, hm⟩ : ∃ m, w.cell? ⟨0, 0, none⟩ = some (.int .i64 m) := Tryd.laysM144.s1_3 w hsh
  have HM := Lib.hid hm
  clear hm hsh
  have hl := (Wm.clean_length (bs a0)).2
  rw [← Wm.size_bs] at hl
  go_enter Tryd.func3, Tryd.ntmps3
  go_wp2_with fail
  refine (Wm.impl_Clean a0 _ (by omega)).mono ?_
  rintro e w1 ⟨c, rfl, hc, hb1⟩
  have HM1 := Lib.hid ((hb1.cell (p := ⟨0, 0, none⟩) (Wm.lt_of_cell HM.out)).trans HM.out)
  have sc : c.size ≤ 1048577 := by rw [Wm.size_bs, hc]; omega
  have HB1 := Lib.hid hb1
  clear hb1 hl HM
  rcases Wm.clean_cases (bs a0) with h | h | ⟨ro, st, g, hne, h⟩
  · have t1 : (c.toList == [47]) = true := Wm.lit_true (by rw [hc, h])
    clear h hc
    go_wp2
    go_ret
    exact ⟨by simp, HB1.out⟩
  · have t1 : (c.toList == [47]) = false := Wm.lit_false (by rw [hc, h]; decide)
    have t2 : (c.toList == [46]) = true := Wm.lit_true (by rw [hc, h])
    clear h hc
    go_wp2
    go_ret
    exact ⟨by simp, HB1.out⟩
  · rw [h] at hc
    have t1 : (c.toList == [47]) = false := Wm.lit_false (by rw [hc]; exact Wm.rnd_ne_slash g hne)
    have t2 : (c.toList == [46]) = false := Wm.lit_false (by rw [hc]; exact Wm.rnd_ne_dot g hne)
    have t3 := Wm.empty_false (a := c) (by rw [hc]; exact Wm.rnd_ne _ _ g)
    have H1 := Lib.hid (show Lib.contains (bs c) [47, 47] = false by rw [hc]; exact Wm.contains_pair (Wm.rnd_no_pair g hne))
    have H2 := Lib.hid (show Lib.hasSuffix (bs c) [47] = false by rw [hc]; exact Wm.rnd_not_suffix g hne)
    have H3 := Lib.hid (show Pa.isAbs (bs c) = ro by rw [hc]; exact Wm.isAbs_rnd g)
    have H4 := Lib.hid (show Pa.els (Wm.unroot (bs c)) = st.reverse by rw [hc]; exact Wm.els_unroot g hne)
    have HG := Lib.hid g
    clear hc h g hne
    go_wp2_with fail
    refine (contains_pair_no c _ m HM1.out (by omega) H1.out).mono ?_
    rintro e w2 ⟨rfl, rfl⟩
    go_wp2_with fail
    refine (Wm.hasSuffix_slash c _ false H2.out (by omega)).mono ?_
    rintro e w2 ⟨rfl, rfl⟩
    go_wp2_with fail
    refine (Wm.hasPrefix_slash c _ ro H3.out).mono ?_
    rintro e w2 ⟨rfl, rfl⟩
    go_wp2_with fail
    refine (trimPrefix_val c _).mono ?_
    rintro e w2 ⟨⟨d, rfl, hd⟩, rfl⟩
    have sd : d.size ≤ 1048577 := by
      have h1 : (Wm.unroot (bs c)).length ≤ (bs c).length := by
        unfold Wm.unroot
        split <;> simp
      rw [← hd, ← Wm.size_bs, ← Wm.size_bs] at h1
      omega
    have HD := Lib.hid (show Pa.els (bs d) = st.reverse by rw [hd]; exact H4.out)
    clear hd
    go_wp2_with fail
    refine (split_val d _ m HM1.out (by omega)).mono ?_
    rintro e w3 ⟨xs, rfl, hx, hxl, hat, hb3⟩
    have HX := Lib.hid (hx.trans HD.out)
    have HA := Lib.hid hat
    have HB3 := Lib.hid (Wm.next HB1.out hb3)
    obtain ⟨B, hB⟩ : ∃ B, w1.heap.size = B := ⟨_, rfl⟩
    rw [hB] at HA ⊢
    clear hx hat hb3 hB
    obtain ⟨n, hn⟩ : ∃ n, xs.length = n := ⟨_, rfl⟩
    have HN := Lib.hid hn
    rw [hn] at hxl HA ⊢
    clear hn
    go_wp2
    go_loop [4, 31] (fun b i => ∃ k : Nat, k ≤ n ∧ i = .int .i64 k ∧ b = .bool (Wm.named ro st.reverse k)) (fun _ i => n - (RowKit.intOf i).toNat)
    case atStart => exact ⟨0, Nat.zero_le _, rfl, by rw [Wm.named_zero]⟩
    case round =>
      obtain ⟨k, hk, rfl, rfl⟩ := hrel
      by_cases hlt : k < n
      · have hkx : k < xs.length := by have := HN.out; omega
        obtain ⟨b, o, hbo, hcl⟩ := HA.out.2 k _ (List.getElem?_eq_getElem hkx)
        cases hbo
        have hcell : w3.cell? ⟨B, k, none⟩ = some (.string xs[k]) := by rw [Nat.zero_add] at hcl; exact hcl
        have HE := Lib.hid (show st.reverse[k]? = some (bs xs[k]) by rw [← HX.out, List.getElem?_map, List.getElem?_eq_getElem hkx]; rfl)
        clear hcl
        generalize xs[k] = x at hcell HE
        obtain ⟨g1, g2, g3⟩ := Wm.good_reverse HG.out HE.out
        have hs := Wm.named_succ (ro := ro) HE.out
        have t4 := Wm.empty_false g1
        have t5 : (x.toList == [46]) = false := Wm.lit_false g2
        clear g1 g2
        by_cases g4 : bs x = [46, 46]
        · have t6 : (x.toList == [46, 46]) = true := Wm.lit_true g4
          have hz := g3 g4
          have HS := Lib.hid (show Wm.named ro st.reverse (k + 1) = false by rw [hs, hz, g4]; rfl)
          rw [hz]
          clear g3 g4 hs hz
          go_wp2
          go_round
          case rel => exact ⟨k + 1, by omega, by go_num, by rw [HS.out]⟩
          case measure => simp [RowKit.intOf]; omega
        · have t6 : (x.toList == [46, 46]) = false := Wm.lit_false g4
          have HS := Lib.hid (show Wm.named ro st.reverse (k + 1) = true by rw [hs, decide_eq_true g4, Bool.or_true])
          clear g3 g4 hs
          generalize Wm.named ro st.reverse k = b
          cases b
          all_goals
            go_wp2
            go_round
            case rel => exact ⟨k + 1, by omega, by go_num, by rw [HS.out]⟩
            case measure => simp [RowKit.intOf]; omega
      · generalize Wm.named ro st.reverse k = b
        go_wp2
        go_ret
        exact ⟨by simp, HB3.out⟩

theorem own : ownKnob Tryd.prog.godebug = none := by kernel_rfl

theorem contract (H : Type) (enc : TypeId × Value → H) (W : World) (base : Nat) (args : Array Value) (ds gs : List (DataW H)) (before : List MemPlace)
    (hval : ∀ (j : Nat) t v, Tryd.f3.params[j]? = some t → args[j]? = some v → Value.okWide Tryd.prog W .any base t v)
    (hW : DataW.Whole enc Tryd.prog Tryd.f3.params.toList Rows.fnCleanFormSpec.vars false W args.toList ds gs before)
    (hk : Rows.uptoSmall H (ds ++ gs) = true)
    (hsh : W.ShapedOpen Tryd.prog)
    : Calls Tryd.prog 3 args W fun e W' => ∃ v, e = .returned v ∧ Rows.fnCleanFormSpec.post enc Tryd.prog Tryd.f3 false true false false W args v W' := by
  have hW' := hW
  obtain ⟨p, q, hA0, hV, rfl, hfz, hnd⟩ := hW
  have hA : DataW.TrodAll enc Tryd.prog W 0 (fun _ => true) true Tryd.f3.params.toList args.toList ds p := hA0
  rw [Tryd.params3] at hA hval
  obtain ⟨v0, vs0, d0, ds0, p0, q0, hargs, rfl, rfl, h0, r0⟩ := trodAll_cons hA
  obtain ⟨rfl, rfl, rfl⟩ := trodAll_nil r0
  obtain rfl : args = #[v0] := by cases args; simp_all
  obtain ⟨rfl, rfl⟩ := trodVars_none hV
  obtain ⟨a0, rfl, rfl, rfl, w0⟩ := open_string Tryd.underlying9 (hval 0 9 v0 rfl rfl) h0
  clear hA0
  have hb : Rows.uptoBulkAll _ ≤ 1048576 := of_decide_eq_true hk
  simp only [List.append_nil] at hb
  have b0 : a0.size ≤ 1048576 := Bulk.str_le hb (by simp)
  refine (walk a0 W b0 hsh).mono fun e W' ⟨he, bel⟩ => ?_
  subst he
  exact ⟨_, rfl, _, _, _, [], _, [], hW', trodAll_mk1 (shut_bool Tryd.underlying4 _), (trodAll_cons_mk (shut_string Tryd.underlying9 w0) trodAll_mk0), rfl, bel.frame _, fun h => by cases h⟩

/-- A world for the witness: the settled one, utf8's two tables holding what the row lists. -/
def lay (g : Nat) (c : Array Value) (h : Array Obj) : Array Obj := h.modify g fun
  | .cells _ t frozen => .cells c t frozen
  | o => o
def accCells : Array Value := (([128, 191, 160, 191, 128, 159, 144, 191, 128, 143] ++ List.replicate 22 0 : List Int).map fun n => Value.int .u8 n).toArray
def firstCells : Array Value := (Go.Pinned.utf8FirstZ.map fun (n : Nat) => Value.int .u8 n).toArray
noncomputable def laidWorld (os : Os) : World :=
  { World.holding Tryd.prog os ⟨#[], #[], []⟩ with heap := lay 2 accCells (lay 1 firstCells (World.holding Tryd.prog os ⟨#[], #[], []⟩).heap) }
theorem laid_met (os : Os) : laidMet Tryd.prog Rows.fnCleanFormUptoRow.laid ((laidWorld os).forCall (fun _ _ => 0) ⟨#[], #[.string .empty], []⟩).memory :=
  laidMet_of_run' 8 (by kernel_rfl) (by kernel_rfl)
theorem reads (os : Os) {H : Type} (enc : TypeId × Value → H) : ∃ places, DataW.whole enc Tryd.prog ((laidWorld os).forCall (fun _ _ => 0) ⟨#[], #[.string .empty], []⟩).memory Tryd.f3.params.toList Rows.fnCleanFormSpec.vars false (#[.string .empty] : Array Value).toList 8 = some ([.lit (.string [])], [], places) :=
  ⟨[], by kernel_rfl⟩

set_option maxRecDepth 100000 in
theorem lifted (os : Os) (started : os.Started) (H : Type) (enc : TypeId × Value → H) (F : Stop.Interp) :
    ReturnsInHanded {} Tryd.checked os 3 .any ((Rows.OpenSpec.upto Rows.fnCleanFormSpec).preRow enc Tryd.prog Tryd.f3 Rows.fnCleanFormUptoRow.domain false Rows.fnCleanFormUptoRow.laid) (((Rows.OpenSpec.upto Rows.fnCleanFormSpec).at F).post enc Tryd.prog Tryd.f3 false true false false) := by
  obtain ⟨places, hx⟩ := reads os enc
  refine returnsInHanded_of_row (C := Tryd.checked) (s := Rows.OpenSpec.upto Rows.fnCleanFormSpec) own started (by kernel_rfl) Tryd.func3
    (witness_row_at (enc := enc) (C := Tryd.checked) false (laidWorld os) #[.string .empty] rfl (by kernel_rfl) (by kernel_rfl) (by kernel_rfl)
      (OpenSpec.preRow_of_cond 8 hx (by kernel_rfl) (fun k hk => by cases hk; kernel_rfl) (by kernel_rfl) (laid_met os))) ?_
  intro W base args ds gs before hval hW _ hcond hsz _ hsh _
  exact contract H enc W base args ds gs before hval hW (hcond _ rfl) hsh

theorem said : Rows.FnCleanFormUptoSaid :=
  OpenClaim.holds_of_cond 3 Tryd.f3 rfl rfl rfl rfl rfl rfl rfl ⟨rfl, rfl, rfl, rfl, rfl⟩ rfl rfl rfl rfl rfl (by kernel_rfl) Tryd.func3 (by kernel_rfl)
    (of_decide_eq_true (by kernel_rfl)) (by unfold Func.isWrapper; first | (rw [if_pos (by decide +kernel)]; kernel_rfl) | (rw [if_neg (by decide +kernel)]; exact ⟨rfl, rfl⟩))
    (fun os started H enc _ F => by rw [OpenClaim.pre_eq_preRow]; exact lifted os started H enc F)

/-- No parameter wants a stand-in; the program's own looks are off: what the card asks. -/
theorem plain (f : FuncId) (fn : Func) (hf : Tryd.pinned.checked.prog.funcNamed "lib-waymark/laws.FnCleanForm" = some f) (hfn : Tryd.pinned.checked.prog.funcs[f]? = some fn) :
    false = Tryd.pinned.checked.prog.looks [] ∧ ∀ (j : Nat) t, fn.params[j]? = some t → Tryd.pinned.checked.prog.wantsStandIn t = false := by
  obtain rfl : f = 3 := Option.some.inj ((show Tryd.prog.funcNamed "lib-waymark/laws.FnCleanForm" = some 3 by kernel_rfl).symm.trans hf) |>.symm
  obtain rfl : fn = Tryd.f3 := (Option.some.inj (Tryd.func3.symm.trans hfn)).symm
  refine ⟨by kernel_rfl, fun j t ht => ?_⟩
  rw [Tryd.params3] at ht
  have hm : t ∈ [9] := by have := Array.mem_of_getElem? ht; simp at this ⊢; exact this
  have hall : ([9].all fun u => !Tryd.prog.wantsStandIn u) = true := by kernel_rfl
  exact (show Tryd.prog.wantsStandIn t = false by simpa using List.all_eq_true.1 hall t hm)

theorem proved : Rows.FnCleanFormUptoCardSaid :=
  Claim7.holds_tied_plain_at .later [] _ _ _ _ said (fun _ h => by cases h) (by kernel_rfl) (fun _ h => by cases h) fnCleanFormUpto_row_tie rfl ⟨rfl, rfl⟩ (by kernel_rfl) rfl plain (by kernel_rfl)
#print axioms proved
end Go.Proofs.YtgigodblbiiahaaDoor.fnCleanForm
