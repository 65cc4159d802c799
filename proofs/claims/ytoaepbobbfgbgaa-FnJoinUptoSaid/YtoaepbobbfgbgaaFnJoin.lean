/-
  PROVED: Join returns the elements that are not empty, with slashes between them, cleaned; or the empty string if there are none: the law FnJoin returns true at every slice of strings. Condition (the second form): what it reads is of bulk at most 1048576.
-/
import Derived.Test.YtoaepbobbfgbgaaImpl
import Derived.Test.YtoaepbobbfgbgaaSpecE
namespace Go.Proofs.Ytoaepbobbfgbgaa.fnJoin
open Go Go.ChangeShapes Go.WideShapes Go.ChangeAt Go.RowKit
open Go.ChangeMaps (open_string shut_string)
open Go.Proofs.Ytoaepbobbfgbgaa.Wm (bs)
open Go.Lib

/-- The strings that are not empty. -/
def fullS (xs : List ByteArray) : List ByteArray := xs.filter fun x => decide (bs x ≠ [])
theorem fullS_map (xs : List ByteArray) : (fullS xs).map bs = Wm.full (xs.map bs) := by
  induction xs with
  | nil => rfl
  | cons x r ih =>
    unfold fullS at ih ⊢
    rw [List.map_cons]
    by_cases h : bs x = []
    · rw [List.filter_cons_of_neg (by simpa using h), h, Wm.full_cons_nil, ih]
    · rw [List.filter_cons_of_pos (by simpa using h), List.map_cons, Wm.full_cons_ne _ h, ih]
theorem fullS_snoc (xs : List ByteArray) (x : ByteArray) : fullS (xs ++ [x]) = if bs x = [] then fullS xs else fullS xs ++ [x] := by
  unfold fullS
  rw [List.filter_append]
  split
  · rename_i h; rw [List.filter_cons_of_neg (by simpa using h)]; simp
  · rename_i h; rw [List.filter_cons_of_pos (by simpa using h)]; simp
theorem fullS_sum (xs : List ByteArray) : Wm.sumLen (fullS xs) + (fullS xs).length ≤ Wm.sumLen xs + xs.length := by
  induction xs with
  | nil => exact Nat.le_refl _
  | cons x r ih =>
    have e : Wm.sumLen (x :: r) = x.size + Wm.sumLen r := by rw [show x :: r = [x] ++ r from rfl, Wm.sumLen_append, Wm.sumLen_one]
    unfold fullS at ih ⊢
    rw [e, List.length_cons]
    by_cases h : bs x = []
    · rw [List.filter_cons_of_neg (by simpa using h)]; omega
    · rw [List.filter_cons_of_pos (by simpa using h), List.length_cons, show ∀ l : List ByteArray, Wm.sumLen (x :: l) = x.size + Wm.sumLen l from fun l => by rw [show x :: l = [x] ++ l from rfl, Wm.sumLen_append, Wm.sumLen_one]]; omega

set_option maxHeartbeats 1000000 in
theorem spec_Join (a : Option Addr) (n c : Nat) (xs : List ByteArray) (w : World) (h : Wm.StrsV w a n c xs) (hl : Wm.sumLen xs + n ≤ 1048576) :
    Calls Try.prog 27 #[.slice a n c] w (Wm.StrIs (Pa.join (xs.map bs)) w) := by
  have HV := Lib.hid h
  have hn : xs.length = n := h.1.1
  have HN := Lib.hid hn
  have hfs := fullS_sum xs
  rw [hn] at hfs
  clear h hn
  go_enter Try.func27, Try.ntmps27
  go_wp2
  go_loopw [3, 8] (fun v i wr => ∃ (v' : Value) (k : Nat), v = v' ∧ i = .int .i64 k ∧ k ≤ n ∧ Hid (Wm.OwnStrs w.heap.size wr v' (fullS (xs.take k))) ∧ Below w.heap.size w wr) (fun _ i _ => n - (RowKit.intOf i).toNat)
  case atStart => exact ⟨_, 0, rfl, rfl, Nat.zero_le _, World.ownsRow_nil _ _ _ _, Below.refl _ _⟩
  case round =>
    obtain ⟨v, k, rfl, rfl, hk, hown, hbw⟩ := hrel
    by_cases hlt : k < n
    · obtain ⟨b, o, rfl, hb, hcells⟩ := (HV.out.below hbw).1.addr (by omega)
      have hkx : k < xs.length := by have := HN.out; omega
      have hcell := hcells k _ (List.getElem?_eq_getElem hkx)
      have HE := Lib.hid (show xs.take (k + 1) = xs.take k ++ [xs[k]] from List.take_succ_eq_append_getElem hkx)
      obtain ⟨x, hx⟩ : ∃ x, xs[k] = x := ⟨_, rfl⟩
      rw [hx] at hcell HE
      clear hcells hx hkx
      by_cases hx0 : bs x = []
      · have tx := Wm.empty_true hx0
        have ho := hown.out
        rw [show fullS (xs.take k) = fullS (xs.take (k + 1)) by rw [HE.out, fullS_snoc, if_pos hx0]] at ho
        have HO := Lib.hid ho
        clear hown hx0 HE ho
        go_wp2
        go_roundw
        case rel => exact ⟨_, k + 1, rfl, by go_num, by omega, HO, hbw⟩
        case measure => simp [RowKit.intOf]; omega
      · have tx := Wm.empty_false hx0
        have hb5 : Below wr.heap.size wr (wr.alloc (.cells #[.string x] 9)) := (Below.refl _ _).alloc (Nat.le_refl _) _
        have HO5 := Lib.hid (hown.out.below hb5)
        have HS5 := Lib.hid (Wm.strsV_lit wr x 9)
        have HZ5 := Lib.hid (Nat.le_trans hbw.size hb5.size)
        have HB5 := Lib.hid (hbw.trans (hb5.mono hbw.size))
        have hl5 : (fullS (xs.take k)).length + 1 ≤ 4194304 := by
          have h1 := List.length_filter_le (fun x => decide (bs x ≠ [])) (xs.take k)
          rw [List.length_take] at h1
          unfold fullS
          omega
        have HN6 := Lib.hid (show fullS (xs.take (k + 1)) = fullS (xs.take k) ++ [x] by rw [HE.out, fullS_snoc, if_neg hx0])
        clear hb5 hown hx0 HE
        go_wp2_with (at_builtin; refine Wm.wpList_append_strs rfl _ _ rfl w.heap.size _ _ [x] rfl HO5.out _ _ _ rfl HS5.out hl5 HZ5.out ?_; intro v6 w6 hown6 hb6)
        have HB6 := Lib.hid (HB5.out.trans hb6)
        have HO6 : Hid (Wm.OwnStrs w.heap.size w6 v6 (fullS (xs.take (k + 1)))) := by show Wm.OwnStrs _ _ _ _; rw [HN6.out]; exact hown6
        clear hown6 hb6 HB5 HO5 HS5 HZ5 hl5 HN6
        go_wp2
        go_roundw
        case rel => exact ⟨_, k + 1, rfl, by go_num, by omega, HO6, HB6.out⟩
        case measure => simp [RowKit.intOf]; omega
    · obtain rfl : n = k := by omega
      have ho := hown.out
      rw [List.take_of_length_le (by rw [HN.out]; exact Nat.le_refl _)] at ho
      obtain ⟨a1, c1, rfl, hv1⟩ := ho.v
      obtain ⟨m, hm⟩ : ∃ m, (fullS xs).length = m := ⟨_, rfl⟩
      have hmap := fullS_map xs
      rw [hm] at hfs hv1 ⊢
      clear hown ho
      by_cases hm0 : m = 0
      · subst hm0
        have HQ := Lib.hid (show [] = Pa.join (xs.map bs) by
          rw [List.eq_nil_of_length_eq_zero hm] at hmap
          exact ((Wm.join_nil_iff _).2 hmap.symm).symm)
        clear hm hv1 hmap
        go_wp2
        go_ret
        exact ⟨_, rfl, HQ.out, hbw⟩
      · have hmt : ((m : Int) == 0) = false := beq_eq_false_iff_ne.2 (by omega)
        have HV1 := Lib.hid hv1
        have HM := Lib.hid hm
        have HMAP := Lib.hid hmap
        clear hm hv1 hmap
        go_wp2_with fail
        refine (Wm.together_any a1 m c1 (fullS xs) _ HV1.out (by omega)).mono ?_
        rintro e w3 ⟨⟨q, rfl, hq⟩, hw⟩
        obtain rfl : wr = w3 := hw.symm
        have hqs : q.size ≤ 2097152 := by have := Wm.inter_size hq; have := HM.out; omega
        have HQ := Lib.hid hq
        clear hq
        go_wp2_with fail
        refine (Wm.spec_Clean q _ hqs).mono ?_
        rintro e w4 ⟨r, rfl, hr, hb4⟩
        have HR := Lib.hid (show bs r = Pa.join (xs.map bs) by
          rw [hr, HQ.out, HMAP.out, Wm.join_eq, if_neg (by
            intro e
            have := congrArg List.length (HMAP.out.trans e)
            rw [List.length_map, HM.out, List.length_nil] at this
            omega)])
        have HB4 := Lib.hid (Wm.next hbw hb4)
        clear hr hb4
        go_wp2
        go_ret
        exact ⟨_, rfl, HR.out, HB4.out⟩

set_option maxHeartbeats 400000 in
theorem walk (a0 : Option Addr) (len0 cap0 : Nat) (z0 : List ByteArray) (w : World) (w0 : Wm.IsStrs w a0 len0 cap0 z0) (b0 : Wm.sumLen z0 + z0.length ≤ 1048576) :
    Calls Try.prog 12 #[.slice a0 len0 cap0] w fun e w' => e = .returned (.bool true) ∧ Below w.heap.size w w' := by
  have hX := w0.v
  have hsx := Wm.sumLen_take z0 len0
  have hlx := hX.1.1
  have hlx' : (z0.take len0).length ≤ z0.length := by rw [List.length_take]; omega
  generalize z0.take len0 = xs at hX hsx hlx hlx'
  have sx : Wm.sumLen xs + len0 ≤ 1048576 := by omega
  have HX := Lib.hid hX
  have HB := Lib.hid (Below.refl w.heap.size w)
  clear w0 hX hsx hlx hlx' b0
  go_enter Try.func12, Try.ntmps12
  go_wp2_with fail
  refine (Wm.impl_Join_at a0 len0 cap0 xs _ HX.out.1 (by omega)).mono ?_
  rintro e w1 ⟨c, rfl, hc, hb1⟩
  have HB1 := Lib.hid (Wm.next HB.out hb1)
  have HC := Lib.hid hc
  have HX1 := Lib.hid (HX.out.below hb1)
  clear hc hb1
  go_wp2_with fail
  refine (spec_Join a0 len0 cap0 xs _ HX1.out sx).mono ?_
  rintro e w2 ⟨c2, rfl, hc2, hb2⟩
  have HB2 := Lib.hid (Wm.next HB1.out hb2)
  have t1 : (c.toList == c2.toList) = true := Wm.eq_true (HC.out.trans hc2.symm)
  clear hc2 hb2
  go_wp2
  go_ret
  exact ⟨by simp, HB2.out⟩

theorem own : ownKnob Try.prog.godebug = none := by kernel_rfl
theorem laidOut : laidOutB Try.prog = true := by kernel_rfl

theorem contract (H : Type) (enc : TypeId × Value → H) (W : World) (base : Nat) (args : Array Value) (ds gs : List (DataW H)) (before : List MemPlace)
    (hval : ∀ (j : Nat) t v, Try.f12.params[j]? = some t → args[j]? = some v → Value.okWide Try.prog W .any base t v)
    (hW : DataW.Whole enc Try.prog Try.f12.params.toList Rows.fnJoinSpec.vars false W args.toList ds gs before)
    (hk : Rows.uptoSmall H (ds ++ gs) = true)
    : Calls Try.prog 12 args W fun e W' => ∃ v, e = .returned v ∧ Rows.fnJoinSpec.post enc Try.prog Try.f12 false true false false W args v W' := by
  have hW' := hW
  obtain ⟨p, q, hA0, hV, rfl, hfz, hnd⟩ := hW
  have hA : DataW.TrodAll enc Try.prog W 0 (fun _ => true) true Try.f12.params.toList args.toList ds p := hA0
  rw [Try.params12] at hA hval
  obtain ⟨v0, vs0, d0, ds0, p0, q0, hargs, rfl, rfl, h0, r0⟩ := trodAll_cons hA
  obtain ⟨rfl, rfl, rfl⟩ := trodAll_nil r0
  obtain rfl : args = #[v0] := by cases args; simp_all
  obtain ⟨rfl, rfl⟩ := trodVars_none hV
  obtain ⟨a0, len0, cap0, rfl⟩ := okWide_slice Try.underlying30 (hval 0 30 v0 rfl rfl)
  have k0 := h0
  have lt0 : ∀ x ∈ p0, x.block < W.heap.size := by obtain ⟨m, hm⟩ := k0; exact DataW.trod_lt m _ _ _ hm
  obtain ⟨z0, w0, e0⟩ : ∃ zs, Wm.IsStrs W a0 len0 cap0 zs ∧ Wm.StrsData zs len0 d0 := by
    obtain ⟨fuel, hf⟩ := h0
    exact Wm.open_strs Try.underlying30 Try.underlying9 (by kernel_rfl) hf
  clear hA0
  have hb : Rows.uptoBulkAll _ ≤ 1048576 := of_decide_eq_true hk
  simp only [List.append_nil] at hb
  have b0 : Wm.sumLen z0 + z0.length ≤ 1048576 := Bulk.strs_le e0 hb (by simp)
  refine (walk a0 len0 cap0 z0 W w0 b0).mono fun e W' ⟨he, bel⟩ => ?_
  subst he
  exact ⟨_, rfl, _, _, _, [], _, [], hW', trodAll_mk1 (shut_bool Try.underlying4 _), (trodAll_cons_mk (Below.trod laidOut (by kernel_rfl) (of_decide_eq_true (by kernel_rfl)) k0 bel lt0) trodAll_mk0), rfl, bel.frame _, fun h => by cases h⟩

set_option maxRecDepth 100000 in
theorem lifted (os : Os) (started : os.Started) (H : Type) (enc : TypeId × Value → H) (F : Stop.Interp) :
    ReturnsInHanded {} Try.checked os 12 .any ((Rows.OpenSpec.upto Rows.fnJoinSpec).pre6 enc Try.prog Try.f12 Rows.fnJoinUptoRow.domain false) (((Rows.OpenSpec.upto Rows.fnJoinSpec).at F).post enc Try.prog Try.f12 false true false false) := by
  refine returnsInHanded_of_cond (C := Try.checked) (s := Rows.OpenSpec.upto Rows.fnJoinSpec) (k := Rows.uptoSmall) rfl own started (by kernel_rfl) Try.func12
    (OpenSpec.witness (enc := enc) (C := Try.checked) (s := Rows.OpenSpec.upto Rows.fnJoinSpec) (k := Rows.uptoSmall) rfl false ⟨#[], #[.slice none 0 0], []⟩ 8 (by kernel_rfl) (by kernel_rfl) (by kernel_rfl)
      (x := ([.nil], [], [])) (by kernel_rfl) rfl (by kernel_rfl)) ?_
  intro W base args ds gs before hval hW _ hk _
  exact contract H enc W base args ds gs before hval hW hk

theorem proved : Rows.FnJoinUptoSaid :=
  OpenClaim.holds_of_cond 12 Try.f12 rfl rfl rfl rfl rfl rfl rfl ⟨rfl, rfl, rfl, rfl, rfl⟩ rfl rfl rfl rfl rfl (by kernel_rfl) Try.func12 (by kernel_rfl)
    (of_decide_eq_true (by kernel_rfl)) (by unfold Func.isWrapper; first | (rw [if_pos (by decide +kernel)]; kernel_rfl) | (rw [if_neg (by decide +kernel)]; exact ⟨rfl, rfl⟩))
    (fun os started H enc _ F => lifted os started H enc F)
#print axioms proved
end Go.Proofs.Ytoaepbobbfgbgaa.fnJoin
