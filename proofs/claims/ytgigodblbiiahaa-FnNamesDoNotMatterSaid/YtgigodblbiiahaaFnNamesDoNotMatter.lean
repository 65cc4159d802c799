/-
  PROVED: To put another byte in the place of a byte, both other than the slash and the dot, before a call is to do so behind it; Clean, Base and Dir leave something, and the parts of Split are the path: the law FnNamesDoNotMatter returns true at every string and every pair of bytes. Conditions: none beyond the form's own reach.
-/
import Derived.Test.YtgigodblbiiahaaImpl
import Derived.Test.YtgigodblbiiahaaPlain3
import Derived.Test.YtgigodblbiiahaaReplaced
namespace Go.Proofs.Ytgigodblbiiahaa.fnNamesDoNotMatter
open Go Go.ChangeShapes Go.WideShapes Go.ChangeAt Go.RowKit
open Go.ChangeMaps (open_string shut_string)
open Go.Proofs.Ytgigodblbiiahaa.Wm (bs)
open Go.Lib

theorem keeps (x y : UInt8) (hx7 : x ≠ 47) (hx6 : x ≠ 46) (hy7 : y ≠ 47) (hy6 : y ≠ 46) : Wm.Keeps (Wm.swap x y) := by
  constructor
  · intro c
    unfold Wm.swap
    split
    · rename_i h; subst h; exact ⟨fun e => absurd e hy7, fun e => absurd e hx7⟩
    · exact Iff.rfl
  · intro c
    unfold Wm.swap
    split
    · rename_i h; subst h; exact ⟨fun e => absurd e hy6, fun e => absurd e hx6⟩
    · exact Iff.rfl
theorem base_len (l : List UInt8) : (Pa.base l).length ≤ l.length + 1 := by
  rcases Wm.base_cases l with ⟨k, rfl⟩ | ⟨a, f, k, rfl, ha, hf, h47⟩
  · cases k with
    | zero => decide
    | succ k => rw [Wm.base_slashes]; simp
  · rw [Wm.base_mk k ha hf h47]; simp; omega
theorem dir_len (l : List UInt8) : (Pa.dir l).length ≤ l.length + 1 := by
  unfold Pa.dir
  have h1 := (Wm.clean_length (Pa.split l).1).2
  have h2 := Pa.split_fst_le l
  omega
theorem clean_len (l : List UInt8) : (Pa.clean l).length ≤ l.length + 1 := by
  have h1 := (Wm.clean_length l).2
  omega
theorem ext_len (l : List UInt8) : (Pa.ext l).length ≤ l.length + 1 := by
  have h1 := (Wm.ext_suffix l).length_le
  omega

set_option maxHeartbeats 3200000 in
set_option maxRecDepth 100000 in
theorem at_others (a0 : ByteArray) (x y : UInt8) (w : World) (b0 : a0.size ≤ 140737488351232) (hx7 : x ≠ 47) (hx6 : x ≠ 46) (hy7 : y ≠ 47) (hy6 : y ≠ 46) :
    Calls Try.prog 4 #[.string a0, .int .u8 x.toNat, .int .u8 y.toNat] w fun e w' => e = .returned (.bool true) ∧ Below w.heap.size w w' := by
  have hk := keeps x y hx7 hx6 hy7 hy6
  have c1 : ((x.toNat : Int) == 47) = false := by rw [Pa.beq47]; simpa using hx7
  have c2 : ((x.toNat : Int) == 46) = false := by rw [Pa.beq46]; simpa using hx6
  have c3 : ((y.toNat : Int) == 47) = false := by rw [Pa.beq47]; simpa using hy7
  have c4 : ((y.toNat : Int) == 46) = false := by rw [Pa.beq46]; simpa using hy6
  have HK := Lib.hid hk
  have hlen : (Pa.split (bs a0)).1.length + (Pa.split (bs a0)).2.length = a0.size := by
    rw [← List.length_append, Wm.split_append, Wm.size_bs]
  clear hk hx7 hx6 hy7 hy6
  go_enter Try.func4, Try.ntmps4
  go_wp2_with fail
  refine (Wm.replaced_any a0 x y _ (by omega)).mono ?_
  rintro e w1 ⟨q, rfl, hq, hb1⟩
  have sq : q.size ≤ 140737488351232 := by rw [Wm.size_bs, hq, List.length_map, ← Wm.size_bs]; exact b0
  have HQ := Lib.hid hq
  have HB1 := Lib.hid hb1
  clear hq hb1
  go_wp2_with fail
  refine (Wm.impl_Split a0 _ (by omega)).mono ?_
  rintro e w2 ⟨dir, file, rfl, hd, hf, hb2⟩
  have sd : dir.size ≤ 140737488351232 := by rw [Wm.size_bs, hd]; omega
  have sf : file.size ≤ 140737488351232 := by rw [Wm.size_bs, hf]; omega
  have hsum : dir.size + file.size ≤ 9223372036854775807 := by omega
  have t1 : ((dir ++ file).toList == a0.toList) = true := Wm.eq_true (by rw [Wm.bs_append, hd, hf, Wm.split_append])
  have HD := Lib.hid hd
  have HF := Lib.hid hf
  have HB2 := Lib.hid (Wm.next HB1.out hb2)
  clear hd hf hb2 HB1 hlen
  go_wp2_with fail
  refine (Wm.impl_Split q _ (by omega)).mono ?_
  rintro e w3 ⟨left, right, rfl, hl, hr, hb3⟩
  have HL := Lib.hid (show bs left = (bs dir).map (Wm.swap x y) by rw [hl, HQ.out, Wm.split_map HK.out, HD.out])
  have HRt := Lib.hid (show bs right = (bs file).map (Wm.swap x y) by rw [hr, HQ.out, Wm.split_map HK.out, HF.out])
  have HB3 := Lib.hid (Wm.next HB2.out hb3)
  clear hl hr hb3 HB2 HD HF
  go_wp2_with fail
  refine (Wm.impl_Clean a0 _ (by omega)).mono ?_
  rintro e w4 ⟨c, rfl, hc, hb4⟩
  have tc : c.toList.isEmpty = false := Wm.empty_false (by rw [hc]; exact Wm.clean_ne _)
  have Hc := Lib.hid hc
  have HB4 := Lib.hid (Wm.next HB3.out hb4)
  clear hc hb4 HB3
  go_wp2_with fail
  refine (Wm.impl_Base a0 _ (by omega)).mono ?_
  rintro e w5 ⟨b, rfl, hb, hb5⟩
  have tb : b.toList.isEmpty = false := Wm.empty_false (by rw [hb]; exact Wm.base_ne _)
  have Hb := Lib.hid hb
  have HB5 := Lib.hid (Wm.next HB4.out hb5)
  clear hb hb5 HB4
  go_wp2_with fail
  refine (Wm.impl_Dir a0 _ (by omega)).mono ?_
  rintro e w6 ⟨d, rfl, hd, hb6⟩
  have td : d.toList.isEmpty = false := Wm.empty_false (by rw [hd]; exact Wm.dir_ne _)
  have Hd := Lib.hid hd
  have HB6 := Lib.hid (Wm.next HB5.out hb6)
  clear hd hb6 HB5
  go_wp2_with fail
  refine (Wm.impl_Clean q _ (by omega)).mono ?_
  rintro e w7 ⟨uc, rfl, huc, hb7⟩
  have Huc := Lib.hid huc
  have HB7 := Lib.hid (Wm.next HB6.out hb7)
  clear huc hb7 HB6
  go_wp2_with fail
  refine (Wm.impl_Clean a0 _ (by omega)).mono ?_
  rintro e w8 ⟨vc, rfl, hvc, hb8⟩
  have svc : vc.size ≤ 140737488351233 := by have := clean_len (bs a0); rw [← hvc, ← Wm.size_bs, ← Wm.size_bs] at this; omega
  have Hvc := Lib.hid hvc
  have HB8 := Lib.hid (Wm.next HB7.out hb8)
  clear hvc hb8 HB7
  go_wp2_with fail
  refine (Wm.replaced_any vc x y _ (by omega)).mono ?_
  rintro e w9 ⟨xc, rfl, hxc, hb9⟩
  have Hxc := Lib.hid hxc
  have HB9 := Lib.hid (Wm.next HB8.out hb9)
  clear hxc hb9 HB8
  have tc2 : (uc.toList == xc.toList) = true := Wm.eq_true (by rw [Huc.out, Hxc.out, Hvc.out, HQ.out, Wm.clean_map HK.out])
  clear Huc Hvc Hxc
  go_wp2_with fail
  refine (Wm.impl_Base q _ (by omega)).mono ?_
  rintro e w10 ⟨ub, rfl, hub, hb10⟩
  have Hub := Lib.hid hub
  have HB10 := Lib.hid (Wm.next HB9.out hb10)
  clear hub hb10 HB9
  go_wp2_with fail
  refine (Wm.impl_Base a0 _ (by omega)).mono ?_
  rintro e w11 ⟨vb, rfl, hvb, hb11⟩
  have svb : vb.size ≤ 140737488351233 := by have := base_len (bs a0); rw [← hvb, ← Wm.size_bs, ← Wm.size_bs] at this; omega
  have Hvb := Lib.hid hvb
  have HB11 := Lib.hid (Wm.next HB10.out hb11)
  clear hvb hb11 HB10
  go_wp2_with fail
  refine (Wm.replaced_any vb x y _ (by omega)).mono ?_
  rintro e w12 ⟨xb, rfl, hxb, hb12⟩
  have Hxb := Lib.hid hxb
  have HB12 := Lib.hid (Wm.next HB11.out hb12)
  clear hxb hb12 HB11
  have tb2 : (ub.toList == xb.toList) = true := Wm.eq_true (by rw [Hub.out, Hxb.out, Hvb.out, HQ.out, Wm.base_map HK.out])
  clear Hub Hvb Hxb
  go_wp2_with fail
  refine (Wm.impl_Dir q _ (by omega)).mono ?_
  rintro e w13 ⟨ud, rfl, hud, hb13⟩
  have Hud := Lib.hid hud
  have HB13 := Lib.hid (Wm.next HB12.out hb13)
  clear hud hb13 HB12
  go_wp2_with fail
  refine (Wm.impl_Dir a0 _ (by omega)).mono ?_
  rintro e w14 ⟨vd, rfl, hvd, hb14⟩
  have svd : vd.size ≤ 140737488351233 := by have := dir_len (bs a0); rw [← hvd, ← Wm.size_bs, ← Wm.size_bs] at this; omega
  have Hvd := Lib.hid hvd
  have HB14 := Lib.hid (Wm.next HB13.out hb14)
  clear hvd hb14 HB13
  go_wp2_with fail
  refine (Wm.replaced_any vd x y _ (by omega)).mono ?_
  rintro e w15 ⟨xd, rfl, hxd, hb15⟩
  have Hxd := Lib.hid hxd
  have HB15 := Lib.hid (Wm.next HB14.out hb15)
  clear hxd hb15 HB14
  have td2 : (ud.toList == xd.toList) = true := Wm.eq_true (by rw [Hud.out, Hxd.out, Hvd.out, HQ.out, Wm.dir_map HK.out])
  clear Hud Hvd Hxd
  go_wp2_with fail
  refine (Wm.impl_Ext q _ (by omega)).mono ?_
  rintro e w16 ⟨ue, rfl, hue, hb16⟩
  have Hue := Lib.hid hue
  have HB16 := Lib.hid (Wm.next HB15.out hb16)
  clear hue hb16 HB15
  go_wp2_with fail
  refine (Wm.impl_Ext a0 _ (by omega)).mono ?_
  rintro e w17 ⟨ve, rfl, hve, hb17⟩
  have sve : ve.size ≤ 140737488351233 := by have := ext_len (bs a0); rw [← hve, ← Wm.size_bs, ← Wm.size_bs] at this; omega
  have Hve := Lib.hid hve
  have HB17 := Lib.hid (Wm.next HB16.out hb17)
  clear hve hb17 HB16
  go_wp2_with fail
  refine (Wm.replaced_any ve x y _ (by omega)).mono ?_
  rintro e w18 ⟨xe, rfl, hxe, hb18⟩
  have Hxe := Lib.hid hxe
  have HB18 := Lib.hid (Wm.next HB17.out hb18)
  clear hxe hb18 HB17
  have te2 : (ue.toList == xe.toList) = true := Wm.eq_true (by rw [Hue.out, Hxe.out, Hve.out, HQ.out, Wm.ext_map HK.out])
  clear Hue Hve Hxe
  go_wp2_with fail
  refine (Wm.replaced_any dir x y _ (by omega)).mono ?_
  rintro e w19 ⟨y1, rfl, hy1, hb19⟩
  have Hy1 := Lib.hid hy1
  have HB19 := Lib.hid (Wm.next HB18.out hb19)
  clear hy1 hb19 HB18
  have ty1 : (left.toList == y1.toList) = true := Wm.eq_true (by rw [Hy1.out, HL.out])
  clear Hy1
  go_wp2_with fail
  refine (Wm.replaced_any file x y _ (by omega)).mono ?_
  rintro e w20 ⟨y2, rfl, hy2, hb20⟩
  have Hy2 := Lib.hid hy2
  have HB20 := Lib.hid (Wm.next HB19.out hb20)
  clear hy2 hb20 HB19
  have ty2 : (right.toList == y2.toList) = true := Wm.eq_true (by rw [Hy2.out, HRt.out])
  clear Hy2
  go_wp2
  go_ret
  exact ⟨by simp, HB20.out⟩

set_option maxHeartbeats 800000 in
set_option maxRecDepth 100000 in
theorem walk (a0 : ByteArray) (a1 a2 : Int) (w : World) (b0 : a0.size ≤ 140737488351232) (b1 : 0 ≤ a1 ∧ a1 ≤ 255) (b2 : 0 ≤ a2 ∧ a2 ≤ 255) :
    Calls Try.prog 4 #[.string a0, .int .u8 a1, .int .u8 a2] w fun e w' => e = .returned (.bool true) ∧ Below w.heap.size w w' := by
  obtain ⟨x, rfl⟩ : ∃ x : UInt8, a1 = (x.toNat : Int) := ⟨UInt8.ofNat a1.toNat, by simp; omega⟩
  obtain ⟨y, rfl⟩ : ∃ y : UInt8, a2 = (y.toNat : Int) := ⟨UInt8.ofNat a2.toNat, by simp; omega⟩
  clear b1 b2
  by_cases hx7 : x = 47
  · have c1 : ((x.toNat : Int) == 47) = true := by rw [Pa.beq47]; simpa using hx7
    clear hx7
    go_enter Try.func4, Try.ntmps4
    go_wp2
    go_ret
    exact ⟨rfl, Below.refl _ _⟩
  by_cases hx6 : x = 46
  · have c1 : ((x.toNat : Int) == 47) = false := by rw [Pa.beq47]; simpa using hx7
    have c2 : ((x.toNat : Int) == 46) = true := by rw [Pa.beq46]; simpa using hx6
    clear hx7 hx6
    go_enter Try.func4, Try.ntmps4
    go_wp2
    go_ret
    exact ⟨rfl, Below.refl _ _⟩
  by_cases hy7 : y = 47
  · have c1 : ((x.toNat : Int) == 47) = false := by rw [Pa.beq47]; simpa using hx7
    have c2 : ((x.toNat : Int) == 46) = false := by rw [Pa.beq46]; simpa using hx6
    have c3 : ((y.toNat : Int) == 47) = true := by rw [Pa.beq47]; simpa using hy7
    clear hx7 hx6 hy7
    go_enter Try.func4, Try.ntmps4
    go_wp2
    go_ret
    exact ⟨rfl, Below.refl _ _⟩
  by_cases hy6 : y = 46
  · have c1 : ((x.toNat : Int) == 47) = false := by rw [Pa.beq47]; simpa using hx7
    have c2 : ((x.toNat : Int) == 46) = false := by rw [Pa.beq46]; simpa using hx6
    have c3 : ((y.toNat : Int) == 47) = false := by rw [Pa.beq47]; simpa using hy7
    have c4 : ((y.toNat : Int) == 46) = true := by rw [Pa.beq46]; simpa using hy6
    clear hx7 hx6 hy7 hy6
    go_enter Try.func4, Try.ntmps4
    go_wp2
    go_ret
    exact ⟨rfl, Below.refl _ _⟩
  exact at_others a0 x y w b0 hx7 hx6 hy7 hy6

theorem own : ownKnob Try.prog.godebug = none := by kernel_rfl

theorem contract (H : Type) (enc : TypeId × Value → H) (W : World) (base : Nat) (args : Array Value) (ds gs : List (DataW H)) (before : List MemPlace)
    (hval : ∀ (j : Nat) t v, Try.f4.params[j]? = some t → args[j]? = some v → Value.okWide Try.prog W .any base t v)
    (hW : DataW.Whole enc Try.prog Try.f4.params.toList Rows.fnNamesDoNotMatterSpec.vars false W args.toList ds gs before)
    (hsz : (DataW.weightsEach Try.prog (Try.f4.params.toList ++ Rows.fnNamesDoNotMatterSpec.plain.varTypes Try.prog) (ds ++ gs)).all (· ≤ reachBytes) = true)
    : Calls Try.prog 4 args W fun e W' => ∃ v, e = .returned v ∧ Rows.fnNamesDoNotMatterSpec.post enc Try.prog Try.f4 false true false false W args v W' := by
  have hW' := hW
  obtain ⟨p, q, hA0, hV, rfl, hfz, hnd⟩ := hW
  have hA : DataW.TrodAll enc Try.prog W 0 (fun _ => true) true Try.f4.params.toList args.toList ds p := hA0
  rw [Try.params4] at hA hval hsz
  obtain ⟨v0, vs0, d0, ds0, p0, q0, hargs, rfl, rfl, h0, r0⟩ := trodAll_cons hA
  obtain ⟨v1, vs1, d1, ds1, p1, q1, rfl, rfl, rfl, h1, r1⟩ := trodAll_cons r0
  obtain ⟨v2, vs2, d2, ds2, p2, q2, rfl, rfl, rfl, h2, r2⟩ := trodAll_cons r1
  obtain ⟨rfl, rfl, rfl⟩ := trodAll_nil r2
  obtain rfl : args = #[v0, v1, v2] := by cases args; simp_all
  obtain ⟨rfl, rfl⟩ := trodVars_none hV
  obtain ⟨a0, rfl, rfl, rfl, w0⟩ := open_string Try.underlying9 (hval 0 9 v0 rfl rfl) h0
  obtain ⟨a1, rfl, rfl, rfl, w1⟩ := open_int Try.underlying5 (hval 1 5 v1 rfl rfl) h1
  obtain ⟨a2, rfl, rfl, rfl, w2⟩ := open_int Try.underlying5 (hval 2 5 v2 rfl rfl) h2
  clear hA0
  have b0 : a0.size ≤ 140737488351232 := by have h := sized_string hsz (j := 0) (t := 9) rfl rfl; rw [Lib.size_eq]; exact h
  have b1 := Wm.bounds_u8 w1
  have b2 := Wm.bounds_u8 w2
  refine (walk a0 a1 a2 W b0 b1 b2).mono fun e W' ⟨he, bel⟩ => ?_
  subst he
  exact ⟨_, rfl, _, _, _, [], _, [], hW', trodAll_mk1 (shut_bool Try.underlying4 _), (trodAll_cons_mk (shut_string Try.underlying9 w0) (trodAll_cons_mk (shut_int Try.underlying5 w1) (trodAll_cons_mk (shut_int Try.underlying5 w2) trodAll_mk0))), rfl, bel.frame _, fun h => by cases h⟩

set_option maxRecDepth 100000 in
theorem lifted (os : Os) (started : os.Started) (H : Type) (enc : TypeId × Value → H) :
    ReturnsInHanded {} Try.checked os 4 .any (Rows.fnNamesDoNotMatterSpec.pre6 enc Try.prog Try.f4 Rows.fnNamesDoNotMatterRow.domain false) (Rows.fnNamesDoNotMatterSpec.post enc Try.prog Try.f4 false true false false) := by
  refine returnsInHanded_of_change_sized (C := Try.checked) own started (by kernel_rfl) Try.func4
    (ChangeSpec.witness6 (enc := enc) (C := Try.checked) false ⟨#[], #[.string .empty, .int .u8 0, .int .u8 0], []⟩ 8 (by kernel_rfl) (by kernel_rfl) (by kernel_rfl) (by kernel_rfl)) ?_
  intro W base args ds gs before hval hW _ hsz _
  exact contract H enc W base args ds gs before hval hW hsz

theorem proved : Rows.FnNamesDoNotMatterSaid :=
  OpenClaim.holds_of_wide 4 Try.f4 rfl rfl rfl rfl rfl rfl rfl ⟨rfl, rfl, rfl, rfl, rfl⟩ rfl rfl rfl rfl rfl (by kernel_rfl) Try.func4 (by kernel_rfl)
    (of_decide_eq_true (by kernel_rfl)) (by unfold Func.isWrapper; first | (rw [if_pos (by decide +kernel)]; kernel_rfl) | (rw [if_neg (by decide +kernel)]; exact ⟨rfl, rfl⟩))
    (fun os started H enc _ => lifted os started H enc)
#print axioms proved
end Go.Proofs.Ytgigodblbiiahaa.fnNamesDoNotMatter
