/-
  The contracts of the reference's Rewrite, Clean and Dir: all rewriting comes to what Clean returns.
-/
import Derived.Test.YtoaepbobbfgbgaaSpecC
import Derived.Test.YtoaepbobbfgbgaaSpecD
namespace Go.Proofs.Ytoaepbobbfgbgaa.Wm
open Go Go.RowKit

/-- A slice of numbers as a value. -/
def IntsV (w : World) (a : Option Addr) (n c : Nat) (zs : List Int) : Prop :=
  zs.length = n ∧ n ≤ c ∧ ∀ (j : Nat) z, zs[j]? = some z → ∃ b o, a = some ⟨b, o, none⟩ ∧ w.cell? ⟨b, o + j, none⟩ = some (.int .i64 z)
theorem IntsV.below {w w' : World} {a : Option Addr} {n c : Nat} {zs : List Int} (h : IntsV w a n c zs) (hb : Below w.heap.size w w') : IntsV w' a n c zs :=
  ⟨h.1, h.2.1, fun j x hx => by
    obtain ⟨b, o, ha, hc⟩ := h.2.2 j x hx
    exact ⟨b, o, ha, by rw [hb.cell (p := ⟨b, o + j, none⟩) (lt_of_cell (a := ⟨b, o + j, none⟩) hc)]; exact hc⟩⟩
theorem IntsV.tail {w : World} {b o n c : Nat} {zs : List Int} (h : IntsV w (some ⟨b, o, none⟩) n c zs) (hn : 0 < n) (ad : Option Addr) (had : ¬ c = 1 → ad = some ⟨b, o + 1, none⟩) : IntsV w ad (n - 1) (c - 1) (zs.drop 1) := by
  refine ⟨by rw [List.length_drop, h.1], by have := h.2.1; omega, fun j z hz => ?_⟩
  rw [List.getElem?_drop] at hz
  obtain ⟨b', o', ha, hc⟩ := h.2.2 (1 + j) z hz
  simp only [Option.some.injEq, Addr.mk.injEq, and_true] at ha
  obtain ⟨rfl, rfl⟩ := ha
  have hj := (List.getElem?_eq_some_iff.1 hz).1
  refine ⟨b, o + 1, had (fun e => ?_), by rw [Nat.add_assoc]; exact hc⟩
  have h1 := h.1
  have h2 := h.2.1
  omega
theorem StrsV.upto {w : World} {a : Option Addr} {n c : Nat} {xs : List ByteArray} (h : StrsV w a n c xs) (f : Nat) (hf : f ≤ n) : StrsV w a f c (xs.take f) := by
  refine ⟨⟨by rw [List.length_take, h.1.1]; omega, fun j x hx => ?_⟩, by have := h.2.1; omega, h.2.2⟩
  rw [List.getElem?_take] at hx
  split at hx
  · exact h.1.2 j x hx
  · cases hx
theorem StrsV.from {w : World} {b o n c : Nat} {xs : List ByteArray} (h : StrsV w (some ⟨b, o, none⟩) n c xs) (t : Nat) (ad : Addr) (had : ¬ c = t → ad = ⟨b, o + t, none⟩) : StrsV w (some ad) (n - t) (c - t) (xs.drop t) := by
  refine ⟨⟨by rw [List.length_drop, h.1.1], fun j x hx => ?_⟩, by have := h.2.1; omega, fun e => by cases e⟩
  rw [List.getElem?_drop] at hx
  obtain ⟨b', o', ha, hc⟩ := h.1.2 (t + j) x hx
  simp only [Option.some.injEq, Addr.mk.injEq, and_true] at ha
  obtain ⟨rfl, rfl⟩ := ha
  have hj := (List.getElem?_eq_some_iff.1 hx).1
  have h1 := h.1.1
  have h2 := h.2.1
  exact ⟨b, o + t, by rw [had (by omega)], by rw [Nat.add_assoc]; exact hc⟩
theorem StrsV.from_if {w : World} {b o n c : Nat} {xs : List ByteArray} (h : StrsV w (some ⟨b, o, none⟩) n c xs) (t : Nat) : StrsV w (if c = t then some ⟨b, o, none⟩ else some ⟨b, o + t, none⟩) (n - t) (c - t) (xs.drop t) := by
  split
  · rename_i e
    exact h.from t ⟨b, o, none⟩ (fun h => absurd e h)
  · exact h.from t ⟨b, o + t, none⟩ (fun _ => rfl)
theorem OwnStrs.mono {b b' : Nat} {w : World} {v : Value} {xs : List ByteArray} (h : OwnStrs b w v xs) (hb : b' ≤ b) : OwnStrs b' w v xs := by
  refine ⟨h.1, ?_⟩
  rcases h.2 with h' | ⟨g, cap, cur, hv, hbg, h1⟩
  · exact .inl h'
  · exact .inr ⟨g, cap, cur, hv, Nat.le_trans hb hbg, h1⟩
theorem tmod_abs (a : Int) {n : Int} (hn : 0 < n) : -n < a.tmod n ∧ a.tmod n < n := ⟨Int.lt_tmod_of_pos a hn, Int.tmod_lt_of_pos a hn⟩
theorem place_in (a : Int) (len : Nat) (h0 : 0 < len) (h1 : len ≤ 16777216) : ∃ i : Nat, i < len ∧ (wrap64 (a.tmod (len : Int) + (len : Int))).tmod (len : Int) = (i : Int) := by
  have hb := tmod_abs a (n := (len : Int)) (by omega)
  rw [IntWalk.wrap64_in _ ⟨by omega, by omega⟩]
  have hp : 0 ≤ a.tmod (len : Int) + (len : Int) := by omega
  rw [Int.tmod_eq_emod_of_nonneg hp]
  have h3 := Int.emod_nonneg (a.tmod (len : Int) + (len : Int)) (b := (len : Int)) (by omega)
  have h4 := Int.emod_lt_of_pos (a.tmod (len : Int) + (len : Int)) (b := (len : Int)) (by omega)
  exact ⟨((a.tmod (len : Int) + (len : Int)) % (len : Int)).toNat, by omega, by omega⟩
def sliceLen : Value → Nat | .slice _ n _ => n | _ => 0

theorem clean_body (l : List UInt8) : Lib.Pa.clean l = rnd (Lib.Pa.isAbs l) (fold (Lib.Pa.isAbs l) [] (Lib.Pa.els (body l))) := by
  rw [clean_eq]
  unfold stk
  rcases els_body l with h | h
  · rw [h]
  · rw [h, fold_cons, Lib.Pa.step_nil]
/-- What Rewrite hands back, by the elements that are left. -/
theorem end_root {l : List UInt8} {L : List (List UInt8)} (hro : Lib.Pa.isAbs l = true) (hf : fold true [] L = fold true [] (Lib.Pa.els (body l))) (hc : C4 true L) (h47 : ∀ e, e ∈ L → 47 ∉ e) : 47 :: ([47] : List UInt8).intercalate L = Lib.Pa.clean l := by
  rw [clean_body, hro, ← hf, (c4_fold hc h47).1]
  unfold rnd
  rw [if_pos rfl, List.reverse_reverse]
theorem end_rel {l : List UInt8} {L : List (List UInt8)} (hro : Lib.Pa.isAbs l = false) (hf : fold false [] L = fold false [] (Lib.Pa.els (body l))) (hc : C4 false L) (h47 : ∀ e, e ∈ L → 47 ∉ e) :
    (([47] : List UInt8).intercalate L = [] ∧ [46] = Lib.Pa.clean l) ∨ (([47] : List UInt8).intercalate L ≠ [] ∧ ([47] : List UInt8).intercalate L = Lib.Pa.clean l) := by
  obtain ⟨h1, g⟩ := c4_fold hc h47
  rw [clean_body, hro, ← hf, h1]
  unfold rnd
  rw [if_neg (by simp)]
  by_cases h : L = []
  · subst h
    left
    exact ⟨inter_nil, rfl⟩
  · right
    rw [if_neg (by simpa using h), List.reverse_reverse]
    exact ⟨fun e => h (inter_eq_nil (fun e he => g.ne e (by simpa using he)) e), rfl⟩
theorem sumLen_cut (xs : List ByteArray) (f t : Nat) (h1 : f < t) (h2 : t ≤ xs.length) : sumLen (xs.take f ++ xs.drop t) + (xs.take f ++ xs.drop t).length < sumLen xs + xs.length ∧ (xs.take f ++ xs.drop t).length < xs.length := by
  have h3 : sumLen (xs.take f) + sumLen (xs.drop f) = sumLen xs := Bulk.sum_take_drop xs f
  have h4 : sumLen ((xs.drop f).take (t - f)) + sumLen ((xs.drop f).drop (t - f)) = sumLen (xs.drop f) := Bulk.sum_take_drop _ _
  rw [List.drop_drop, show f + (t - f) = t by omega] at h4
  rw [sumLen_append, List.length_append, List.length_take, List.length_drop]
  omega

set_option maxHeartbeats 4000000 in
theorem rewrite_true (s : ByteArray) (ca : Option Addr) (cn cc : Nat) (zs : List Int) (w : World) (hz : IntsV w ca cn cc zs) (hs : s.size ≤ 2097152) (hro : Lib.Pa.isAbs (bs s) = true) :
    Calls Try.prog 23 #[.string s, .slice ca cn cc] w (StrIs (Lib.Pa.clean (bs s)) w) := by
  have HR := Lib.hid hro
  have HC := Lib.hid hz
  clear hz hro
  go_enter Try.func23, Try.ntmps23
  go_wp2_with fail
  refine (elements_any s _ hs).mono ?_
  rintro e w1 ⟨v, xs0, rfl, hown0, hxs0, hb0⟩
  rw [HR.out]
  have hsum0 := els_sum hxs0
  have hbl := body_le (bs s)
  rw [← size_bs] at hbl
  have HO0 := Lib.hid hown0
  have H470 := Lib.hid (show ∀ e, e ∈ xs0.map bs → 47 ∉ e by rw [hxs0]; exact els_no47 _)
  have HF0 := Lib.hid (show fold true [] (xs0.map bs) = fold true [] (Lib.Pa.els (body (bs s))) by rw [hxs0])
  have hsz0 : sumLen xs0 + xs0.length ≤ 2097153 := by omega
  have HB0 := Lib.hid hb0
  clear hown0 hb0 hxs0 hsum0 hbl
  go_wp2
  go_loopw [1, 6] (fun ch l wr => ∃ (ca : Option Addr) (cn cc : Nat) (zs : List Int) (v : Value) (xs : List ByteArray), ch = .slice ca cn cc ∧ l = v ∧ Hid (IntsV w ca cn cc zs) ∧ Hid (OwnStrs w.heap.size wr v xs) ∧ Hid (fold true [] (xs.map bs) = fold true [] (Lib.Pa.els (body (bs s)))) ∧ Hid (∀ e, e ∈ xs.map bs → 47 ∉ e) ∧ sumLen xs + xs.length ≤ 2097153 ∧ Hid (Below w.heap.size w wr)) (fun _ l _ => sliceLen l)
  case atStart => exact ⟨_, _, _, _, _, _, rfl, rfl, HC, HO0, HF0, H470, hsz0, HB0⟩
  case round =>
    clear HC HO0 HF0 H470 hsz0 HB0 zs ca cn cc
    obtain ⟨ca, cn, cc, zs, v, xs, rfl, rfl, HI, HO, HF, H47, hsz, HB⟩ := hrel
    obtain ⟨a, c, rfl, hv⟩ := HO.out.v
    obtain ⟨n, hn⟩ : ∃ n, xs.length = n := ⟨_, rfl⟩
    have HN := Lib.hid hn
    rw [hn] at hv hsz ⊢
    have HV := Lib.hid hv
    clear hv hn HO
    go_wp2_with fail
    refine (places_any true a n c xs _ HV.out (by omega)).mono ?_
    rintro e w2 ⟨pv, ps, rfl, hownP, hinv, hpl, hb2⟩
    obtain ⟨pa, pc, rfl, hpat⟩ := hownP.v
    have HB2 := Lib.hid (next HB.out hb2)
    have HV2 := Lib.hid (HV.out.below hb2)
    obtain ⟨m, hm⟩ : ∃ m, ps.length = m := ⟨_, rfl⟩
    rw [hm] at hpl ⊢
    by_cases hm0 : m = 0
    · subst hm0
      obtain rfl : ps = [] := List.eq_nil_of_length_eq_zero hm
      have HC4 := Lib.hid (hinv.2 rfl)
      clear hownP hinv hpl hb2 hpat hm HB HV
      go_wp2_with fail
      refine (together_any a n c xs _ HV2.out (by omega)).mono ?_
      rintro e w3 ⟨⟨q, rfl, hq⟩, hw⟩
      obtain rfl : w2 = w3 := hw.symm
      have hqs : q.size ≤ 2097153 := by have := inter_size hq; have := HN.out; omega
      have HQ := Lib.hid (show bs (⟨#[47]⟩ ++ q) = Lib.Pa.clean (bs s) by rw [bs_append, hq]; exact end_root HR.out HF.out HC4.out H47.out)
      have hq1 : 1 + q.size ≤ 9223372036854775807 := by omega
      clear hq
      go_wp2
      go_ret
      exact ⟨_, rfl, HQ.out, HB2.out⟩
    · have HINV := Lib.hid hinv
      have HPAT := Lib.hid hpat
      have HPL := Lib.hid hm
      have hmt : ((m : Int) == 0) = false := beq_eq_false_iff_ne.2 (by omega)
      clear hownP hinv hb2 hpat hm HB HV
      by_cases hc0 : cn = 0
      · subst hc0
        obtain ⟨p, hp⟩ : ∃ p, ps[0]? = some p := ⟨_, List.getElem?_eq_getElem (by rw [HPL.out]; omega)⟩
        obtain ⟨g, rfl, hgc, hcf, hct⟩ := HPAT.out 0 p hp
        obtain ⟨f, t⟩ := p
        rw [Nat.zero_mul] at hcf hct
        rw [Nat.zero_add] at hct
        have HI2 := Lib.hid HI.out
        have hrule := HINV.out.1 (f, t) (List.mem_of_getElem? hp)
        have hcut := sumLen_cut xs f t hrule.1 (by have := hrule.2.1; rwa [List.length_map] at this)
        have hft : f < t := hrule.1
        have htn : t ≤ n := by have := hrule.2.1; rw [List.length_map, HN.out] at this; exact this
        have HF2 := Lib.hid (show fold true [] ((xs.take f ++ xs.drop t).map bs) = fold true [] (Lib.Pa.els (body (bs s))) by
          rw [List.map_append, List.map_take, List.map_drop, ← HF.out]; exact hrule.2.2)
        have H472 := Lib.hid (show ∀ e, e ∈ (xs.take f ++ xs.drop t).map bs → 47 ∉ e from fun e he => H47.out e (by
          obtain ⟨x, hx, rfl⟩ := List.mem_map.1 he
          refine List.mem_map_of_mem ?_
          rcases List.mem_append.1 hx with hx | hx
          · exact List.mem_of_mem_take hx
          · exact List.mem_of_mem_drop hx))
        obtain ⟨b, o, rfl, hb, hcells⟩ := HV2.out.1.addr (by omega)
        have hcn : n ≤ c := HV2.out.2.1
        have HTAKE := Lib.hid (HV2.out.upto f (by omega))
        have hlt1 : (xs.take f).length = f := by rw [List.length_take, HN.out]; omega
        have hlen2 : (xs.take f ++ xs.drop t).length = f + (n - t) := by rw [List.length_append, hlt1, List.length_drop, HN.out]
        rw [HN.out] at hcut
        clear hrule hcells hp HPAT HINV
        go_wp2_with (at_builtin; first | (refine wpList_append_strs rfl _ _ rfl w2.heap.size _ [] _ rfl (World.ownsRow_nil _ _ _ _) _ _ _ rfl HTAKE.out (by simp; omega) (Nat.le_refl _) ?_; intro v4 w4 hown4 hb4; have hct4 : w4.cell? _ = _ := (hb4.cell (lt_of_cell hct)).trans hct; have HO4 := Lib.hid (show OwnStrs w2.heap.size w4 v4 (xs.take f) from hown4); have HB4 := Lib.hid hb4; have HV4 := Lib.hid (HV2.out.below hb4); clear hown4 hb4) | (refine wpList_append_strs rfl _ _ rfl w2.heap.size _ _ (xs.drop t) rfl HO4.out _ _ _ rfl (HV4.out.from_if t) (by rw [hlt1]; omega) (Nat.le_trans (Nat.le_refl _) HB4.out.size) ?_; intro v5 w5 hown5 hb5))
        have HO5 := Lib.hid (hown5.mono HB2.out.size)
        have HB5 := Lib.hid (next HB2.out (HB4.out.trans hb5))
        clear hown5 hb5 HO4 HB4 HV4
        obtain ⟨a5, c5, rfl, _⟩ := HO5.out.v
        go_wp2
        go_roundw
        case rel => exact ⟨_, _, _, _, _, _, rfl, rfl, HI2, HO5, HF2, H472, by omega, HB5⟩
        case measure => simp only [sliceLen]; omega
      · obtain ⟨z, hz⟩ : ∃ z, zs[0]? = some z := ⟨_, List.getElem?_eq_getElem (by rw [HI.out.1]; omega)⟩
        obtain ⟨cb, co, rfl, hcz⟩ := (HI.out.below HB2.out).2.2 0 z hz
        rw [Nat.add_zero] at hcz
        obtain ⟨i, hi, hie⟩ := place_in z m (by omega) (by omega)
        obtain ⟨p, hp⟩ : ∃ p, ps[i]? = some p := ⟨_, List.getElem?_eq_getElem (by rw [HPL.out]; omega)⟩
        obtain ⟨g, rfl, hgc, hcf, hct⟩ := HPAT.out i p hp
        obtain ⟨f, t⟩ := p
        have hcc := HI.out.2.1
        have hpos : (0 : Int) < (cn : Int) := by omega
        have hm1 : (m : Int) ≠ 0 := by omega
        clear hz
        by_cases hcc1 : cc = 1
        · subst hcc1
          obtain rfl : cn = 1 := by omega
          have HI2 := Lib.hid (HI.out.tail (by omega) (some ⟨cb, co, none⟩) (fun h => absurd rfl h))
          have hrule := HINV.out.1 (f, t) (List.mem_of_getElem? hp)
          have hcut := sumLen_cut xs f t hrule.1 (by have := hrule.2.1; rwa [List.length_map] at this)
          have hft : f < t := hrule.1
          have htn : t ≤ n := by have := hrule.2.1; rw [List.length_map, HN.out] at this; exact this
          have HF2 := Lib.hid (show fold true [] ((xs.take f ++ xs.drop t).map bs) = fold true [] (Lib.Pa.els (body (bs s))) by
            rw [List.map_append, List.map_take, List.map_drop, ← HF.out]; exact hrule.2.2)
          have H472 := Lib.hid (show ∀ e, e ∈ (xs.take f ++ xs.drop t).map bs → 47 ∉ e from fun e he => H47.out e (by
            obtain ⟨x, hx, rfl⟩ := List.mem_map.1 he
            refine List.mem_map_of_mem ?_
            rcases List.mem_append.1 hx with hx | hx
            · exact List.mem_of_mem_take hx
            · exact List.mem_of_mem_drop hx))
          obtain ⟨b, o, rfl, hb, hcells⟩ := HV2.out.1.addr (by omega)
          have hcn : n ≤ c := HV2.out.2.1
          have HTAKE := Lib.hid (HV2.out.upto f (by omega))
          have hlt1 : (xs.take f).length = f := by rw [List.length_take, HN.out]; omega
          have hlen2 : (xs.take f ++ xs.drop t).length = f + (n - t) := by rw [List.length_append, hlt1, List.length_drop, HN.out]
          rw [HN.out] at hcut
          clear hrule hcells hp HPAT HINV
          go_wp2_with (at_builtin; first | (refine wpList_append_strs rfl _ _ rfl w2.heap.size _ [] _ rfl (World.ownsRow_nil _ _ _ _) _ _ _ rfl HTAKE.out (by simp; omega) (Nat.le_refl _) ?_; intro v4 w4 hown4 hb4; have hct4 : w4.cell? _ = _ := (hb4.cell (lt_of_cell hct)).trans hct; have HO4 := Lib.hid (show OwnStrs w2.heap.size w4 v4 (xs.take f) from hown4); have HB4 := Lib.hid hb4; have HV4 := Lib.hid (HV2.out.below hb4); clear hown4 hb4) | (refine wpList_append_strs rfl _ _ rfl w2.heap.size _ _ (xs.drop t) rfl HO4.out _ _ _ rfl (HV4.out.from_if t) (by rw [hlt1]; omega) (Nat.le_trans (Nat.le_refl _) HB4.out.size) ?_; intro v5 w5 hown5 hb5))
          have HO5 := Lib.hid (hown5.mono HB2.out.size)
          have HB5 := Lib.hid (next HB2.out (HB4.out.trans hb5))
          clear hown5 hb5 HO4 HB4 HV4
          obtain ⟨a5, c5, rfl, _⟩ := HO5.out.v
          go_wp2
          go_roundw
          case rel => exact ⟨_, _, _, _, _, _, rfl, rfl, HI2, HO5, HF2, H472, by omega, HB5⟩
          case measure => simp only [sliceLen]; omega
        · have HI2 := Lib.hid (HI.out.tail (by omega) (some ⟨cb, co + 1, none⟩) (fun _ => rfl))
          have hrule := HINV.out.1 (f, t) (List.mem_of_getElem? hp)
          have hcut := sumLen_cut xs f t hrule.1 (by have := hrule.2.1; rwa [List.length_map] at this)
          have hft : f < t := hrule.1
          have htn : t ≤ n := by have := hrule.2.1; rw [List.length_map, HN.out] at this; exact this
          have HF2 := Lib.hid (show fold true [] ((xs.take f ++ xs.drop t).map bs) = fold true [] (Lib.Pa.els (body (bs s))) by
            rw [List.map_append, List.map_take, List.map_drop, ← HF.out]; exact hrule.2.2)
          have H472 := Lib.hid (show ∀ e, e ∈ (xs.take f ++ xs.drop t).map bs → 47 ∉ e from fun e he => H47.out e (by
            obtain ⟨x, hx, rfl⟩ := List.mem_map.1 he
            refine List.mem_map_of_mem ?_
            rcases List.mem_append.1 hx with hx | hx
            · exact List.mem_of_mem_take hx
            · exact List.mem_of_mem_drop hx))
          obtain ⟨b, o, rfl, hb, hcells⟩ := HV2.out.1.addr (by omega)
          have hcn : n ≤ c := HV2.out.2.1
          have HTAKE := Lib.hid (HV2.out.upto f (by omega))
          have hlt1 : (xs.take f).length = f := by rw [List.length_take, HN.out]; omega
          have hlen2 : (xs.take f ++ xs.drop t).length = f + (n - t) := by rw [List.length_append, hlt1, List.length_drop, HN.out]
          rw [HN.out] at hcut
          clear hrule hcells hp HPAT HINV
          go_wp2_with (at_builtin; first | (refine wpList_append_strs rfl _ _ rfl w2.heap.size _ [] _ rfl (World.ownsRow_nil _ _ _ _) _ _ _ rfl HTAKE.out (by simp; omega) (Nat.le_refl _) ?_; intro v4 w4 hown4 hb4; have hct4 : w4.cell? _ = _ := (hb4.cell (lt_of_cell hct)).trans hct; have HO4 := Lib.hid (show OwnStrs w2.heap.size w4 v4 (xs.take f) from hown4); have HB4 := Lib.hid hb4; have HV4 := Lib.hid (HV2.out.below hb4); clear hown4 hb4) | (refine wpList_append_strs rfl _ _ rfl w2.heap.size _ _ (xs.drop t) rfl HO4.out _ _ _ rfl (HV4.out.from_if t) (by rw [hlt1]; omega) (Nat.le_trans (Nat.le_refl _) HB4.out.size) ?_; intro v5 w5 hown5 hb5))
          have HO5 := Lib.hid (hown5.mono HB2.out.size)
          have HB5 := Lib.hid (next HB2.out (HB4.out.trans hb5))
          clear hown5 hb5 HO4 HB4 HV4
          obtain ⟨a5, c5, rfl, _⟩ := HO5.out.v
          go_wp2
          go_roundw
          case rel => exact ⟨_, _, _, _, _, _, rfl, rfl, HI2, HO5, HF2, H472, by omega, HB5⟩
          case measure => simp only [sliceLen]; omega

set_option maxHeartbeats 4000000 in
theorem rewrite_false (s : ByteArray) (ca : Option Addr) (cn cc : Nat) (zs : List Int) (w : World) (hz : IntsV w ca cn cc zs) (hs : s.size ≤ 2097152) (hro : Lib.Pa.isAbs (bs s) = false) :
    Calls Try.prog 23 #[.string s, .slice ca cn cc] w (StrIs (Lib.Pa.clean (bs s)) w) := by
  have HR := Lib.hid hro
  have HC := Lib.hid hz
  clear hz hro
  go_enter Try.func23, Try.ntmps23
  go_wp2_with fail
  refine (elements_any s _ hs).mono ?_
  rintro e w1 ⟨v, xs0, rfl, hown0, hxs0, hb0⟩
  rw [HR.out]
  have hsum0 := els_sum hxs0
  have hbl := body_le (bs s)
  rw [← size_bs] at hbl
  have HO0 := Lib.hid hown0
  have H470 := Lib.hid (show ∀ e, e ∈ xs0.map bs → 47 ∉ e by rw [hxs0]; exact els_no47 _)
  have HF0 := Lib.hid (show fold false [] (xs0.map bs) = fold false [] (Lib.Pa.els (body (bs s))) by rw [hxs0])
  have hsz0 : sumLen xs0 + xs0.length ≤ 2097153 := by omega
  have HB0 := Lib.hid hb0
  clear hown0 hb0 hxs0 hsum0 hbl
  go_wp2
  go_loopw [1, 6] (fun ch l wr => ∃ (ca : Option Addr) (cn cc : Nat) (zs : List Int) (v : Value) (xs : List ByteArray), ch = .slice ca cn cc ∧ l = v ∧ Hid (IntsV w ca cn cc zs) ∧ Hid (OwnStrs w.heap.size wr v xs) ∧ Hid (fold false [] (xs.map bs) = fold false [] (Lib.Pa.els (body (bs s)))) ∧ Hid (∀ e, e ∈ xs.map bs → 47 ∉ e) ∧ sumLen xs + xs.length ≤ 2097153 ∧ Hid (Below w.heap.size w wr)) (fun _ l _ => sliceLen l)
  case atStart => exact ⟨_, _, _, _, _, _, rfl, rfl, HC, HO0, HF0, H470, hsz0, HB0⟩
  case round =>
    clear HC HO0 HF0 H470 hsz0 HB0 zs ca cn cc
    obtain ⟨ca, cn, cc, zs, v, xs, rfl, rfl, HI, HO, HF, H47, hsz, HB⟩ := hrel
    obtain ⟨a, c, rfl, hv⟩ := HO.out.v
    obtain ⟨n, hn⟩ : ∃ n, xs.length = n := ⟨_, rfl⟩
    have HN := Lib.hid hn
    rw [hn] at hv hsz ⊢
    have HV := Lib.hid hv
    clear hv hn HO
    go_wp2_with fail
    refine (places_any false a n c xs _ HV.out (by omega)).mono ?_
    rintro e w2 ⟨pv, ps, rfl, hownP, hinv, hpl, hb2⟩
    obtain ⟨pa, pc, rfl, hpat⟩ := hownP.v
    have HB2 := Lib.hid (next HB.out hb2)
    have HV2 := Lib.hid (HV.out.below hb2)
    obtain ⟨m, hm⟩ : ∃ m, ps.length = m := ⟨_, rfl⟩
    rw [hm] at hpl ⊢
    by_cases hm0 : m = 0
    · subst hm0
      obtain rfl : ps = [] := List.eq_nil_of_length_eq_zero hm
      have HC4 := Lib.hid (hinv.2 rfl)
      clear hownP hinv hpl hb2 hpat hm HB HV
      go_wp2_with fail
      refine (together_any a n c xs _ HV2.out (by omega)).mono ?_
      rintro e w3 ⟨⟨q, rfl, hq⟩, hw⟩
      obtain rfl : w2 = w3 := hw.symm
      have hqs : q.size ≤ 2097153 := by have := inter_size hq; have := HN.out; omega
      rcases end_rel HR.out HF.out HC4.out H47.out with ⟨h1, h2⟩ | ⟨h1, h2⟩
      · have tq := empty_true (hq.trans h1)
        have HQ := Lib.hid h2
        clear hq h1 h2
        go_wp2
        go_ret
        exact ⟨_, rfl, HQ.out, HB2.out⟩
      · have tq := empty_false (a := q) (by rw [hq]; exact h1)
        have HQ := Lib.hid (hq.trans h2)
        clear hq h1 h2
        go_wp2
        go_ret
        exact ⟨_, rfl, HQ.out, HB2.out⟩
    · have HINV := Lib.hid hinv
      have HPAT := Lib.hid hpat
      have HPL := Lib.hid hm
      have hmt : ((m : Int) == 0) = false := beq_eq_false_iff_ne.2 (by omega)
      clear hownP hinv hb2 hpat hm HB HV
      by_cases hc0 : cn = 0
      · subst hc0
        obtain ⟨p, hp⟩ : ∃ p, ps[0]? = some p := ⟨_, List.getElem?_eq_getElem (by rw [HPL.out]; omega)⟩
        obtain ⟨g, rfl, hgc, hcf, hct⟩ := HPAT.out 0 p hp
        obtain ⟨f, t⟩ := p
        rw [Nat.zero_mul] at hcf hct
        rw [Nat.zero_add] at hct
        have HI2 := Lib.hid HI.out
        have hrule := HINV.out.1 (f, t) (List.mem_of_getElem? hp)
        have hcut := sumLen_cut xs f t hrule.1 (by have := hrule.2.1; rwa [List.length_map] at this)
        have hft : f < t := hrule.1
        have htn : t ≤ n := by have := hrule.2.1; rw [List.length_map, HN.out] at this; exact this
        have HF2 := Lib.hid (show fold false [] ((xs.take f ++ xs.drop t).map bs) = fold false [] (Lib.Pa.els (body (bs s))) by
          rw [List.map_append, List.map_take, List.map_drop, ← HF.out]; exact hrule.2.2)
        have H472 := Lib.hid (show ∀ e, e ∈ (xs.take f ++ xs.drop t).map bs → 47 ∉ e from fun e he => H47.out e (by
          obtain ⟨x, hx, rfl⟩ := List.mem_map.1 he
          refine List.mem_map_of_mem ?_
          rcases List.mem_append.1 hx with hx | hx
          · exact List.mem_of_mem_take hx
          · exact List.mem_of_mem_drop hx))
        obtain ⟨b, o, rfl, hb, hcells⟩ := HV2.out.1.addr (by omega)
        have hcn : n ≤ c := HV2.out.2.1
        have HTAKE := Lib.hid (HV2.out.upto f (by omega))
        have hlt1 : (xs.take f).length = f := by rw [List.length_take, HN.out]; omega
        have hlen2 : (xs.take f ++ xs.drop t).length = f + (n - t) := by rw [List.length_append, hlt1, List.length_drop, HN.out]
        rw [HN.out] at hcut
        clear hrule hcells hp HPAT HINV
        go_wp2_with (at_builtin; first | (refine wpList_append_strs rfl _ _ rfl w2.heap.size _ [] _ rfl (World.ownsRow_nil _ _ _ _) _ _ _ rfl HTAKE.out (by simp; omega) (Nat.le_refl _) ?_; intro v4 w4 hown4 hb4; have hct4 : w4.cell? _ = _ := (hb4.cell (lt_of_cell hct)).trans hct; have HO4 := Lib.hid (show OwnStrs w2.heap.size w4 v4 (xs.take f) from hown4); have HB4 := Lib.hid hb4; have HV4 := Lib.hid (HV2.out.below hb4); clear hown4 hb4) | (refine wpList_append_strs rfl _ _ rfl w2.heap.size _ _ (xs.drop t) rfl HO4.out _ _ _ rfl (HV4.out.from_if t) (by rw [hlt1]; omega) (Nat.le_trans (Nat.le_refl _) HB4.out.size) ?_; intro v5 w5 hown5 hb5))
        have HO5 := Lib.hid (hown5.mono HB2.out.size)
        have HB5 := Lib.hid (next HB2.out (HB4.out.trans hb5))
        clear hown5 hb5 HO4 HB4 HV4
        obtain ⟨a5, c5, rfl, _⟩ := HO5.out.v
        go_wp2
        go_roundw
        case rel => exact ⟨_, _, _, _, _, _, rfl, rfl, HI2, HO5, HF2, H472, by omega, HB5⟩
        case measure => simp only [sliceLen]; omega
      · obtain ⟨z, hz⟩ : ∃ z, zs[0]? = some z := ⟨_, List.getElem?_eq_getElem (by rw [HI.out.1]; omega)⟩
        obtain ⟨cb, co, rfl, hcz⟩ := (HI.out.below HB2.out).2.2 0 z hz
        rw [Nat.add_zero] at hcz
        obtain ⟨i, hi, hie⟩ := place_in z m (by omega) (by omega)
        obtain ⟨p, hp⟩ : ∃ p, ps[i]? = some p := ⟨_, List.getElem?_eq_getElem (by rw [HPL.out]; omega)⟩
        obtain ⟨g, rfl, hgc, hcf, hct⟩ := HPAT.out i p hp
        obtain ⟨f, t⟩ := p
        have hcc := HI.out.2.1
        have hpos : (0 : Int) < (cn : Int) := by omega
        have hm1 : (m : Int) ≠ 0 := by omega
        clear hz
        by_cases hcc1 : cc = 1
        · subst hcc1
          obtain rfl : cn = 1 := by omega
          have HI2 := Lib.hid (HI.out.tail (by omega) (some ⟨cb, co, none⟩) (fun h => absurd rfl h))
          have hrule := HINV.out.1 (f, t) (List.mem_of_getElem? hp)
          have hcut := sumLen_cut xs f t hrule.1 (by have := hrule.2.1; rwa [List.length_map] at this)
          have hft : f < t := hrule.1
          have htn : t ≤ n := by have := hrule.2.1; rw [List.length_map, HN.out] at this; exact this
          have HF2 := Lib.hid (show fold false [] ((xs.take f ++ xs.drop t).map bs) = fold false [] (Lib.Pa.els (body (bs s))) by
            rw [List.map_append, List.map_take, List.map_drop, ← HF.out]; exact hrule.2.2)
          have H472 := Lib.hid (show ∀ e, e ∈ (xs.take f ++ xs.drop t).map bs → 47 ∉ e from fun e he => H47.out e (by
            obtain ⟨x, hx, rfl⟩ := List.mem_map.1 he
            refine List.mem_map_of_mem ?_
            rcases List.mem_append.1 hx with hx | hx
            · exact List.mem_of_mem_take hx
            · exact List.mem_of_mem_drop hx))
          obtain ⟨b, o, rfl, hb, hcells⟩ := HV2.out.1.addr (by omega)
          have hcn : n ≤ c := HV2.out.2.1
          have HTAKE := Lib.hid (HV2.out.upto f (by omega))
          have hlt1 : (xs.take f).length = f := by rw [List.length_take, HN.out]; omega
          have hlen2 : (xs.take f ++ xs.drop t).length = f + (n - t) := by rw [List.length_append, hlt1, List.length_drop, HN.out]
          rw [HN.out] at hcut
          clear hrule hcells hp HPAT HINV
          go_wp2_with (at_builtin; first | (refine wpList_append_strs rfl _ _ rfl w2.heap.size _ [] _ rfl (World.ownsRow_nil _ _ _ _) _ _ _ rfl HTAKE.out (by simp; omega) (Nat.le_refl _) ?_; intro v4 w4 hown4 hb4; have hct4 : w4.cell? _ = _ := (hb4.cell (lt_of_cell hct)).trans hct; have HO4 := Lib.hid (show OwnStrs w2.heap.size w4 v4 (xs.take f) from hown4); have HB4 := Lib.hid hb4; have HV4 := Lib.hid (HV2.out.below hb4); clear hown4 hb4) | (refine wpList_append_strs rfl _ _ rfl w2.heap.size _ _ (xs.drop t) rfl HO4.out _ _ _ rfl (HV4.out.from_if t) (by rw [hlt1]; omega) (Nat.le_trans (Nat.le_refl _) HB4.out.size) ?_; intro v5 w5 hown5 hb5))
          have HO5 := Lib.hid (hown5.mono HB2.out.size)
          have HB5 := Lib.hid (next HB2.out (HB4.out.trans hb5))
          clear hown5 hb5 HO4 HB4 HV4
          obtain ⟨a5, c5, rfl, _⟩ := HO5.out.v
          go_wp2
          go_roundw
          case rel => exact ⟨_, _, _, _, _, _, rfl, rfl, HI2, HO5, HF2, H472, by omega, HB5⟩
          case measure => simp only [sliceLen]; omega
        · have HI2 := Lib.hid (HI.out.tail (by omega) (some ⟨cb, co + 1, none⟩) (fun _ => rfl))
          have hrule := HINV.out.1 (f, t) (List.mem_of_getElem? hp)
          have hcut := sumLen_cut xs f t hrule.1 (by have := hrule.2.1; rwa [List.length_map] at this)
          have hft : f < t := hrule.1
          have htn : t ≤ n := by have := hrule.2.1; rw [List.length_map, HN.out] at this; exact this
          have HF2 := Lib.hid (show fold false [] ((xs.take f ++ xs.drop t).map bs) = fold false [] (Lib.Pa.els (body (bs s))) by
            rw [List.map_append, List.map_take, List.map_drop, ← HF.out]; exact hrule.2.2)
          have H472 := Lib.hid (show ∀ e, e ∈ (xs.take f ++ xs.drop t).map bs → 47 ∉ e from fun e he => H47.out e (by
            obtain ⟨x, hx, rfl⟩ := List.mem_map.1 he
            refine List.mem_map_of_mem ?_
            rcases List.mem_append.1 hx with hx | hx
            · exact List.mem_of_mem_take hx
            · exact List.mem_of_mem_drop hx))
          obtain ⟨b, o, rfl, hb, hcells⟩ := HV2.out.1.addr (by omega)
          have hcn : n ≤ c := HV2.out.2.1
          have HTAKE := Lib.hid (HV2.out.upto f (by omega))
          have hlt1 : (xs.take f).length = f := by rw [List.length_take, HN.out]; omega
          have hlen2 : (xs.take f ++ xs.drop t).length = f + (n - t) := by rw [List.length_append, hlt1, List.length_drop, HN.out]
          rw [HN.out] at hcut
          clear hrule hcells hp HPAT HINV
          go_wp2_with (at_builtin; first | (refine wpList_append_strs rfl _ _ rfl w2.heap.size _ [] _ rfl (World.ownsRow_nil _ _ _ _) _ _ _ rfl HTAKE.out (by simp; omega) (Nat.le_refl _) ?_; intro v4 w4 hown4 hb4; have hct4 : w4.cell? _ = _ := (hb4.cell (lt_of_cell hct)).trans hct; have HO4 := Lib.hid (show OwnStrs w2.heap.size w4 v4 (xs.take f) from hown4); have HB4 := Lib.hid hb4; have HV4 := Lib.hid (HV2.out.below hb4); clear hown4 hb4) | (refine wpList_append_strs rfl _ _ rfl w2.heap.size _ _ (xs.drop t) rfl HO4.out _ _ _ rfl (HV4.out.from_if t) (by rw [hlt1]; omega) (Nat.le_trans (Nat.le_refl _) HB4.out.size) ?_; intro v5 w5 hown5 hb5))
          have HO5 := Lib.hid (hown5.mono HB2.out.size)
          have HB5 := Lib.hid (next HB2.out (HB4.out.trans hb5))
          clear hown5 hb5 HO4 HB4 HV4
          obtain ⟨a5, c5, rfl, _⟩ := HO5.out.v
          go_wp2
          go_roundw
          case rel => exact ⟨_, _, _, _, _, _, rfl, rfl, HI2, HO5, HF2, H472, by omega, HB5⟩
          case measure => simp only [sliceLen]; omega


theorem spec_Rewrite (s : ByteArray) (ca : Option Addr) (cn cc : Nat) (zs : List Int) (w : World) (hz : IntsV w ca cn cc zs) (hs : s.size ≤ 2097152) :
    Calls Try.prog 23 #[.string s, .slice ca cn cc] w (StrIs (Lib.Pa.clean (bs s)) w) := by
  cases h : Lib.Pa.isAbs (bs s) with
  | true => exact rewrite_true s ca cn cc zs w hz hs h
  | false => exact rewrite_false s ca cn cc zs w hz hs h
theorem spec_Clean (s : ByteArray) (w : World) (hs : s.size ≤ 2097152) :
    Calls Try.prog 21 #[.string s] w (StrIs (Lib.Pa.clean (bs s)) w) := by
  go_enter Try.func21, Try.ntmps21
  go_wp2_with fail
  refine (spec_Rewrite s none 0 0 [] _ ⟨rfl, Nat.le_refl _, fun j z hz => by simp at hz⟩ hs).mono ?_
  rintro e w1 ⟨q, rfl, hq, hb⟩
  have HQ := Lib.hid hq
  have HB := Lib.hid hb
  clear hq hb
  go_wp2
  go_ret
  exact ⟨_, rfl, HQ.out, HB.out⟩
theorem spec_Dir (s : ByteArray) (w : World) (hs : s.size ≤ 2097152) :
    Calls Try.prog 25 #[.string s] w (StrIs (Lib.Pa.dir (bs s)) w) := by
  go_enter Try.func25, Try.ntmps25
  go_wp2_with fail
  refine (spec_Split s _ (by omega)).mono ?_
  rintro e w1 ⟨d, f, rfl, hd, _, hb1⟩
  have hds : d.size ≤ 2097152 := by
    rw [size_bs, hd]
    have := split_le (bs s)
    rw [← size_bs] at this
    omega
  have HD := Lib.hid hd
  have HB1 := Lib.hid hb1
  clear hd hb1
  go_wp2_with fail
  refine (spec_Clean d _ hds).mono ?_
  rintro e w2 ⟨q, rfl, hq, hb2⟩
  have HQ := Lib.hid (show bs q = Lib.Pa.dir (bs s) by rw [hq, HD.out]; rfl)
  have HB2 := Lib.hid (next HB1.out hb2)
  clear hq hb2
  go_wp2
  go_ret
  exact ⟨_, rfl, HQ.out, HB2.out⟩

end Go.Proofs.Ytoaepbobbfgbgaa.Wm
