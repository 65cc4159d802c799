/-
  The contract of the reference's MeaningOf.
-/
import Derived.Test.YtoaepbobbfgbgaaDoorSpecC
import Derived.Test.YtoaepbobbfgbgaaDoorPlain5
namespace Go.Proofs.YtoaepbobbfgbgaaDoor.Wm
open Go Go.RowKit

/-- A meaning in memory. -/
def Box (w : World) (B : Nat) (ro : Bool) (up : Int) (v : Value) : Prop := w.heap[B]? = some (.cells #[.bool ro, .int .i64 up, v] 39)
theorem Box.c0 {w : World} {B : Nat} {ro : Bool} {up : Int} {v : Value} (h : Box w B ro up v) : w.cell? ⟨B, 0, none⟩ = some (.bool ro) ∧ w.frozen? ⟨B, 0, none⟩ = false := by
  unfold Box at h; simp only [World.cell?, World.frozen?, h]; exact ⟨rfl, rfl⟩
theorem Box.c1 {w : World} {B : Nat} {ro : Bool} {up : Int} {v : Value} (h : Box w B ro up v) : w.cell? ⟨B, 1, none⟩ = some (.int .i64 up) ∧ w.frozen? ⟨B, 1, none⟩ = false := by
  unfold Box at h; simp only [World.cell?, World.frozen?, h]; exact ⟨rfl, rfl⟩
theorem Box.c2 {w : World} {B : Nat} {ro : Bool} {up : Int} {v : Value} (h : Box w B ro up v) : w.cell? ⟨B, 2, none⟩ = some v ∧ w.frozen? ⟨B, 2, none⟩ = false := by
  unfold Box at h; simp only [World.cell?, World.frozen?, h]; exact ⟨rfl, rfl⟩
theorem Box.set0 {w : World} {B : Nat} {ro : Bool} {up : Int} {v : Value} (h : Box w B ro up v) (ro' : Bool) : Box (w.setCell ⟨B, 0, none⟩ (.bool ro')) B ro' up v := by
  unfold Box at h ⊢; simp [World.setCell, Array.getElem?_modify, h]
theorem Box.set1 {w : World} {B : Nat} {ro : Bool} {up : Int} {v : Value} (h : Box w B ro up v) (up' : Int) : Box (w.setCell ⟨B, 1, none⟩ (.int .i64 up')) B ro up' v := by
  unfold Box at h ⊢; simp [World.setCell, Array.getElem?_modify, h]
theorem Box.set2 {w : World} {B : Nat} {ro : Bool} {up : Int} {v : Value} (h : Box w B ro up v) (v' : Value) : Box (w.setCell ⟨B, 2, none⟩ v') B ro up v' := by
  unfold Box at h ⊢; simp [World.setCell, Array.getElem?_modify, h]
theorem Box.keep {w w' : World} {B : Nat} {ro : Bool} {up : Int} {v : Value} (h : Box w B ro up v) (hk : w'.heap[B]? = w.heap[B]?) : Box w' B ro up v := hk.trans h
theorem Box.lt {w : World} {B : Nat} {ro : Bool} {up : Int} {v : Value} (h : Box w B ro up v) : B < w.heap.size := lt_of_cell (a := ⟨B, 0, none⟩) h.c0.1
theorem box_alloc (w : World) (ro : Bool) (up : Int) (v : Value) : Box (w.alloc (.cells #[.bool ro, .int .i64 up, v] 39)) w.heap.size ro up v := by
  show (w.heap.push _)[w.heap.size]? = _
  simp
theorem alloc_size (w : World) (o : Obj) : (w.alloc o).heap.size = w.heap.size + 1 := by simp
theorem setCell_size (w : World) (a : Addr) (v : Value) : (w.setCell a v).heap.size = w.heap.size := by simp [World.setCell]

theorem OwnStrs.sv {base : Nat} {w : World} {a : Option Addr} {n c : Nat} {xs : List ByteArray} (h : OwnStrs base w (.slice a n c) xs) : n = xs.length ∧ StrsV w a n c xs := by
  obtain ⟨a', c', e, hv⟩ := h.v
  cases e
  exact ⟨rfl, hv⟩
theorem OwnStrs.keep {base : Nat} {w w' : World} {v : Value} {xs : List ByteArray} (h : OwnStrs base w v xs) (hk : ∀ g, base ≤ g → g < w.heap.size → w'.heap[g]? = w.heap[g]?) : OwnStrs base w' v xs := by
  refine ⟨h.1, ?_⟩
  rcases h.2 with h' | ⟨g, cap, cur, hv, hbg, hg, h1⟩
  · exact .inl h'
  · refine .inr ⟨g, cap, cur, hv, hbg, ?_, h1⟩
    have hlt : g < w.heap.size := by
      by_cases hlt : g < w.heap.size
      · exact hlt
      · have : w.heap[g]? = none := by simpa using hlt
        rw [this] at hg; cases hg
    rw [hk g hbg hlt]; exact hg
theorem OwnStrs.set {base : Nat} {w : World} {v : Value} {xs : List ByteArray} (h : OwnStrs base w v xs) (a : Addr) (u : Value) (ha : a.block < base) : OwnStrs base (w.setCell a u) v xs :=
  h.keep (fun g h1 _ => Below.heap_setCell _ _ _ _ (by omega))
theorem OwnStrs.mono2 {b b' : Nat} {w : World} {v : Value} {xs : List ByteArray} (h : OwnStrs b w v xs) (hb : b' ≤ b) : OwnStrs b' w v xs := by
  refine ⟨h.1, ?_⟩
  rcases h.2 with h' | ⟨g, cap, cur, hv, hbg, h1⟩
  · exact .inl h'
  · exact .inr ⟨g, cap, cur, hv, Nat.le_trans hb hbg, h1⟩
theorem OwnStrs.pop {base : Nat} {w : World} {a : Option Addr} {n c : Nat} {xs : List ByteArray} {x : ByteArray} (h : OwnStrs base w (.slice a (n + 1) c) (xs ++ [x])) : OwnStrs base w (.slice a n c) xs := by
  have hn := h.sv.1
  rw [List.length_append, List.length_singleton] at hn
  obtain rfl : n = xs.length := by omega
  refine ⟨by rw [List.length_map, Nat.mul_one], ?_⟩
  rcases h.2 with ⟨hv, _⟩ | ⟨g, cap, cur, hv, hbg, hg, h1, h2, h3, h4⟩
  · cases hv
  · rw [List.length_append, List.length_singleton] at hv h1 h4
    cases hv
    refine .inr ⟨g, c, cur, rfl, hbg, hg, by omega, h2, h3, ?_⟩
    have := congrArg (List.take (xs.length * 1)) h4
    rw [List.take_take, Nat.min_eq_left (by omega)] at this
    rw [this, List.map_append, List.take_append_of_le_length (by rw [List.length_map]; omega), List.take_of_length_le (by rw [List.length_map]; omega)]

theorem wrap_succ' (up : Nat) (h : up ≤ 2097153) : wrap64 ((up : Int) + 1) = (up : Int) + 1 := IntWalk.wrap64_in ((up : Int) + 1) ⟨by omega, by omega⟩
theorem wrap_succ (up : Nat) (h : up ≤ 2097153) : wrap64 ((up : Int) + 1) = ((up + 1 : Nat) : Int) := by
  rw [IntWalk.wrap64_in ((up : Int) + 1) ⟨by omega, by omega⟩]; omega

theorem stk_body (l : List UInt8) : fold (Lib.Pa.isAbs l) [] (Lib.Pa.els (body l)) = stk l := by
  unfold stk
  rcases els_body l with h | h
  · rw [h]
  · rw [h, fold_cons, Lib.Pa.step_nil]

set_option maxHeartbeats 4000000 in
theorem meaning_any (s : ByteArray) (w : World) (hs : s.size ≤ 2097152) :
    Calls Tryd.prog 18 #[.string s] w fun e w' => ∃ (up : Nat) (v : Value) (N : List ByteArray), e = .returned (.agg #[.bool (Lib.Pa.isAbs (bs s)), .int .i64 up, v]) ∧ OwnStrs w.heap.size w' v N ∧
      Means (Lib.Pa.isAbs (bs s)) (stk (bs s)) up (N.map bs) ∧ up ≤ 2097153 ∧ N.length ≤ 2097153 ∧ Below w.heap.size w w' := by
  have hst := stk_body (bs s)
  obtain ⟨ro, hro⟩ : ∃ ro, Lib.Pa.isAbs (bs s) = ro := ⟨_, rfl⟩
  rw [hro] at hst ⊢
  have HR := Lib.hid hro
  have HST := Lib.hid hst
  clear hro hst
  go_enter Tryd.func18, Tryd.ntmps18
  go_wp2_with fail
  refine (elements_any s _ hs).mono ?_
  rintro e w1 ⟨vl, xs, rfl, hown, hxs, hb1⟩
  rw [HR.out]
  have hsz0 : ((w.alloc (Obj.cells #[Value.bool false, Value.int IntKind.i64 0, Value.slice none 0 0] 39)).alloc (Obj.cells #[Value.bool false, Value.int IntKind.i64 0, Value.slice none 0 0] 39)).heap.size = w.heap.size + 2 := by rw [alloc_size, alloc_size]
  have hsum := els_sum hxs
  have hbl := body_le (bs s)
  rw [← size_bs] at hbl
  obtain ⟨a, c, rfl, hv⟩ := hown.v
  obtain ⟨n, hn⟩ : ∃ n, xs.length = n := ⟨_, rfl⟩
  rw [hn] at hown hsum ⊢
  have hn2 : n ≤ 2097153 := by omega
  have HN := Lib.hid hn
  have HX := Lib.hid hxs
  have hbA : Box w1 (w.heap.size + 1) false 0 (.slice none 0 0) := by
    have h1 := box_alloc (w.alloc (Obj.cells #[Value.bool false, Value.int IntKind.i64 0, Value.slice none 0 0] 39)) false 0 (.slice none 0 0)
    rw [alloc_size] at h1
    exact h1.keep (hb1.block (w.heap.size + 1) (by rw [hsz0]; omega))
  have hbR : Box w1 w.heap.size false 0 (.slice none 0 0) := by
    have h1 := box_alloc w false 0 (.slice none 0 0)
    have h2 := hb1.block w.heap.size (by rw [hsz0]; omega)
    unfold Box at h1 ⊢
    rw [h2, Below.heap_alloc _ _ _ (by rw [alloc_size]; omega), h1]
  have hbel : Below w.heap.size w w1 := (((Below.refl _ _).alloc (Nat.le_refl _) _).alloc (by rw [alloc_size]; omega) _).trans (hb1.mono (by rw [hsz0]; omega))
  rw [hsz0] at hown
  obtain ⟨c0, f0⟩ := hbA.c0
  have HA2 := Lib.hid (hbA.set0 ro)
  have HO2 := Lib.hid (hown.set ⟨w.heap.size + 1, 0, none⟩ (.bool ro) (by show w.heap.size + 1 < _; omega))
  have HR2 : Hid (Box (w1.setCell ⟨w.heap.size + 1, 0, none⟩ (.bool ro)) w.heap.size false 0 (.slice none 0 0)) := hbR.keep (Below.heap_setCell _ _ _ _ (by show w.heap.size ≠ w.heap.size + 1; omega))
  have HB2 := Lib.hid (hbel.setCell (p := ⟨w.heap.size + 1, 0, none⟩) (by show w.heap.size ≤ w.heap.size + 1; omega) (.bool ro))
  have hs2 : w.heap.size + 2 ≤ (w1.setCell ⟨w.heap.size + 1, 0, none⟩ (.bool ro)).heap.size := by rw [setCell_size, ← hsz0]; exact hb1.size
  clear hbA hbR hbel hown hv hsz0 hb1 hxs hn hsum hbl
  go_wp2
  clear c0 f0
  generalize w1.setCell ⟨w.heap.size + 1, 0, none⟩ (.bool ro) = w2 at HA2 HO2 HR2 HB2 hs2
  go_loopw [15] (fun i wr => ∃ (k up : Nat) (v : Value) (N : List ByteArray), i = .int .i64 k ∧ k ≤ n ∧ up ≤ k ∧ N.length ≤ k ∧ Hid (Box wr (w.heap.size + 1) ro up v) ∧ Hid (OwnStrs w2.heap.size wr v N) ∧ Hid (Means ro (fold ro [] ((xs.map bs).take k)) up (N.map bs)) ∧
    Hid (OwnStrs (w.heap.size + 2) wr (.slice a n c) xs) ∧ Hid (∀ g, w.heap.size + 2 ≤ g → g < w2.heap.size → wr.heap[g]? = w2.heap[g]?) ∧ Hid (Box wr w.heap.size false 0 (.slice none 0 0)) ∧ w2.heap.size ≤ wr.heap.size ∧ Hid (Below w.heap.size w wr)) (fun i _ => n - (intOf i).toNat)
  case atStart => exact ⟨0, 0, _, [], rfl, Nat.zero_le _, Nat.le_refl _, Nat.le_refl _, HA2, World.ownsRow_nil _ _ _ _, means_nil ro, HO2, (fun _ _ _ => rfl), HR2, Nat.le_refl _, HB2⟩
  case round =>
    obtain ⟨k, up, v, N, rfl, hk, hup, hN, HA, HO, HM, HL, HK, HRR, hwr, HB⟩ := hrel
    by_cases hlt : k < n
    · obtain ⟨b, o, rfl, hb, hcells⟩ := HL.out.sv.2.1.addr (by omega)
      have hkx : k < xs.length := by have := HN.out; omega
      have hcell := hcells k _ (List.getElem?_eq_getElem hkx)
      have HE := Lib.hid (show fold ro [] ((xs.map bs).take (k + 1)) = Lib.Pa.cleanStep ro (fold ro [] ((xs.map bs).take k)) (bs xs[k]) by
        rw [List.take_succ_eq_append_getElem (by rw [List.length_map]; exact hkx), fold_snoc, List.getElem_map])
      obtain ⟨x, hx⟩ : ∃ x, xs[k] = x := ⟨_, rfl⟩
      rw [hx] at hcell HE
      clear hcells hx hkx
      by_cases x0 : bs x = []
      · have tx := empty_true x0
        have HM2 := Lib.hid (HM.out.skip (.inl x0))
        rw [← HE.out] at HM2
        clear HM HE x0
        go_wp2
        go_roundw
        case rel => exact ⟨k + 1, up, _, N, by go_num, by omega, by omega, by omega, HA, HO, HM2, HL, HK, HRR, hwr, HB⟩
        case measure => simp [intOf]; omega
      · have tx := empty_false x0
        by_cases x1 : bs x = [46]
        · have tx1 : (x.toList == [46]) = true := lit_true x1
          have HM2 := Lib.hid (HM.out.skip (.inr x1))
          rw [← HE.out] at HM2
          clear HM HE x0 x1
          go_wp2
          go_roundw
          case rel => exact ⟨k + 1, up, _, N, by go_num, by omega, by omega, by omega, HA, HO, HM2, HL, HK, HRR, hwr, HB⟩
          case measure => simp [intOf]; omega
        · have tx1 : (x.toList == [46]) = false := lit_false x1
          by_cases x2 : bs x = [46, 46]
          · have tx2 : (x.toList == [46, 46]) = true := lit_true x2
            rw [x2] at HE
            obtain ⟨c2, f2⟩ := HA.out.c2
            obtain ⟨va, vc, rfl, hvv⟩ := HO.out.v
            have hvc := hvv.2.1
            rcases List.eq_nil_or_concat N with rfl | ⟨N', y, rfl⟩
            · obtain ⟨c0, f0⟩ := HA.out.c0
              obtain ⟨c1, f1⟩ := HA.out.c1
              cases ro with
              | true =>
                have HM2 := Lib.hid (HM.out.root)
                rw [← HE.out] at HM2
                clear HM HE x0 x1 x2 hvv
                go_wp2
                go_roundw
                case rel => exact ⟨k + 1, up, _, [], by go_num, by omega, by omega, by omega, HA, HO, HM2, HL, HK, HRR, hwr, HB⟩
                case measure => simp [intOf]; omega
              | false =>
                have HM2 := Lib.hid (HM.out.up)
                rw [← HE.out] at HM2
                have HA3 : Hid (Box (wr.setCell ⟨w.heap.size + 1, 1, none⟩ (.int .i64 ((up : Int) + 1))) (w.heap.size + 1) false ((up + 1 : Nat) : Int) (.slice va 0 vc)) := by
                  show Box _ _ _ _ _
                  rw [show ((up + 1 : Nat) : Int) = (up : Int) + 1 by omega]
                  exact HA.out.set1 ((up : Int) + 1)
                have HO3 := Lib.hid (HO.out.set ⟨w.heap.size + 1, 1, none⟩ (.int .i64 ((up : Int) + 1)) (by show w.heap.size + 1 < _; omega))
                have HL3 := Lib.hid (HL.out.set ⟨w.heap.size + 1, 1, none⟩ (.int .i64 ((up : Int) + 1)) (by show w.heap.size + 1 < _; omega))
                have HK3 : Hid (∀ g, w.heap.size + 2 ≤ g → g < w2.heap.size → (wr.setCell ⟨w.heap.size + 1, 1, none⟩ (.int .i64 ((up : Int) + 1))).heap[g]? = w2.heap[g]?) := fun g h1 h2 => (Below.heap_setCell _ _ _ _ (by show g ≠ w.heap.size + 1; omega)).trans (HK.out g h1 h2)
                have HR3 : Hid (Box (wr.setCell ⟨w.heap.size + 1, 1, none⟩ (.int .i64 ((up : Int) + 1))) w.heap.size false 0 (.slice none 0 0)) := HRR.out.keep (Below.heap_setCell _ _ _ _ (by show w.heap.size ≠ w.heap.size + 1; omega))
                have HB3 := Lib.hid (HB.out.setCell (p := ⟨w.heap.size + 1, 1, none⟩) (by show w.heap.size ≤ w.heap.size + 1; omega) (.int .i64 ((up : Int) + 1)))
                have hup1 := wrap_succ' up (by omega)
                clear HM HE x0 x1 x2 hvv
                go_wp2
                clear hup1
                go_roundw
                case rel => exact ⟨k + 1, up + 1, _, [], by go_num, hlt, Nat.succ_le_succ hup, Nat.zero_le _, HA3, HO3, HM2, HL3, HK3, HR3, by rw [setCell_size]; exact hwr, HB3⟩
                case measure => simp [intOf]; omega
            · rw [List.concat_eq_append] at *
              rw [List.length_append, List.length_singleton] at *
              have HM2 := Lib.hid (show Means ro (fold ro [] ((xs.map bs).take (k + 1))) up (N'.map bs) by
                have h := HM.out
                rw [List.map_append, List.map_cons, List.map_nil] at h
                rw [HE.out]; exact h.pop)
              have hO2 := HO.out.pop
              have hpos : (0 : Int) < ((N'.length + 1 : Nat) : Int) := by omega
              have HA3 := Lib.hid (HA.out.set2 (.slice va N'.length vc))
              have HO3 := Lib.hid (hO2.set ⟨w.heap.size + 1, 2, none⟩ (.slice va N'.length vc) (by show w.heap.size + 1 < _; omega))
              have HL3 := Lib.hid (HL.out.set ⟨w.heap.size + 1, 2, none⟩ (.slice va N'.length vc) (by show w.heap.size + 1 < _; omega))
              have HK3 : Hid (∀ g, w.heap.size + 2 ≤ g → g < w2.heap.size → (wr.setCell ⟨w.heap.size + 1, 2, none⟩ (.slice va N'.length vc)).heap[g]? = w2.heap[g]?) := fun g h1 h2 => (Below.heap_setCell _ _ _ _ (by show g ≠ w.heap.size + 1; omega)).trans (HK.out g h1 h2)
              have HR3 : Hid (Box (wr.setCell ⟨w.heap.size + 1, 2, none⟩ (.slice va N'.length vc)) w.heap.size false 0 (.slice none 0 0)) := HRR.out.keep (Below.heap_setCell _ _ _ _ (by show w.heap.size ≠ w.heap.size + 1; omega))
              have HB3 := Lib.hid (HB.out.setCell (p := ⟨w.heap.size + 1, 2, none⟩) (by show w.heap.size ≤ w.heap.size + 1; omega) (.slice va N'.length vc))
              clear HM HE x0 x1 x2 hvv hO2
              go_wp2
              go_roundw
              case rel => exact ⟨k + 1, up, _, N', by go_num, by omega, by omega, by omega, HA3, HO3, HM2, HL3, HK3, HR3, by rw [setCell_size]; exact hwr, HB3⟩
              case measure => simp [intOf]; omega
          · have tx2 : (x.toList == [46, 46]) = false := lit_false x2
            obtain ⟨c2, f2⟩ := HA.out.c2
            have HM2 := Lib.hid (show Means ro (fold ro [] ((xs.map bs).take (k + 1))) up ((N ++ [x]).map bs) by
              rw [HE.out, List.map_append]; exact HM.out.name x0 x1 x2)
            have hb5 : Below wr.heap.size wr (wr.alloc (.cells #[.string x] 9)) := (Below.refl _ _).alloc (Nat.le_refl _) _
            have HO5 := Lib.hid (HO.out.below hb5)
            have HS5 := Lib.hid (strsV_lit wr x 9)
            have HZ5 := Lib.hid (Nat.le_trans hwr hb5.size)
            have HB5 := Lib.hid (hb5.mono hwr)
            have hl5 : N.length + 1 ≤ 4194304 := by omega
            clear HM HE x0 x1 x2 hb5
            go_wp2_with (at_builtin; refine wpList_append_strs rfl _ _ rfl w2.heap.size _ _ [x] rfl HO5.out _ _ _ rfl HS5.out hl5 HZ5.out ?_; intro v6 w6 hown6 hb6; obtain ⟨va6, vc6, e6, _⟩ := hown6.v; rw [List.length_append, List.length_singleton] at e6; subst e6; have HB6 := Lib.hid (HB5.out.trans hb6); have HO6 := Lib.hid hown6; have HA6 := Lib.hid (HA.out.keep (w' := w6) (HB6.out.block (w.heap.size + 1) (by omega))); have c26 : w6.cell? ⟨w.heap.size + 1, 2, none⟩ = _ := HA6.out.c2.1; have f26 : w6.frozen? ⟨w.heap.size + 1, 2, none⟩ = _ := HA6.out.c2.2; clear hown6 hb6)
            have HA3 := Lib.hid (HA6.out.set2 (.slice va6 (N.length + 1) vc6))
            have HO3 := Lib.hid (HO6.out.set ⟨w.heap.size + 1, 2, none⟩ (.slice va6 (N.length + 1) vc6) (by show w.heap.size + 1 < _; omega))
            have HK6 : Hid (∀ g, w.heap.size + 2 ≤ g → g < w2.heap.size → w6.heap[g]? = w2.heap[g]?) := fun g h1 h2 => (HB6.out.block g h2).trans (HK.out g h1 h2)
            have HL3 := Lib.hid ((HO2.out.keep HK6.out).set ⟨w.heap.size + 1, 2, none⟩ (.slice va6 (N.length + 1) vc6) (by show w.heap.size + 1 < _; omega))
            have HK3 : Hid (∀ g, w.heap.size + 2 ≤ g → g < w2.heap.size → (w6.setCell ⟨w.heap.size + 1, 2, none⟩ (.slice va6 (N.length + 1) vc6)).heap[g]? = w2.heap[g]?) := fun g h1 h2 => (Below.heap_setCell _ _ _ _ (by show g ≠ w.heap.size + 1; omega)).trans (HK6.out g h1 h2)
            have HR3 : Hid (Box (w6.setCell ⟨w.heap.size + 1, 2, none⟩ (.slice va6 (N.length + 1) vc6)) w.heap.size false 0 (.slice none 0 0)) := (HRR.out.keep (w' := w6) (HB6.out.block w.heap.size (by omega))).keep (Below.heap_setCell _ _ _ _ (by show w.heap.size ≠ w.heap.size + 1; omega))
            have HB3 := Lib.hid ((HB.out.trans (HB6.out.mono (by omega))).setCell (p := ⟨w.heap.size + 1, 2, none⟩) (by show w.heap.size ≤ w.heap.size + 1; omega) (.slice va6 (N.length + 1) vc6))
            have hs6 : w2.heap.size ≤ w6.heap.size := Nat.le_trans hwr HB6.out.size
            go_wp2
            go_roundw
            case rel => exact ⟨k + 1, up, _, N ++ [x], by go_num, by omega, by omega, by rw [List.length_append, List.length_singleton]; omega, HA3, HO3, HM2, HL3, HK3, HR3, by rw [setCell_size]; exact hs6, HB3⟩
            case measure => simp [intOf]; omega
    · obtain rfl : n = k := by omega
      have HM2 := Lib.hid (show Means ro (stk (bs s)) up (N.map bs) by
        have h := HM.out
        rw [List.take_of_length_le (by rw [List.length_map, HN.out]; exact Nat.le_refl _), HX.out, HST.out] at h
        exact h)
      obtain ⟨c0, f0⟩ := HA.out.c0
      obtain ⟨c1, f1⟩ := HA.out.c1
      obtain ⟨c2, f2⟩ := HA.out.c2
      obtain ⟨r0, g0⟩ := HRR.out.c0
      obtain ⟨r1, g1⟩ := HRR.out.c1
      obtain ⟨r2, g2⟩ := HRR.out.c2
      obtain ⟨va, vc, rfl, hvv⟩ := HO.out.v
      have HA3 := Lib.hid (((HRR.out.set0 ro).set1 (up : Int)).set2 (.slice va N.length vc))
      have HB3 := Lib.hid (((HB.out.setCell (p := ⟨w.heap.size, 0, none⟩) (Nat.le_refl _) (.bool ro)).setCell (p := ⟨w.heap.size, 1, none⟩) (Nat.le_refl _) (.int .i64 up)).setCell (p := ⟨w.heap.size, 2, none⟩) (Nat.le_refl _) (.slice va N.length vc))
      have HO3 := Lib.hid ((((HO.out.set ⟨w.heap.size, 0, none⟩ (.bool ro) (by show w.heap.size < _; omega)).set ⟨w.heap.size, 1, none⟩ (.int .i64 up) (by show w.heap.size < _; omega)).set ⟨w.heap.size, 2, none⟩ (.slice va N.length vc) (by show w.heap.size < _; omega)).mono2 (show w.heap.size ≤ w2.heap.size by omega))
      clear HM hvv
      go_wp2
      have q0 := HA3.out.c0.1
      have q1 := HA3.out.c1.1
      have q2 := HA3.out.c2.1
      refine bodyPost_ret (v := .agg #[.bool ro, .int .i64 up, .slice va N.length vc]) ?_ rfl ⟨up, _, N, rfl, HO3.out, HM2.out, by omega, by omega, HB3.out⟩
      simp [results, go_sem, q0, q1, q2]

end Go.Proofs.YtoaepbobbfgbgaaDoor.Wm
