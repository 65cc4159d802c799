/-
  The contracts of the reference's 'elements' and 'together'.
-/
import Derived.Test.YtoaepbobbfgbgaaDoorSpecA
import Derived.Test.YtoaepbobbfgbgaaDoorStrs
namespace Go.Proofs.YtoaepbobbfgbgaaDoor.Wm
open Go Go.RowKit

/-- A path without the slash that makes it rooted. -/
def body (l : List UInt8) : List UInt8 := if Lib.Pa.isAbs l then l.tail else l
def strLen : Value → Nat | .string s => s.size | _ => 0

theorem List.drop_append_of_le_length' (a b : List UInt8) : (a ++ 47 :: b).drop (a.length + 1) = b := by
  rw [List.drop_append, List.drop_of_length_le (by omega), show a.length + 1 - a.length = 1 by omega]; rfl

set_option maxHeartbeats 2000000 in
theorem elements_any (s : ByteArray) (w : World) (hs : s.size ≤ 2097152) :
    Calls Tryd.prog 26 #[.string s] w fun e w' => ∃ v xs, e = .returned (.tuple #[.bool (Lib.Pa.isAbs (bs s)), v]) ∧ OwnStrs w.heap.size w' v xs ∧ xs.map bs = Lib.Pa.els (body (bs s)) ∧ Below w.heap.size w w' := by
  obtain ⟨ro, hro⟩ : ∃ ro, Lib.Pa.isAbs (bs s) = ro := ⟨_, rfl⟩
  rw [hro]
  have HR := Lib.hid hro
  cases ro with
  | true =>
    obtain ⟨t, ht⟩ := (isAbs_iff _).1 hro
    have HT := Lib.hid (show body (bs s) = bs (s.extract 1 s.size) by rw [Lib.Pa.extract_from, bs_mk]; unfold body; rw [hro, if_pos rfl]; show _ = (bs s).drop 1; rw [List.drop_one])
    have hl : t.length + 1 = s.size := by rw [size_bs, ht]; rfl
    have hl2 : (s.extract 1 s.size).size = t.length := by rw [size_bs, Lib.Pa.extract_from, bs_mk]; show ((bs s).drop 1).length = _; rw [ht]; rfl
    have c0 : (1 : Int) ≤ (s.size : Int) := by omega
    clear ht hro
    go_enter Tryd.func26, Tryd.ntmps26
    go_wp2_with fail
    refine (hasPrefix_slash s _ true HR.out).mono ?_
    rintro e w' ⟨rfl, rfl⟩
    go_wp2
    go_loopw [0, 2, 3] (fun p r l wr => ∃ (q : ByteArray) (v : Value) (xs : List ByteArray), p = .string q ∧ r = .bool true ∧ l = v ∧ Hid (OwnStrs w.heap.size wr v xs) ∧ Hid (xs.map bs ++ Lib.Pa.els (bs q) = Lib.Pa.els (body (bs s))) ∧ xs.length + q.size ≤ s.size ∧ Below w.heap.size w wr) (fun p _ _ _ => strLen p)
    case atStart => exact ⟨_, _, [], rfl, rfl, rfl, World.ownsRow_nil _ _ _ _, by show _ = _; rw [HT.out]; rfl, by rw [List.length_nil, hl2]; omega, Below.refl _ _⟩
    case round =>
      obtain ⟨q, v, xs, rfl, rfl, rfl, hown, heq, hlen, hbw⟩ := hrel
      by_cases h47 : 47 ∈ bs q
      · obtain ⟨a, b, hq, ha⟩ := first_at h47
        have HI := Lib.hid (show Lib.indexByte (bs q) 47 = (a.length : Int) by rw [hq]; exact index_at ha)
        have hl : a.length + (b.length + 1) = q.size := by rw [size_bs, hq, List.length_append, List.length_cons]
        have HX := Lib.hid (show bs (q.extract 0 a.length) = a by rw [Lib.Pa.extract_upto, bs_mk]; show (bs q).take a.length = a; rw [hq, List.take_left])
        have HY := Lib.hid (show bs (q.extract (a.length + 1) q.size) = b by rw [Lib.Pa.extract_from, bs_mk]; show (bs q).drop (a.length + 1) = b; rw [hq, List.drop_append_of_le_length' a b])
        have HE := Lib.hid (show (xs ++ [q.extract 0 a.length]).map bs ++ Lib.Pa.els (bs (q.extract (a.length + 1) q.size)) = Lib.Pa.els (body (bs s)) by
          rw [List.map_append, List.map_cons, List.map_nil, HX.out, HY.out, ← heq.out, hq, Lib.Pa.els_app, els_one ha, List.append_assoc])
        have hys : (q.extract (a.length + 1) q.size).size = b.length := by rw [size_bs, HY.out]
        generalize a.length = k at HI hl HX HE hys
        obtain ⟨x, hx⟩ : ∃ x, q.extract 0 k = x := ⟨_, rfl⟩
        have hb1 : Below wr.heap.size wr (wr.alloc (.cells #[.string (q.extract 0 k)] 9)) := (Below.refl _ _).alloc (Nat.le_refl _) _
        have HO1 := Lib.hid (hown.out.below hb1)
        have HS1 := Lib.hid (strsV_lit wr (q.extract 0 k) 9)
        have HZ1 := Lib.hid (Nat.le_trans hbw.size hb1.size)
        have HB1 := Lib.hid (hbw.trans (hb1.mono hbw.size))
        have c1 : (k : Int) + 1 ≤ (q.size : Int) := by omega
        have c2 : (k : Int) ≤ (q.size : Int) := by omega
        have hcap : xs.length + 1 ≤ 4194304 := by omega
        clear hb1 hq ha hx x h47 HX HY hown heq
        go_wp2_with fail
        refine (indexByte_val _ _ _ HI.out).mono ?_
        rintro e w2 ⟨rfl, hw⟩
        obtain rfl : wr = w2 := hw.symm
        go_wp2_with (at_builtin; refine wpList_append_strs rfl _ _ rfl w.heap.size _ _ [_] rfl HO1.out _ _ _ rfl HS1.out hcap HZ1.out ?_; intro v3 w3 hown3 hb3)
        have HB3 := Lib.hid (HB1.out.trans hb3)
        have HO3 := Lib.hid hown3
        clear hown3 hb3 HO1 HS1 HZ1 HB1
        go_wp2
        go_roundw
        case rel => exact ⟨_, _, _, rfl, rfl, rfl, HO3, HE, by rw [List.length_append, List.length_singleton, hys]; omega, HB3.out⟩
        case measure => simp only [strLen]; rw [hys]; omega
      · have HI := Lib.hid (index_none h47)
        have HE := Lib.hid (show (xs ++ [q]).map bs = Lib.Pa.els (body (bs s)) by rw [List.map_append, List.map_cons, List.map_nil, ← heq.out, els_one h47])
        have hb1 : Below wr.heap.size wr (wr.alloc (.cells #[.string q] 9)) := (Below.refl _ _).alloc (Nat.le_refl _) _
        have HO1 := Lib.hid (hown.out.below hb1)
        have HS1 := Lib.hid (strsV_lit wr q 9)
        have HZ1 := Lib.hid (Nat.le_trans hbw.size hb1.size)
        have HB1 := Lib.hid (hbw.trans (hb1.mono hbw.size))
        have hcap : xs.length + 1 ≤ 4194304 := by omega
        clear hb1 h47 hown heq
        go_wp2_with fail
        refine (indexByte_val _ _ _ HI.out).mono ?_
        rintro e w2 ⟨rfl, hw⟩
        obtain rfl : wr = w2 := hw.symm
        go_wp2_with (at_builtin; refine wpList_append_strs rfl _ _ rfl w.heap.size _ _ [_] rfl HO1.out _ _ _ rfl HS1.out hcap HZ1.out ?_; intro v3 w3 hown3 hb3)
        have HB3 := Lib.hid (HB1.out.trans hb3)
        have HO3 := Lib.hid hown3
        clear hown3 hb3 HO1 HS1 HZ1 HB1
        go_wp2
        go_ret2
        exact ⟨_, _, rfl, HO3.out, HE.out, HB3.out⟩
  | false =>
    have HT := Lib.hid (show body (bs s) = bs s by unfold body; rw [hro]; rfl)
    clear hro
    go_enter Tryd.func26, Tryd.ntmps26
    go_wp2_with fail
    refine (hasPrefix_slash s _ false HR.out).mono ?_
    rintro e w' ⟨rfl, rfl⟩
    go_wp2
    go_loopw [0, 2, 3] (fun p r l wr => ∃ (q : ByteArray) (v : Value) (xs : List ByteArray), p = .string q ∧ r = .bool false ∧ l = v ∧ Hid (OwnStrs w.heap.size wr v xs) ∧ Hid (xs.map bs ++ Lib.Pa.els (bs q) = Lib.Pa.els (body (bs s))) ∧ xs.length + q.size ≤ s.size ∧ Below w.heap.size w wr) (fun p _ _ _ => strLen p)
    case atStart => exact ⟨_, _, [], rfl, rfl, rfl, World.ownsRow_nil _ _ _ _, by show _ = _; rw [HT.out]; rfl, by simp, Below.refl _ _⟩
    case round =>
      obtain ⟨q, v, xs, rfl, rfl, rfl, hown, heq, hlen, hbw⟩ := hrel
      by_cases h47 : 47 ∈ bs q
      · obtain ⟨a, b, hq, ha⟩ := first_at h47
        have HI := Lib.hid (show Lib.indexByte (bs q) 47 = (a.length : Int) by rw [hq]; exact index_at ha)
        have hl : a.length + (b.length + 1) = q.size := by rw [size_bs, hq, List.length_append, List.length_cons]
        have HX := Lib.hid (show bs (q.extract 0 a.length) = a by rw [Lib.Pa.extract_upto, bs_mk]; show (bs q).take a.length = a; rw [hq, List.take_left])
        have HY := Lib.hid (show bs (q.extract (a.length + 1) q.size) = b by rw [Lib.Pa.extract_from, bs_mk]; show (bs q).drop (a.length + 1) = b; rw [hq, List.drop_append_of_le_length' a b])
        have HE := Lib.hid (show (xs ++ [q.extract 0 a.length]).map bs ++ Lib.Pa.els (bs (q.extract (a.length + 1) q.size)) = Lib.Pa.els (body (bs s)) by
          rw [List.map_append, List.map_cons, List.map_nil, HX.out, HY.out, ← heq.out, hq, Lib.Pa.els_app, els_one ha, List.append_assoc])
        have hys : (q.extract (a.length + 1) q.size).size = b.length := by rw [size_bs, HY.out]
        generalize a.length = k at HI hl HX HE hys
        obtain ⟨x, hx⟩ : ∃ x, q.extract 0 k = x := ⟨_, rfl⟩
        have hb1 : Below wr.heap.size wr (wr.alloc (.cells #[.string (q.extract 0 k)] 9)) := (Below.refl _ _).alloc (Nat.le_refl _) _
        have HO1 := Lib.hid (hown.out.below hb1)
        have HS1 := Lib.hid (strsV_lit wr (q.extract 0 k) 9)
        have HZ1 := Lib.hid (Nat.le_trans hbw.size hb1.size)
        have HB1 := Lib.hid (hbw.trans (hb1.mono hbw.size))
        have c1 : (k : Int) + 1 ≤ (q.size : Int) := by omega
        have c2 : (k : Int) ≤ (q.size : Int) := by omega
        have hcap : xs.length + 1 ≤ 4194304 := by omega
        clear hb1 hq ha hx x h47 HX HY hown heq
        go_wp2_with fail
        refine (indexByte_val _ _ _ HI.out).mono ?_
        rintro e w2 ⟨rfl, hw⟩
        obtain rfl : wr = w2 := hw.symm
        go_wp2_with (at_builtin; refine wpList_append_strs rfl _ _ rfl w.heap.size _ _ [_] rfl HO1.out _ _ _ rfl HS1.out hcap HZ1.out ?_; intro v3 w3 hown3 hb3)
        have HB3 := Lib.hid (HB1.out.trans hb3)
        have HO3 := Lib.hid hown3
        clear hown3 hb3 HO1 HS1 HZ1 HB1
        go_wp2
        go_roundw
        case rel => exact ⟨_, _, _, rfl, rfl, rfl, HO3, HE, by rw [List.length_append, List.length_singleton, hys]; omega, HB3.out⟩
        case measure => simp only [strLen]; rw [hys]; omega
      · have HI := Lib.hid (index_none h47)
        have HE := Lib.hid (show (xs ++ [q]).map bs = Lib.Pa.els (body (bs s)) by rw [List.map_append, List.map_cons, List.map_nil, ← heq.out, els_one h47])
        have hb1 : Below wr.heap.size wr (wr.alloc (.cells #[.string q] 9)) := (Below.refl _ _).alloc (Nat.le_refl _) _
        have HO1 := Lib.hid (hown.out.below hb1)
        have HS1 := Lib.hid (strsV_lit wr q 9)
        have HZ1 := Lib.hid (Nat.le_trans hbw.size hb1.size)
        have HB1 := Lib.hid (hbw.trans (hb1.mono hbw.size))
        have hcap : xs.length + 1 ≤ 4194304 := by omega
        clear hb1 h47 hown heq
        go_wp2_with fail
        refine (indexByte_val _ _ _ HI.out).mono ?_
        rintro e w2 ⟨rfl, hw⟩
        obtain rfl : wr = w2 := hw.symm
        go_wp2_with (at_builtin; refine wpList_append_strs rfl _ _ rfl w.heap.size _ _ [_] rfl HO1.out _ _ _ rfl HS1.out hcap HZ1.out ?_; intro v3 w3 hown3 hb3)
        have HB3 := Lib.hid (HB1.out.trans hb3)
        have HO3 := Lib.hid hown3
        clear hown3 hb3 HO1 HS1 HZ1 HB1
        go_wp2
        go_ret2
        exact ⟨_, _, rfl, HO3.out, HE.out, HB3.out⟩


/-- Elements with slashes between them, one more at the end. -/
theorem inter_snoc (X : List (List UInt8)) (x : List UInt8) (h : X ≠ []) : ([47] : List UInt8).intercalate (X ++ [x]) = ([47] : List UInt8).intercalate X ++ 47 :: x := by
  induction X with
  | nil => exact absurd rfl h
  | cons y Y ih =>
    cases Y with
    | nil => rw [List.singleton_append, Lib.Pa.J_cons, Lib.Pa.J_one, Lib.Pa.J_one]
    | cons z Z => rw [List.cons_append, List.cons_append, Lib.Pa.J_cons, ← List.cons_append, ih (by simp), Lib.Pa.J_cons]; simp
theorem inter_le (X : List (List UInt8)) : (([47] : List UInt8).intercalate X).length ≤ (X.flatten).length + X.length := by
  by_cases h : X = []
  · subst h; simp
  · have h1 := wt_inter X h
    have h2 : wt X = X.flatten.length + X.length := by
      clear h h1
      induction X with
      | nil => rfl
      | cons x r ih => rw [wt_cons, ih, List.flatten_cons, List.length_append, List.length_cons]; omega
    omega
theorem flatten_len (xs : List ByteArray) : ((xs.map bs).flatten).length = sumLen xs := by
  induction xs with
  | nil => rfl
  | cons x r ih =>
    rw [List.map_cons, List.flatten_cons, List.length_append, ih]
    unfold sumLen
    rw [List.map_cons, List.sum_cons, size_bs]
theorem inter_size {xs : List ByteArray} {q : ByteArray} (h : bs q = ([47] : List UInt8).intercalate (xs.map bs)) : q.size ≤ sumLen xs + xs.length := by
  rw [size_bs, h]
  have := inter_le (xs.map bs)
  rw [flatten_len, List.length_map] at this
  exact this


end Go.Proofs.YtoaepbobbfgbgaaDoor.Wm
