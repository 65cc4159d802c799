/-
  PROVED: A path that has the form of a result of Clean is its own result: the law FnCleanAlone returns true at every integer, bool and slice of strings. Condition (the second form): what it reads is of bulk at most 1048576.
-/
import Derived.Test.YtgigodblbiiahaaImpl
import Derived.Test.YtgigodblbiiahaaPlain3
import Derived.Test.YtgigodblbiiahaaInsert
namespace Go.Proofs.Ytgigodblbiiahaa.fnCleanAlone
open Go Go.ChangeShapes Go.WideShapes Go.ChangeAt Go.RowKit
open Go.ChangeMaps (open_string shut_string)
open Go.Proofs.Ytgigodblbiiahaa.Wm (bs)
open Go.Lib

/-- Two dots, as a string. -/
def dd : ByteArray := ⟨#[46, 46]⟩
theorem bs_dd : bs dd = [46, 46] := rfl
/-- A name. -/
def goodB (s : ByteArray) : Bool := decide (bs s ≠ [] ∧ bs s ≠ [46] ∧ bs s ≠ [46, 46] ∧ 47 ∉ bs s)
theorem goodB_iff (s : ByteArray) : goodB s = true ↔ bs s ≠ [] ∧ bs s ≠ [46] ∧ bs s ≠ [46, 46] ∧ 47 ∉ bs s := by unfold goodB; exact decide_eq_true_iff
/-- The elements gathered so far: m times two dots, then the names among ns. -/
def lst (m : Nat) (ns : List ByteArray) : List ByteArray := List.replicate m dd ++ ns.filter goodB
theorem lst_snoc_good (m : Nat) (ns : List ByteArray) (x : ByteArray) (h : goodB x = true) : lst m (ns ++ [x]) = lst m ns ++ [x] := by
  unfold lst
  rw [List.filter_append, List.filter_cons_of_pos h, List.filter_nil, List.append_assoc]
theorem lst_snoc_bad (m : Nat) (ns : List ByteArray) (x : ByteArray) (h : goodB x = false) : lst m (ns ++ [x]) = lst m ns := by
  unfold lst
  rw [List.filter_append, List.filter_cons_of_neg (by rw [h]; simp), List.filter_nil, List.append_nil]
theorem lst_len (m : Nat) (ns : List ByteArray) : (lst m ns).length ≤ m + ns.length := by
  unfold lst
  rw [List.length_append, List.length_replicate]
  have := List.length_filter_le goodB ns
  omega
theorem sum_filter (ns : List ByteArray) : Wm.sumLen (ns.filter goodB) ≤ Wm.sumLen ns := by
  induction ns with
  | nil => exact Nat.le_refl _
  | cons x r ih =>
    have e : Wm.sumLen (x :: r) = x.size + Wm.sumLen r := by
      rw [show x :: r = [x] ++ r from rfl, Wm.sumLen_append, Wm.sumLen_one]
    rw [e]
    cases h : goodB x with
    | true =>
      rw [List.filter_cons_of_pos h, show x :: r.filter goodB = [x] ++ r.filter goodB from rfl, Wm.sumLen_append, Wm.sumLen_one]; omega
    | false => rw [List.filter_cons_of_neg (by rw [h]; simp)]; omega
theorem sum_dd (m : Nat) : Wm.sumLen (List.replicate m dd) = 2 * m := by
  induction m with
  | zero => rfl
  | succ m ih =>
    rw [List.replicate_succ, show dd :: List.replicate m dd = [dd] ++ List.replicate m dd from rfl, Wm.sumLen_append, Wm.sumLen_one, ih]
    show 2 + 2 * m = _
    omega
theorem lst_sum (m : Nat) (ns : List ByteArray) : Wm.sumLen (lst m ns) ≤ 2 * m + Wm.sumLen ns := by
  unfold lst
  rw [Wm.sumLen_append, sum_dd]
  have := sum_filter ns
  omega
/-- What is gathered is a stack of Clean's. -/
theorem good_names (ro : Bool) (st : List (List UInt8)) (hs : Wm.Good ro st) : ∀ ns : List ByteArray, (∀ x, x ∈ ns → goodB x = true) → Wm.Good ro ((ns.map bs).reverse ++ st)
  | [], _ => hs
  | x :: r, h => by
    have hx := (goodB_iff x).1 (h x (by simp))
    rw [List.map_cons, List.reverse_cons, List.append_assoc, List.singleton_append]
    exact good_names ro (bs x :: st) ⟨hs, hx.2.2.2, hx.1, hx.2.1, fun e => absurd e hx.2.2.1⟩ r (fun y hy => h y (by simp [hy]))
theorem good_dds : ∀ m, Wm.Good false (List.replicate m [46, 46])
  | 0 => trivial
  | m + 1 => ⟨good_dds m, by decide, by decide, by decide, fun _ => ⟨rfl, fun y hy => (List.mem_replicate.1 hy).2⟩⟩
theorem good_lst (ro : Bool) (m : Nat) (ns : List ByteArray) (hm : ro = true → m = 0) : Wm.Good ro ((lst m ns).map bs).reverse := by
  unfold lst
  rw [List.map_append, List.reverse_append]
  refine good_names ro _ ?_ _ (fun x hx => (List.mem_filter.1 hx).2)
  rw [List.map_replicate, List.reverse_replicate, bs_dd]
  cases ro with
  | true => rw [hm rfl]; trivial
  | false => exact good_dds m
theorem clean_rooted (m : Nat) (ns : List ByteArray) (hm : m = 0) : Pa.clean (47 :: ([47] : List UInt8).intercalate ((lst m ns).map bs)) = 47 :: ([47] : List UInt8).intercalate ((lst m ns).map bs) := by
  have h := Wm.clean_rnd (good_lst true m ns (fun _ => hm))
  unfold Wm.rnd at h
  rwa [if_pos rfl, List.reverse_reverse] at h
theorem clean_rel (m : Nat) (ns : List ByteArray) (hne : lst m ns ≠ []) : Pa.clean (([47] : List UInt8).intercalate ((lst m ns).map bs)) = ([47] : List UInt8).intercalate ((lst m ns).map bs) := by
  have h := Wm.clean_rnd (good_lst false m ns (fun e => by cases e))
  unfold Wm.rnd at h
  rwa [if_neg (by simp), if_neg (by simpa using hne), List.reverse_reverse] at h
theorem inter_len (X : List (List UInt8)) : (([47] : List UInt8).intercalate X).length ≤ (X.flatten).length + X.length := by
  by_cases h : X = []
  · subst h; simp
  · have h1 := Wm.wt_inter X h
    have h2 : Wm.wt X = X.flatten.length + X.length := by
      clear h h1
      induction X with
      | nil => rfl
      | cons x r ih => rw [Wm.wt_cons, ih, List.flatten_cons, List.length_append, List.length_cons]; omega
    omega

/-- strings.Join with slashes between the elements. -/
theorem strings_slash (a : Option Addr) (n c : Nat) (xs : List ByteArray) (w : World) (h : Wm.StrsV w a n c xs) (hl : Wm.sumLen xs + n ≤ 4194304) :
    Calls Try.prog 21 #[.slice a n c, .string ⟨#[47]⟩] w (Wm.StrIs (([47] : List UInt8).intercalate (xs.map bs)) w) := by
  have hn := h.1.1
  by_cases h0 : 0 < n
  · obtain ⟨b, o, rfl, hb, hc⟩ := h.1.addr h0
    subst hn
    have e : Lib.join (xs.map (·.data.toList)) (⟨#[47]⟩ : ByteArray).data.toList = ([47] : List UInt8).intercalate (xs.map bs) := rfl
    have hle := inter_len (xs.map bs)
    rw [Wm.flatten_len, List.length_map] at hle
    refine (Try.strings_Join b o c xs ⟨#[47]⟩ w hc hb (by omega) h.2.1 (by rw [e]; omega)).mono ?_
    rintro e' w' ⟨rfl, hb'⟩
    exact ⟨_, rfl, rfl, hb'⟩
  · obtain rfl : n = 0 := by omega
    obtain rfl : xs = [] := List.eq_nil_of_length_eq_zero hn
    refine (Try.strings_Join_none a c ⟨#[47]⟩ w).mono ?_
    rintro e' w' ⟨rfl, rfl⟩
    exact ⟨_, rfl, rfl, Below.refl _ _⟩

set_option maxHeartbeats 3200000 in
theorem at_true (a0 : Int) (w : World) (a2 : Option Addr) (len2 cap2 : Nat) (ns : List ByteArray) (HN : Hid (Wm.StrsV w a2 len2 cap2 ns)) (LN : Hid (ns.length = len2)) (sn : Wm.sumLen ns + len2 ≤ 1048576) :
    Calls Try.prog 9 #[.int .i64 a0, .bool true, .slice a2 len2 cap2] w fun e w' => e = .returned (.bool true) ∧ Below w.heap.size w w' := by
  have ht := Wm.tmod_abs a0 (n := 20) (by decide)
  obtain ⟨t, hT⟩ : ∃ t, a0.tmod 20 = t := ⟨_, rfl⟩
  rw [hT] at ht
  go_enter Try.func9, Try.ntmps9
  go_wp2
  clear hT
  go_loopw [7, 14] (fun v i wr => ∃ (m : Nat) (v' : Value), m ≤ 20 ∧ i = .int .i64 m ∧ v = v' ∧ Hid (Wm.OwnStrs w.heap.size wr v' (List.replicate m dd)) ∧ Below w.heap.size w wr) (fun _ i _ => 20 - (RowKit.intOf i).toNat)
  case atStart => exact ⟨0, _, by omega, rfl, rfl, World.ownsRow_made (base := w.heap.size) (size := 1) w #[] 0 (Nat.le_refl _) (by unfold maxLen; omega) rfl, (Below.refl _ _).alloc (Nat.le_refl _) _⟩
  case round =>
    obtain ⟨m, v1, hm, rfl, rfl, hown1, hbw1⟩ := hrel
    by_cases hlt : (m : Int) < t
    · have hb5 : Below wr.heap.size wr (wr.alloc (.cells #[.string ⟨#[46, 46]⟩] 9)) := (Below.refl _ _).alloc (Nat.le_refl _) _
      have HO5 := Lib.hid (hown1.out.below hb5)
      have HS5 := Lib.hid (Wm.strsV_lit wr dd 9)
      have HZ5 := Lib.hid (Nat.le_trans hbw1.size hb5.size)
      have HB5 := Lib.hid (hbw1.trans (hb5.mono hbw1.size))
      have hl5 : (List.replicate m dd).length + 1 ≤ 4194304 := by rw [List.length_replicate]; omega
      clear hb5
      go_wp2_with (at_builtin; refine Wm.wpList_append_strs rfl _ _ rfl w.heap.size _ _ [dd] rfl HO5.out _ _ _ rfl HS5.out hl5 HZ5.out ?_; intro v6 w6 hown6 hb6)
      have HB6 := Lib.hid (HB5.out.trans hb6)
      have HO6 : Hid (Wm.OwnStrs w.heap.size w6 v6 (List.replicate (m + 1) dd)) := by show Wm.OwnStrs _ _ _ _; rw [List.replicate_succ']; exact hown6
      clear hown6 hb6 HB5 HO5 HS5 HZ5 hl5
      go_wp2
      go_roundw
      case rel => exact ⟨m + 1, v6, by omega, by go_num, rfl, HO6, HB6.out⟩
      case measure => simp [RowKit.intOf]; omega
    · obtain ⟨w1, rfl⟩ : ∃ w1 : World, w1 = wr := ⟨_, rfl⟩
      go_wp2
      go_loopw [7, 23] (fun v i wr => ∃ (k : Nat) (v' : Value), k ≤ len2 ∧ i = .int .i64 k ∧ v = v' ∧ Hid (Wm.OwnStrs w.heap.size wr v' (lst 0 (ns.take k))) ∧ Below w.heap.size w wr) (fun _ i _ => len2 - (RowKit.intOf i).toNat)
      case atStart => exact ⟨0, _, Nat.zero_le _, rfl, rfl, World.ownsRow_nil _ _ _ _, hbw1⟩
      case round =>
        obtain ⟨k, v, hk, rfl, rfl, hown, hbw⟩ := hrel
        by_cases hlt : k < len2
        · obtain ⟨b, o, rfl, hb, hcells⟩ := HN.out.1.addr (by omega)
          have hkx : k < ns.length := by have := LN.out; omega
          have hcell0 := hcells k _ (List.getElem?_eq_getElem hkx)
          have HE := Lib.hid (show ns.take (k + 1) = ns.take k ++ [ns[k]] from List.take_succ_eq_append_getElem hkx)
          generalize ns[k] = x at hcell0 HE
          have hcell : wr.cell? ⟨b, o + k, none⟩ = some (.string x) := by rw [hbw.cell (p := ⟨b, o + k, none⟩) (Wm.lt_of_cell (a := ⟨b, o + k, none⟩) hcell0)]; exact hcell0
          clear hcells hb hcell0 hkx
          by_cases h0 : bs x = []
          · have n0 := Wm.empty_true h0
            have HR : Hid (lst 0 (ns.take (k + 1)) = lst 0 (ns.take k)) := by show _ = _; rw [HE.out]; exact lst_snoc_bad _ _ _ (by unfold goodB; simp [h0])
            clear h0
            go_wp2
            go_roundw
            case rel => exact ⟨k + 1, _, by omega, by go_num, rfl, by show Wm.OwnStrs _ _ _ _; rw [HR.out]; exact hown.out, hbw⟩
            case measure => simp [RowKit.intOf]; omega
          by_cases h1 : bs x = [46]
          · have n0 := Wm.empty_false h0
            have n1 : (x.toList == [46]) = true := Wm.lit_true h1
            have HR : Hid (lst 0 (ns.take (k + 1)) = lst 0 (ns.take k)) := by show _ = _; rw [HE.out]; exact lst_snoc_bad _ _ _ (by unfold goodB; simp [h1])
            clear h0 h1
            go_wp2
            go_roundw
            case rel => exact ⟨k + 1, _, by omega, by go_num, rfl, by show Wm.OwnStrs _ _ _ _; rw [HR.out]; exact hown.out, hbw⟩
            case measure => simp [RowKit.intOf]; omega
          by_cases h2 : bs x = [46, 46]
          · have n0 := Wm.empty_false h0
            have n1 : (x.toList == [46]) = false := Wm.lit_false h1
            have n2 : (x.toList == [46, 46]) = true := Wm.lit_true h2
            have HR : Hid (lst 0 (ns.take (k + 1)) = lst 0 (ns.take k)) := by show _ = _; rw [HE.out]; exact lst_snoc_bad _ _ _ (by unfold goodB; simp [h2])
            clear h0 h1 h2
            go_wp2
            go_roundw
            case rel => exact ⟨k + 1, _, by omega, by go_num, rfl, by show Wm.OwnStrs _ _ _ _; rw [HR.out]; exact hown.out, hbw⟩
            case measure => simp [RowKit.intOf]; omega
          have n0 := Wm.empty_false h0
          have n1 : (x.toList == [46]) = false := Wm.lit_false h1
          have n2 : (x.toList == [46, 46]) = false := Wm.lit_false h2
          by_cases h47 : 47 ∈ bs x
          · have HR : Hid (lst 0 (ns.take (k + 1)) = lst 0 (ns.take k)) := by show _ = _; rw [HE.out]; exact lst_snoc_bad _ _ _ (by unfold goodB; simp [h47])
            have H47 := Lib.hid h47
            clear h0 h1 h2 h47
            go_wp2_with fail
            refine (Wm.contains_yes x _ H47.out).mono ?_
            rintro e w5 ⟨rfl, rfl⟩
            go_wp2
            go_roundw
            case rel => exact ⟨k + 1, _, by omega, by go_num, rfl, by show Wm.OwnStrs _ _ _ _; rw [HR.out]; exact hown.out, hbw⟩
            case measure => simp [RowKit.intOf]; omega
          · have HR : Hid (lst 0 (ns.take (k + 1)) = lst 0 (ns.take k) ++ [x]) := by show _ = _; rw [HE.out]; exact lst_snoc_good _ _ _ ((goodB_iff x).2 ⟨h0, h1, h2, h47⟩)
            have H47 := Lib.hid h47
            clear h0 h1 h2 h47
            have hll := lst_len 0 (ns.take k)
            have hlk : (ns.take k).length ≤ k := by rw [List.length_take]; omega
            have hll2 : (lst 0 (ns.take k)).length + 1 ≤ 4194304 := by omega
            clear hll hlk
            have hb5 : Below wr.heap.size wr (wr.alloc (.cells #[.string x] 9)) := (Below.refl _ _).alloc (Nat.le_refl _) _
            have hown5 := hown.out.below hb5
            have hS5 := Wm.strsV_lit wr x 9
            have hsz5 : w.heap.size ≤ (wr.alloc (.cells #[.string x] 9)).heap.size := Nat.le_trans hbw.size hb5.size
            have HB5 := Lib.hid (hbw.trans (hb5.mono hbw.size))
            have HO5 := Lib.hid hown5
            have HS5 := Lib.hid hS5
            have HZ5 := Lib.hid hsz5
            clear hown5 hS5 hb5 hsz5
            go_wp2_with (first | (go_at_call 23; refine (Wm.contains_no x _ H47.out).mono ?_; rintro e w5 ⟨rfl, rfl⟩) | (at_builtin; refine Wm.wpList_append_strs rfl _ _ rfl w.heap.size _ _ [x] rfl HO5.out _ _ _ rfl HS5.out hll2 HZ5.out ?_; intro v6 w6 hown6 hb6))
            have HB6 := Lib.hid (HB5.out.trans hb6)
            have HO6 : Hid (Wm.OwnStrs w.heap.size w6 v6 (lst 0 (ns.take (k + 1)))) := by show Wm.OwnStrs _ _ _ _; rw [HR.out]; exact hown6
            clear hown6 hb6 HB5 HO5 HS5 HZ5
            go_wp2
            go_roundw
            case rel => exact ⟨k + 1, v6, by omega, by go_num, rfl, HO6, HB6.out⟩
            case measure => simp [RowKit.intOf]; omega
        · obtain rfl : k = len2 := by omega
          have hown' := hown.out
          rw [List.take_of_length_le (by rw [LN.out]; exact Nat.le_refl _)] at hown'
          obtain ⟨a, c, rfl, hv⟩ := hown'.v
          have HV := Lib.hid hv
          have hll := lst_len 0 ns
          have hls := lst_sum 0 ns
          have hln := LN.out
          have hsum : Wm.sumLen (lst 0 ns) + (lst 0 ns).length ≤ 4194304 := by omega
          clear hown hown' hv hll hls hln
          go_wp2_with fail
          refine (strings_slash a _ c (lst 0 ns) _ HV.out hsum).mono ?_
          rintro e w7 ⟨p, rfl, hp, hb7⟩
          have hps : p.size ≤ 4194304 := by
            have := inter_len ((lst 0 ns).map bs)
            rw [Wm.flatten_len, List.length_map, ← hp, ← Wm.size_bs] at this
            omega
          have HB7 := Lib.hid (Wm.next hbw hb7)
          have q1 : 1 + p.size ≤ 9223372036854775807 := by omega
          have HP := Lib.hid (show bs (⟨#[47]⟩ ++ p) = 47 :: ([47] : List UInt8).intercalate ((lst 0 ns).map bs) by rw [Wm.bs_append, hp]; rfl)
          have tp : ((⟨#[47]⟩ : ByteArray) ++ p).toList.isEmpty = false := Wm.empty_false (by rw [HP.out]; simp)
          clear hp hb7
          go_wp2_with fail
          refine (Wm.impl_Clean _ _ (by rw [ByteArray.size_append, Wm.size1]; omega)).mono ?_
          rintro e w8 ⟨x, rfl, hx, hb8⟩
          have tx : (x.toList == ((⟨#[47]⟩ : ByteArray) ++ p).toList) = true := Wm.eq_true (by rw [hx, HP.out]; exact clean_rooted 0 ns rfl)
          have HB8 := Lib.hid (Wm.next HB7.out hb8)
          clear hx hb8
          go_wp2
          go_ret
          exact ⟨by simp, HB8.out⟩

set_option maxHeartbeats 3200000 in
theorem at_false (a0 : Int) (w : World) (a2 : Option Addr) (len2 cap2 : Nat) (ns : List ByteArray) (HN : Hid (Wm.StrsV w a2 len2 cap2 ns)) (LN : Hid (ns.length = len2)) (sn : Wm.sumLen ns + len2 ≤ 1048576) :
    Calls Try.prog 9 #[.int .i64 a0, .bool false, .slice a2 len2 cap2] w fun e w' => e = .returned (.bool true) ∧ Below w.heap.size w w' := by
  have ht := Wm.tmod_abs a0 (n := 20) (by decide)
  obtain ⟨t, hT⟩ : ∃ t, a0.tmod 20 = t := ⟨_, rfl⟩
  rw [hT] at ht
  go_enter Try.func9, Try.ntmps9
  go_wp2
  clear hT
  go_loopw [7, 14] (fun v i wr => ∃ (m : Nat) (v' : Value), m ≤ 20 ∧ i = .int .i64 m ∧ v = v' ∧ Hid (Wm.OwnStrs w.heap.size wr v' (List.replicate m dd)) ∧ Below w.heap.size w wr) (fun _ i _ => 20 - (RowKit.intOf i).toNat)
  case atStart => exact ⟨0, _, by omega, rfl, rfl, World.ownsRow_made (base := w.heap.size) (size := 1) w #[] 0 (Nat.le_refl _) (by unfold maxLen; omega) rfl, (Below.refl _ _).alloc (Nat.le_refl _) _⟩
  case round =>
    obtain ⟨m, v1, hm, rfl, rfl, hown1, hbw1⟩ := hrel
    by_cases hlt : (m : Int) < t
    · have hb5 : Below wr.heap.size wr (wr.alloc (.cells #[.string ⟨#[46, 46]⟩] 9)) := (Below.refl _ _).alloc (Nat.le_refl _) _
      have HO5 := Lib.hid (hown1.out.below hb5)
      have HS5 := Lib.hid (Wm.strsV_lit wr dd 9)
      have HZ5 := Lib.hid (Nat.le_trans hbw1.size hb5.size)
      have HB5 := Lib.hid (hbw1.trans (hb5.mono hbw1.size))
      have hl5 : (List.replicate m dd).length + 1 ≤ 4194304 := by rw [List.length_replicate]; omega
      clear hb5
      go_wp2_with (at_builtin; refine Wm.wpList_append_strs rfl _ _ rfl w.heap.size _ _ [dd] rfl HO5.out _ _ _ rfl HS5.out hl5 HZ5.out ?_; intro v6 w6 hown6 hb6)
      have HB6 := Lib.hid (HB5.out.trans hb6)
      have HO6 : Hid (Wm.OwnStrs w.heap.size w6 v6 (List.replicate (m + 1) dd)) := by show Wm.OwnStrs _ _ _ _; rw [List.replicate_succ']; exact hown6
      clear hown6 hb6 HB5 HO5 HS5 HZ5 hl5
      go_wp2
      go_roundw
      case rel => exact ⟨m + 1, v6, by omega, by go_num, rfl, HO6, HB6.out⟩
      case measure => simp [RowKit.intOf]; omega
    · obtain ⟨w1, rfl⟩ : ∃ w1 : World, w1 = wr := ⟨_, rfl⟩
      go_wp2
      go_loopw [7, 23] (fun v i wr => ∃ (k : Nat) (v' : Value), k ≤ len2 ∧ i = .int .i64 k ∧ v = v' ∧ Hid (Wm.OwnStrs w.heap.size wr v' (lst m (ns.take k))) ∧ Below w.heap.size w wr) (fun _ i _ => len2 - (RowKit.intOf i).toNat)
      case atStart => exact ⟨0, _, Nat.zero_le _, rfl, rfl, (by show Wm.OwnStrs _ _ _ (List.replicate m dd ++ []); rw [List.append_nil]; exact hown1.out), hbw1⟩
      case round =>
        obtain ⟨k, v, hk, rfl, rfl, hown, hbw⟩ := hrel
        by_cases hlt : k < len2
        · obtain ⟨b, o, rfl, hb, hcells⟩ := HN.out.1.addr (by omega)
          have hkx : k < ns.length := by have := LN.out; omega
          have hcell0 := hcells k _ (List.getElem?_eq_getElem hkx)
          have HE := Lib.hid (show ns.take (k + 1) = ns.take k ++ [ns[k]] from List.take_succ_eq_append_getElem hkx)
          generalize ns[k] = x at hcell0 HE
          have hcell : wr.cell? ⟨b, o + k, none⟩ = some (.string x) := by rw [hbw.cell (p := ⟨b, o + k, none⟩) (Wm.lt_of_cell (a := ⟨b, o + k, none⟩) hcell0)]; exact hcell0
          clear hcells hb hcell0 hkx
          by_cases h0 : bs x = []
          · have n0 := Wm.empty_true h0
            have HR : Hid (lst m (ns.take (k + 1)) = lst m (ns.take k)) := by show _ = _; rw [HE.out]; exact lst_snoc_bad _ _ _ (by unfold goodB; simp [h0])
            clear h0
            go_wp2
            go_roundw
            case rel => exact ⟨k + 1, _, by omega, by go_num, rfl, by show Wm.OwnStrs _ _ _ _; rw [HR.out]; exact hown.out, hbw⟩
            case measure => simp [RowKit.intOf]; omega
          by_cases h1 : bs x = [46]
          · have n0 := Wm.empty_false h0
            have n1 : (x.toList == [46]) = true := Wm.lit_true h1
            have HR : Hid (lst m (ns.take (k + 1)) = lst m (ns.take k)) := by show _ = _; rw [HE.out]; exact lst_snoc_bad _ _ _ (by unfold goodB; simp [h1])
            clear h0 h1
            go_wp2
            go_roundw
            case rel => exact ⟨k + 1, _, by omega, by go_num, rfl, by show Wm.OwnStrs _ _ _ _; rw [HR.out]; exact hown.out, hbw⟩
            case measure => simp [RowKit.intOf]; omega
          by_cases h2 : bs x = [46, 46]
          · have n0 := Wm.empty_false h0
            have n1 : (x.toList == [46]) = false := Wm.lit_false h1
            have n2 : (x.toList == [46, 46]) = true := Wm.lit_true h2
            have HR : Hid (lst m (ns.take (k + 1)) = lst m (ns.take k)) := by show _ = _; rw [HE.out]; exact lst_snoc_bad _ _ _ (by unfold goodB; simp [h2])
            clear h0 h1 h2
            go_wp2
            go_roundw
            case rel => exact ⟨k + 1, _, by omega, by go_num, rfl, by show Wm.OwnStrs _ _ _ _; rw [HR.out]; exact hown.out, hbw⟩
            case measure => simp [RowKit.intOf]; omega
          have n0 := Wm.empty_false h0
          have n1 : (x.toList == [46]) = false := Wm.lit_false h1
          have n2 : (x.toList == [46, 46]) = false := Wm.lit_false h2
          by_cases h47 : 47 ∈ bs x
          · have HR : Hid (lst m (ns.take (k + 1)) = lst m (ns.take k)) := by show _ = _; rw [HE.out]; exact lst_snoc_bad _ _ _ (by unfold goodB; simp [h47])
            have H47 := Lib.hid h47
            clear h0 h1 h2 h47
            go_wp2_with fail
            refine (Wm.contains_yes x _ H47.out).mono ?_
            rintro e w5 ⟨rfl, rfl⟩
            go_wp2
            go_roundw
            case rel => exact ⟨k + 1, _, by omega, by go_num, rfl, by show Wm.OwnStrs _ _ _ _; rw [HR.out]; exact hown.out, hbw⟩
            case measure => simp [RowKit.intOf]; omega
          · have HR : Hid (lst m (ns.take (k + 1)) = lst m (ns.take k) ++ [x]) := by show _ = _; rw [HE.out]; exact lst_snoc_good _ _ _ ((goodB_iff x).2 ⟨h0, h1, h2, h47⟩)
            have H47 := Lib.hid h47
            clear h0 h1 h2 h47
            have hll := lst_len m (ns.take k)
            have hlk : (ns.take k).length ≤ k := by rw [List.length_take]; omega
            have hll2 : (lst m (ns.take k)).length + 1 ≤ 4194304 := by omega
            clear hll hlk
            have hb5 : Below wr.heap.size wr (wr.alloc (.cells #[.string x] 9)) := (Below.refl _ _).alloc (Nat.le_refl _) _
            have hown5 := hown.out.below hb5
            have hS5 := Wm.strsV_lit wr x 9
            have hsz5 : w.heap.size ≤ (wr.alloc (.cells #[.string x] 9)).heap.size := Nat.le_trans hbw.size hb5.size
            have HB5 := Lib.hid (hbw.trans (hb5.mono hbw.size))
            have HO5 := Lib.hid hown5
            have HS5 := Lib.hid hS5
            have HZ5 := Lib.hid hsz5
            clear hown5 hS5 hb5 hsz5
            go_wp2_with (first | (go_at_call 23; refine (Wm.contains_no x _ H47.out).mono ?_; rintro e w5 ⟨rfl, rfl⟩) | (at_builtin; refine Wm.wpList_append_strs rfl _ _ rfl w.heap.size _ _ [x] rfl HO5.out _ _ _ rfl HS5.out hll2 HZ5.out ?_; intro v6 w6 hown6 hb6))
            have HB6 := Lib.hid (HB5.out.trans hb6)
            have HO6 : Hid (Wm.OwnStrs w.heap.size w6 v6 (lst m (ns.take (k + 1)))) := by show Wm.OwnStrs _ _ _ _; rw [HR.out]; exact hown6
            clear hown6 hb6 HB5 HO5 HS5 HZ5
            go_wp2
            go_roundw
            case rel => exact ⟨k + 1, v6, by omega, by go_num, rfl, HO6, HB6.out⟩
            case measure => simp [RowKit.intOf]; omega
        · obtain rfl : k = len2 := by omega
          have hown' := hown.out
          rw [List.take_of_length_le (by rw [LN.out]; exact Nat.le_refl _)] at hown'
          obtain ⟨a, c, rfl, hv⟩ := hown'.v
          have HV := Lib.hid hv
          have hll := lst_len m ns
          have hls := lst_sum m ns
          have hln := LN.out
          have hsum : Wm.sumLen (lst m ns) + (lst m ns).length ≤ 4194304 := by omega
          clear hown hown' hv hll hls hln
          go_wp2_with fail
          refine (strings_slash a _ c (lst m ns) _ HV.out hsum).mono ?_
          rintro e w7 ⟨p, rfl, hp, hb7⟩
          have hps : p.size ≤ 4194304 := by
            have := inter_len ((lst m ns).map bs)
            rw [Wm.flatten_len, List.length_map, ← hp, ← Wm.size_bs] at this
            omega
          have HB7 := Lib.hid (Wm.next hbw hb7)
          by_cases hne : lst m ns = []
          · have tp : p.toList.isEmpty = true := Wm.empty_true (by rw [hp, hne]; rfl)
            clear hp hb7 hne
            go_wp2
            go_ret
            exact ⟨by simp, HB7.out⟩
          · have HP := Lib.hid (show Pa.clean (bs p) = bs p by rw [hp]; exact clean_rel m ns hne)
            by_cases hp0 : bs p = []
            · have tp := Wm.empty_true hp0
              clear hp hb7 hne hp0
              go_wp2
              go_ret
              exact ⟨by simp, HB7.out⟩
            · have tp := Wm.empty_false hp0
              clear hp hb7 hne hp0
              go_wp2_with fail
              refine (Wm.impl_Clean p _ (by omega)).mono ?_
              rintro e w8 ⟨x, rfl, hx, hb8⟩
              have tx : (x.toList == p.toList) = true := Wm.eq_true (by rw [hx, HP.out])
              have HB8 := Lib.hid (Wm.next HB7.out hb8)
              clear hx hb8
              go_wp2
              go_ret
              exact ⟨by simp, HB8.out⟩

theorem walk (a0 : Int) (a1 : Bool) (a2 : Option Addr) (len2 cap2 : Nat) (z2 : List ByteArray) (w : World) (_ : -9223372036854775808 ≤ a0 ∧ a0 ≤ 9223372036854775807) (w2 : Wm.IsStrs w a2 len2 cap2 z2) (b2 : Wm.sumLen z2 + z2.length ≤ 1048576) :
    Calls Try.prog 9 #[.int .i64 a0, .bool a1, .slice a2 len2 cap2] w fun e w' => e = .returned (.bool true) ∧ Below w.heap.size w w' := by
  have hX := w2.v
  have hsx := Wm.sumLen_take z2 len2
  have hlx := hX.1.1
  have hlx' : (z2.take len2).length ≤ z2.length := by rw [List.length_take]; omega
  cases a1 with
  | true => exact at_true a0 w a2 len2 cap2 _ hX hlx (by omega)
  | false => exact at_false a0 w a2 len2 cap2 _ hX hlx (by omega)

theorem own : ownKnob Try.prog.godebug = none := by kernel_rfl
theorem laidOut : laidOutB Try.prog = true := by kernel_rfl

theorem contract (H : Type) (enc : TypeId × Value → H) (W : World) (base : Nat) (args : Array Value) (ds gs : List (DataW H)) (before : List MemPlace)
    (hval : ∀ (j : Nat) t v, Try.f9.params[j]? = some t → args[j]? = some v → Value.okWide Try.prog W .any base t v)
    (hW : DataW.Whole enc Try.prog Try.f9.params.toList Rows.fnCleanAloneSpec.vars false W args.toList ds gs before)
    (hk : Rows.uptoSmall H (ds ++ gs) = true)
    : Calls Try.prog 9 args W fun e W' => ∃ v, e = .returned v ∧ Rows.fnCleanAloneSpec.post enc Try.prog Try.f9 false true false false W args v W' := by
  have hW' := hW
  obtain ⟨p, q, hA0, hV, rfl, hfz, hnd⟩ := hW
  have hA : DataW.TrodAll enc Try.prog W 0 (fun _ => true) true Try.f9.params.toList args.toList ds p := hA0
  rw [Try.params9] at hA hval
  obtain ⟨v0, vs0, d0, ds0, p0, q0, hargs, rfl, rfl, h0, r0⟩ := trodAll_cons hA
  obtain ⟨v1, vs1, d1, ds1, p1, q1, rfl, rfl, rfl, h1, r1⟩ := trodAll_cons r0
  obtain ⟨v2, vs2, d2, ds2, p2, q2, rfl, rfl, rfl, h2, r2⟩ := trodAll_cons r1
  obtain ⟨rfl, rfl, rfl⟩ := trodAll_nil r2
  obtain rfl : args = #[v0, v1, v2] := by cases args; simp_all
  obtain ⟨rfl, rfl⟩ := trodVars_none hV
  obtain ⟨a0, rfl, rfl, rfl, w0⟩ := open_int Try.underlying3 (hval 0 3 v0 rfl rfl) h0
  obtain ⟨a1, rfl, rfl, rfl⟩ := open_bool Try.underlying4 (hval 1 4 v1 rfl rfl) h1
  obtain ⟨a2, len2, cap2, rfl⟩ := okWide_slice Try.underlying22 (hval 2 22 v2 rfl rfl)
  have k2 := h2
  have lt2 : ∀ x ∈ p2, x.block < W.heap.size := by obtain ⟨m, hm⟩ := k2; exact DataW.trod_lt m _ _ _ hm
  obtain ⟨z2, w2, e2⟩ : ∃ zs, Wm.IsStrs W a2 len2 cap2 zs ∧ Wm.StrsData zs len2 d2 := by
    obtain ⟨fuel, hf⟩ := h2
    exact Wm.open_strs Try.underlying22 Try.underlying9 (by kernel_rfl) hf
  clear hA0
  have hb : Rows.uptoBulkAll _ ≤ 1048576 := of_decide_eq_true hk
  simp only [List.append_nil] at hb
  have b0 := Wm.bounds_i64 w0
  have b2 : Wm.sumLen z2 + z2.length ≤ 1048576 := Bulk.strs_le e2 hb (by simp)
  refine (walk a0 a1 a2 len2 cap2 z2 W b0 w2 b2).mono fun e W' ⟨he, bel⟩ => ?_
  subst he
  exact ⟨_, rfl, _, _, _, [], _, [], hW', trodAll_mk1 (shut_bool Try.underlying4 _), (trodAll_cons_mk (shut_int Try.underlying3 w0) (trodAll_cons_mk (shut_bool Try.underlying4 _) (trodAll_cons_mk (Below.trod laidOut (by kernel_rfl) (of_decide_eq_true (by kernel_rfl)) k2 bel lt2) trodAll_mk0))), rfl, bel.frame _, fun h => by cases h⟩

set_option maxRecDepth 100000 in
theorem lifted (os : Os) (started : os.Started) (H : Type) (enc : TypeId × Value → H) (F : Stop.Interp) :
    ReturnsInHanded {} Try.checked os 9 .any ((Rows.OpenSpec.upto Rows.fnCleanAloneSpec).pre6 enc Try.prog Try.f9 Rows.fnCleanAloneUptoRow.domain false) (((Rows.OpenSpec.upto Rows.fnCleanAloneSpec).at F).post enc Try.prog Try.f9 false true false false) := by
  refine returnsInHanded_of_cond (C := Try.checked) (s := Rows.OpenSpec.upto Rows.fnCleanAloneSpec) (k := Rows.uptoSmall) rfl own started (by kernel_rfl) Try.func9
    (OpenSpec.witness (enc := enc) (C := Try.checked) (s := Rows.OpenSpec.upto Rows.fnCleanAloneSpec) (k := Rows.uptoSmall) rfl false ⟨#[], #[.int .i64 0, .bool false, .slice none 0 0], []⟩ 8 (by kernel_rfl) (by kernel_rfl) (by kernel_rfl)
      (x := ([.lit (.int .i64 0), .lit (.bool false), .nil], [], [])) (by kernel_rfl) rfl (by kernel_rfl)) ?_
  intro W base args ds gs before hval hW _ hk _
  exact contract H enc W base args ds gs before hval hW hk

theorem proved : Rows.FnCleanAloneUptoSaid :=
  OpenClaim.holds_of_cond 9 Try.f9 rfl rfl rfl rfl rfl rfl rfl ⟨rfl, rfl, rfl, rfl, rfl⟩ rfl rfl rfl rfl rfl (by kernel_rfl) Try.func9 (by kernel_rfl)
    (of_decide_eq_true (by kernel_rfl)) (by unfold Func.isWrapper; first | (rw [if_pos (by decide +kernel)]; kernel_rfl) | (rw [if_neg (by decide +kernel)]; exact ⟨rfl, rfl⟩))
    (fun os started H enc _ F => lifted os started H enc F)
#print axioms proved
end Go.Proofs.Ytgigodblbiiahaa.fnCleanAlone
