/-
  The contracts of the reference's Base and Ext.
-/
import Derived.Test.YtoaepbobbfgbgaaSpecB
namespace Go.Proofs.Ytoaepbobbfgbgaa.Wm
open Go Go.RowKit

theorem wt_sum (X : List (List UInt8)) : wt X = X.flatten.length + X.length := by
  induction X with
  | nil => rfl
  | cons x r ih => rw [wt_cons, ih, List.flatten_cons, List.length_append, List.length_cons]; omega
theorem els_sum {xs : List ByteArray} {l : List UInt8} (h : xs.map bs = Lib.Pa.els l) : sumLen xs + xs.length = l.length + 1 := by
  obtain ⟨x, r, hx⟩ := Lib.Pa.els_ne l
  have h1 := wt_inter (Lib.Pa.els l) (by rw [hx]; simp)
  have h2 := wt_sum (Lib.Pa.els l)
  rw [inter_els] at h1
  rw [← h, flatten_len, List.length_map] at h2
  rw [← h] at h1
  omega
theorem body_le (l : List UInt8) : (body l).length ≤ l.length := by
  unfold body
  split
  · rw [List.length_tail]; omega
  · exact Nat.le_refl _
theorem els_body (l : List UInt8) : Lib.Pa.els l = Lib.Pa.els (body l) ∨ Lib.Pa.els l = [] :: Lib.Pa.els (body l) := by
  unfold body
  cases h : Lib.Pa.isAbs l with
  | false => left; rfl
  | true =>
    obtain ⟨t, rfl⟩ := (isAbs_iff l).1 h
    right
    rw [if_pos rfl, Lib.Pa.els_slash]; rfl
theorem els_slashes (k : Nat) : Lib.Pa.els (slashes k) = List.replicate (k + 1) [] := by
  induction k with
  | zero => rfl
  | succ k ih =>
    unfold slashes at ih ⊢
    rw [List.replicate_succ, Lib.Pa.els_slash, ih, ← List.replicate_succ]
theorem els_file_slashes {f : List UInt8} (hf : 47 ∉ f) : ∀ k, Lib.Pa.els (f ++ slashes k) = f :: List.replicate k []
  | 0 => by unfold slashes; rw [List.replicate_zero, List.append_nil, els_one hf]; rfl
  | k + 1 => by
    have h := els_slashes k
    unfold slashes at h ⊢
    rw [List.replicate_succ, Lib.Pa.els_app, els_one hf, h]; rfl
/-- The last element that is not empty. -/
def lastFull (X : List (List UInt8)) : Option (List UInt8) := X.reverse.find? (fun e => !e.isEmpty)
theorem lastFull_snoc (X : List (List UInt8)) (x : List UInt8) : lastFull (X ++ [x]) = if x = [] then lastFull X else some x := by
  unfold lastFull
  rw [List.reverse_append, List.reverse_singleton, List.singleton_append, List.find?_cons]
  cases x <;> simp
theorem lastFull_nils (X : List (List UInt8)) : ∀ k, lastFull (X ++ List.replicate k []) = lastFull X
  | 0 => by simp
  | k + 1 => by rw [List.replicate_succ', ← List.append_assoc, lastFull_snoc, if_pos rfl, lastFull_nils X k]
theorem lastFull_cons (X : List (List UInt8)) : lastFull ([] :: X) = lastFull X := by
  unfold lastFull
  rw [List.reverse_cons, List.find?_append]
  simp
theorem lastFull_body (l : List UInt8) : lastFull (Lib.Pa.els (body l)) = lastFull (Lib.Pa.els l) := by
  rcases els_body l with h | h <;> rw [h]
  rw [lastFull_cons]
theorem base_els (l : List UInt8) (hl : l ≠ []) : Lib.Pa.base l = (lastFull (Lib.Pa.els (body l))).getD [47] := by
  rw [lastFull_body]
  rcases base_cases l with ⟨k, rfl⟩ | ⟨a, f, k, rfl, ha, hf, h47⟩
  · cases k with
    | zero => exact absurd rfl hl
    | succ k =>
      have := lastFull_nils [] (k + 1 + 1)
      rw [List.nil_append] at this
      rw [base_slashes, els_slashes, this]; rfl
  · rw [base_mk k ha hf h47]
    have h1 : lastFull (f :: List.replicate k []) = some f := by
      have := lastFull_nils [f] k
      rw [List.singleton_append] at this
      rw [this, show [f] = [] ++ [f] from rfl, lastFull_snoc, if_neg hf]
    rcases ha with rfl | ⟨d, rfl⟩
    · rw [List.nil_append, els_file_slashes h47, h1]; rfl
    · rw [List.append_assoc, List.append_assoc, List.singleton_append, Lib.Pa.els_app, els_file_slashes h47]
      have := lastFull_nils (Lib.Pa.els d ++ [f]) k
      rw [List.append_assoc, List.singleton_append] at this
      rw [this, lastFull_snoc, if_neg hf]; rfl
theorem last_body (l : List UInt8) : ∃ A, Lib.Pa.els (body l) = A ++ [(Lib.Pa.split l).2] := by
  have h : ∃ A, Lib.Pa.els l = A ++ [(Lib.Pa.split l).2] := by
    rcases els_split l with ⟨_, h⟩ | ⟨d, _, h, _⟩
    · exact ⟨[], h⟩
    · exact ⟨_, h⟩
  obtain ⟨A, hA⟩ := h
  rcases els_body l with h | h
  · exact ⟨A, h ▸ hA⟩
  · obtain ⟨x, r, hx⟩ := Lib.Pa.els_ne (body l)
    rw [hx] at h ⊢
    rw [hA] at h
    cases A with
    | nil => simp at h
    | cons y A =>
      rw [List.cons_append, List.cons.injEq] at h
      exact ⟨A, h.2.symm⟩

set_option maxHeartbeats 1000000 in
theorem spec_Base (s : ByteArray) (w : World) (hs : s.size ≤ 2097152) :
    Calls Try.prog 19 #[.string s] w (StrIs (Lib.Pa.base (bs s)) w) := by
  by_cases h0 : bs s = []
  · have t0 := empty_true h0
    have HR := Lib.hid (show [46] = Lib.Pa.base (bs s) by rw [h0]; rfl)
    clear h0
    go_enter Try.func19, Try.ntmps19
    go_wp2
    go_ret
    exact ⟨_, rfl, HR.out, Below.refl _ _⟩
  · have t0 := empty_false h0
    have HR := Lib.hid (base_els _ h0)
    clear h0
    go_enter Try.func19, Try.ntmps19
    go_wp2_with fail
    refine (elements_any s _ hs).mono ?_
    rintro e w1 ⟨v, xs, rfl, hown, hxs, hb1⟩
    obtain ⟨a, c, rfl, hv⟩ := hown.v
    have HV := Lib.hid hv
    have HB := Lib.hid hb1
    have HR2 := Lib.hid (show Lib.Pa.base (bs s) = (lastFull (xs.map bs)).getD [47] by rw [hxs]; exact HR.out)
    obtain ⟨n, hn⟩ : ∃ n, xs.length = n := ⟨_, rfl⟩
    have hnb : n ≤ 4194304 := by
      have h1 := els_sum hxs
      have h2 := body_le (bs s)
      rw [← size_bs] at h2
      omega
    rw [hn] at HV ⊢
    have HN := Lib.hid hn
    generalize Lib.Pa.isAbs (bs s) = ro
    clear hv hb1 HR hxs hn hown
    go_wp2
    go_loop [5] (fun i => ∃ (k : Nat), k ≤ n ∧ i = .int .i64 ((k : Int) - 1) ∧ Hid (lastFull (xs.map bs) = lastFull ((xs.take k).map bs))) (fun i => (intOf i + 1).toNat)
    case atStart => exact ⟨n, Nat.le_refl _, rfl, by show _ = _; rw [List.take_of_length_le (by rw [HN.out]; exact Nat.le_refl _)]⟩
    case round =>
      obtain ⟨k, hk, rfl, hlast⟩ := hrel
      by_cases hz : k = 0
      · subst hz
        have HE := Lib.hid (show [47] = Lib.Pa.base (bs s) by rw [HR2.out, hlast.out]; rfl)
        clear hlast
        go_wp2
        go_ret
        exact ⟨_, rfl, HE.out, HB.out⟩
      · obtain ⟨j, rfl⟩ : ∃ j, k = j + 1 := ⟨k - 1, by omega⟩
        obtain ⟨b, o, rfl, hb, hcells⟩ := HV.out.1.addr (by omega)
        have hjx : j < xs.length := by have := HN.out; omega
        have hcell := hcells j _ (List.getElem?_eq_getElem hjx)
        have HE := Lib.hid (show (xs.take (j + 1)).map bs = (xs.take j).map bs ++ [bs xs[j]] by rw [List.take_succ_eq_append_getElem hjx, List.map_append]; rfl)
        obtain ⟨x, hx⟩ : ∃ x, xs[j] = x := ⟨_, rfl⟩
        rw [hx] at hcell HE
        clear hcells hx
        rw [show ((j + 1 : Nat) : Int) - 1 = (j : Int) by omega]
        by_cases hx0 : bs x = []
        · have tx := empty_true hx0
          have HL : Hid (lastFull (xs.map bs) = lastFull ((xs.take j).map bs)) := by
            show _ = _
            rw [hlast.out, HE.out, lastFull_snoc, if_pos hx0]
          clear hlast HE hx0
          go_wp2
          go_round
          case rel => exact ⟨j, by omega, by go_num, HL⟩
          case measure => simp [intOf]
        · have tx := empty_false hx0
          have HL := Lib.hid (show bs x = Lib.Pa.base (bs s) by rw [HR2.out, hlast.out, HE.out, lastFull_snoc, if_neg hx0]; rfl)
          clear hlast HE hx0
          go_wp2
          go_ret
          exact ⟨_, rfl, HL.out, HB.out⟩

/-- What Ext's loop has found up to k. -/
def DotAt (L : List UInt8) (k : Nat) (q : List UInt8) : Prop := (46 ∉ L.take k ∧ q = []) ∨ ∃ a b, L = a ++ 46 :: b ∧ q = 46 :: b ∧ a.length < k ∧ 46 ∉ b.take (k - a.length - 1)
theorem dotAt_end {l : List UInt8} {q : List UInt8} (h : DotAt (Lib.Pa.split l).2 (Lib.Pa.split l).2.length q) : q = Lib.Pa.ext l := by
  have hf := split_file l
  have happ := split_append l
  rcases h with ⟨h, rfl⟩ | ⟨a, b, hL, rfl, ha, hb⟩
  · rw [List.take_length] at h
    have := ext_none (split_dir l) hf h
    rw [happ] at this; exact this.symm
  · rw [hL, List.length_append, List.length_cons, show a.length + (b.length + 1) - a.length - 1 = b.length by omega, List.take_length] at hb
    rw [hL] at hf
    have := ext_mk (a := (Lib.Pa.split l).1) (n := a) (e := b) (split_dir l) (fun e => hf (by simp [e])) (fun e => hf (by simp [e])) hb
    rw [← hL, happ] at this; exact this.symm
theorem dotAt_hit {L : List UInt8} {k : Nat} (hk : k < L.length) (h : L[k] = 46) : DotAt L (k + 1) (L.drop k) := by
  refine .inr ⟨L.take k, L.drop (k + 1), ?_, ?_, ?_, ?_⟩
  · conv => lhs; rw [← List.take_append_drop k L, List.drop_eq_getElem_cons hk, h]
  · rw [List.drop_eq_getElem_cons hk, h]
  · rw [List.length_take]; omega
  · rw [List.length_take, Nat.min_eq_left (by omega), show k + 1 - k - 1 = 0 by omega]; simp
theorem dotAt_miss {L : List UInt8} {k : Nat} (hk : k < L.length) (h : L[k] ≠ 46) {q : List UInt8} (hd : DotAt L k q) : DotAt L (k + 1) q := by
  rcases hd with ⟨h1, rfl⟩ | ⟨a, b, hL, rfl, ha, hb⟩
  · refine .inl ⟨?_, rfl⟩
    rw [List.take_succ_eq_append_getElem hk]
    intro e
    rcases List.mem_append.1 e with e | e
    · exact h1 e
    · rw [List.mem_singleton] at e; exact h e.symm
  · refine .inr ⟨a, b, hL, rfl, by omega, ?_⟩
    have hbl : k - a.length - 1 < b.length := by
      rw [hL, List.length_append, List.length_cons] at hk; omega
    rw [show k + 1 - a.length - 1 = (k - a.length - 1) + 1 by omega, List.take_succ_eq_append_getElem hbl]
    intro e
    rcases List.mem_append.1 e with e | e
    · exact hb e
    · rw [List.mem_singleton] at e
      apply h
      have h1 : L[k]? = b[k - a.length - 1]? := by
        rw [hL, List.getElem?_append_right (by omega), show k - a.length = (k - a.length - 1) + 1 by omega, List.getElem?_cons_succ]; simp
      rw [List.getElem?_eq_getElem hk, List.getElem?_eq_getElem hbl] at h1
      rw [Option.some.inj h1, ← e]

set_option maxHeartbeats 1000000 in
theorem spec_Ext (s : ByteArray) (w : World) (hs : s.size ≤ 2097152) :
    Calls Try.prog 17 #[.string s] w (StrIs (Lib.Pa.ext (bs s)) w) := by
  obtain ⟨A, hA⟩ := last_body (bs s)
  go_enter Try.func17, Try.ntmps17
  go_wp2_with fail
  refine (elements_any s _ hs).mono ?_
  rintro e w1 ⟨v, xs, rfl, hown, hxs, hb1⟩
  obtain ⟨a, c, rfl, hv⟩ := hown.v
  have HB := Lib.hid hb1
  have hnb := els_sum hxs
  have h2 := body_le (bs s)
  rw [← size_bs] at h2
  rw [hA] at hxs
  have hl1 := congrArg List.length hxs
  rw [List.length_map, List.length_append, List.length_singleton] at hl1
  obtain ⟨j, hj⟩ : ∃ j, A.length = j := ⟨_, rfl⟩
  rw [hj] at hl1
  have hjx : j < xs.length := by omega
  have hat : bs xs[j] = (Lib.Pa.split (bs s)).2 := by
    have h3 : (xs.map bs)[j]? = some (Lib.Pa.split (bs s)).2 := by
      rw [hxs, List.getElem?_append_right (by omega), ← hj, Nat.sub_self]; rfl
    rw [List.getElem?_map, List.getElem?_eq_getElem hjx] at h3
    exact Option.some.inj h3
  obtain ⟨b, o, rfl, hb, hcells⟩ := hv.1.addr (by omega)
  have hcell := hcells j _ (List.getElem?_eq_getElem hjx)
  obtain ⟨x, hx⟩ : ∃ x, xs[j] = x := ⟨_, rfl⟩
  rw [hx] at hcell hat
  rw [hl1]
  have hnb2 : j + 1 ≤ 4194304 := by omega
  have hxs2 : x.size ≤ 2097152 := by
    have h3 := congrArg List.length (split_append (bs s))
    rw [List.length_append, ← hat, ← size_bs, ← size_bs] at h3
    omega
  have HX := Lib.hid hat
  generalize Lib.Pa.isAbs (bs s) = ro
  clear hv hb1 hxs hown hcells hx hat hA hj hl1 hnb h2 hjx
  go_wp2
  clear hcell
  go_loop [6, 21] (fun q i => ∃ (q' : ByteArray) (k : Nat), q = .string q' ∧ i = .int .i64 k ∧ k ≤ x.size ∧ Hid (DotAt (bs x) k (bs q'))) (fun _ i => x.size - (intOf i).toNat)
  case atStart => exact ⟨_, 0, rfl, rfl, Nat.zero_le _, .inl ⟨by simp, rfl⟩⟩
  case round =>
    obtain ⟨q, k, rfl, rfl, hk, hq⟩ := hrel
    by_cases hlt : k < x.size
    · have hl : k < (bs x).length := by rw [← size_bs]; exact hlt
      have hat := Lib.Pa.at_eq x k hlt
      have hat2 : (bs x)[k] = x[k] := by rw [List.getElem?_eq_getElem hl] at hat; exact Option.some.inj hat
      obtain ⟨t, ht⟩ : ∃ t, (((x[k]'hlt).toNat : Int) == 46) = t := ⟨_, rfl⟩
      cases t with
      | true =>
        have h46 : x[k] = 46 := by
          have : (x[k].toNat : Int) = 46 := by simpa using ht
          exact UInt8.toNat_inj.1 (by show _ = 46; omega)
        have HD : Hid (DotAt (bs x) (k + 1) (bs (x.extract k x.size))) := by
          show DotAt _ _ _
          rw [Lib.Pa.extract_from, bs_mk]
          exact dotAt_hit hl (by rw [hat2, h46])
        clear hat hat2 h46 hq
        go_wp2
        go_round
        case rel => exact ⟨_, k + 1, rfl, by go_num, by omega, HD⟩
        case measure => simp [intOf]; omega
      | false =>
        have h46 : x[k] ≠ 46 := by
          intro e; rw [e] at ht; simp at ht
        have HD : Hid (DotAt (bs x) (k + 1) (bs q)) := dotAt_miss hl (by rw [hat2]; exact h46) hq.out
        clear hat hat2 h46 hq
        go_wp2
        go_round
        case rel => exact ⟨_, k + 1, rfl, by go_num, by omega, HD⟩
        case measure => simp [intOf]; omega
    · obtain rfl : k = x.size := by omega
      have HE := Lib.hid (show bs q = Lib.Pa.ext (bs s) from dotAt_end (by have := hq.out; rw [size_bs, HX.out] at this; exact this))
      clear hq
      go_wp2
      go_ret
      exact ⟨_, rfl, HE.out, HB.out⟩

end Go.Proofs.Ytoaepbobbfgbgaa.Wm
