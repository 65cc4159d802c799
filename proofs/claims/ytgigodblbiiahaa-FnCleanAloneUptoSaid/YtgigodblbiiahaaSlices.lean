/-
  Contracts of slices.Grow, Concat, Clone and of strings.Join at slices of strings, as the laws call them.
-/
import Derived.Test.YtgigodblbiiahaaImpl
import Derived.Test.YtgigodblbiiahaaPlain2
import Derived.Laws.AppendOwnNone
import Derived.Lib.Join
import Derived.Lib.CleanLen
namespace Go.Proofs.Ytgigodblbiiahaa.Wm
open Go Go.RowKit

/-- A slice of strings as a value: where it lies, what it holds; a nil one has no room. -/
def StrsV (w : World) (a : Option Addr) (n c : Nat) (xs : List ByteArray) : Prop := StrsAt w a n xs ∧ n ≤ c ∧ (a = none → c = 0)
theorem StrsV.below {w w' : World} {a : Option Addr} {n c : Nat} {xs : List ByteArray} (h : StrsV w a n c xs) (hb : Below w.heap.size w w') : StrsV w' a n c xs := ⟨h.1.below hb, h.2⟩
theorem IsStrs.v {w : World} {a : Option Addr} {len cap : Nat} {ss : List ByteArray} (h : IsStrs w a len cap ss) : StrsV w a len cap (ss.take len) := by
  refine ⟨h.at, ?_, ?_⟩
  · rcases h with ⟨_, rfl, rfl, _⟩ | ⟨x, _, hl, _⟩
    · exact Nat.le_refl _
    · exact hl
  · rcases h with ⟨_, _, rfl, _⟩ | ⟨x, rfl, _⟩
    · exact fun _ => rfl
    · intro e; cases e

/-- A slice of strings that the call itself made, or nil. -/
def OwnStrs (base : Nat) (w : World) (v : Value) (xs : List ByteArray) : Prop := w.ownsRow base 9 1 v xs.length (xs.map Value.string)
theorem OwnStrs.v {base : Nat} {w : World} {v : Value} {xs : List ByteArray} (h : OwnStrs base w v xs) : ∃ a c, v = .slice a xs.length c ∧ StrsV w a xs.length c xs := by
  have h' := h
  rcases h.2 with ⟨hv, hn⟩ | ⟨g, cap, cur, hv, _, _, hc, _⟩
  · obtain rfl : xs = [] := List.eq_nil_of_length_eq_zero hn
    exact ⟨none, 0, hv, ⟨rfl, fun j x hx => by simp at hx⟩, Nat.le_refl _, fun _ => rfl⟩
  · unfold OwnStrs at h'
    rw [hv] at h'
    exact ⟨_, cap, hv, strsAt_own h', hc, fun e => by cases e⟩

theorem info_str : (Try.prog.info? 9).map (fun i => (i.zero, i.size, i.bytes)) = some (some (.string ByteArray.empty), 1, 16) := by kernel_rfl

/-- Grow of nil. -/
theorem grow_nil (n : Nat) (w : World) (hn : n ≤ 4194304) :
    Calls Try.prog 35 #[.slice none 0 0, .int .i64 n] w fun e w' => ∃ v, e = .returned v ∧ OwnStrs w.heap.size w' v [] ∧ Below w.heap.size w w' := by
  by_cases h0 : n = 0
  · subst h0
    refine (Any8.slices_Grow_room Try.growS none 0 0 0 w (Nat.le_refl _) (by omega) (by omega) (by omega)).mono ?_
    rintro e w' ⟨rfl, rfl⟩
    exact ⟨_, rfl, World.ownsRow_nil _ _ _ _, Below.refl _ _⟩
  · obtain ⟨i0, hi, hz0, hz1, hz2⟩ := info_parts info_str
    refine (Any8.slices_Grow_grow Try.growS i0 (.string ByteArray.empty) hi hz0 (by omega) none 0 0 n [] w (Nat.le_refl _) (by omega) (by rw [hz2]; omega) (by omega) (by simp) (fun _ => rfl) (fun a h => by cases h)).mono ?_
    rintro e w' ⟨rfl, rfl⟩
    refine ⟨_, rfl, ?_, (Below.refl _ _).drew.alloc (Nat.le_refl _) _⟩
    have hge := grownCap_ge w (0 + n) 0 9
    refine World.ownsRow_made (base := w.heap.size) (size := 1) w.drew _ _ (Nat.le_refl _) (grownCap_le_maxLen w _ _ _ (by unfold maxLen; omega)) ?_
    rw [Array.size_append, Array.size_append, size_zeroCells, size_zeroCells]
    show 0 + (0 + n - 0) * 1 + (grownCap w (0 + n) 0 9 - (0 + n)) * 1 = grownCap w (0 + n) 0 9 * 1
    omega

/-- The builtin append of a slice of strings, wherever it lies, to an owned one. -/
theorem wpList_append_strs {w : World} {ops : Array Oper} {rest : List Oper} {o : Oper} {a : Act} {Q : Exit → Act → World → Prop} (hgd : o.guard = none) (s x : Operand)
    (ho : o.op = .call { callee := .builtin .append, args := #[s, x], argTypes := #[22, 22] }) (base : Nat)
    (v : Value) (xs ys : List ByteArray) (hs : a.eval s = v) (hown : OwnStrs base w v xs) (ad : Option Addr) (m c : Nat) (hx : a.eval x = .slice ad m c) (hS : StrsV w ad m c ys)
    (hb : xs.length + m ≤ 4194304) (hbase : base ≤ w.heap.size)
    (h : ∀ v' w', OwnStrs base w' v' (xs ++ ys) → Below base w w' → wpList Try.prog ops Q rest (a.put o.dst v') w') : wpList Try.prog ops Q (o :: rest) a w := by
  obtain ⟨i0, hi, hz0, hz1, hz2⟩ := info_parts info_str
  have hm : ys.length = m := hS.1.1
  cases ad with
  | none =>
    have hm0 : m = 0 := by have := hS.2.1; have := hS.2.2 rfl; omega
    have hc0 : c = 0 := hS.2.2 rfl
    subst hm0 hc0
    obtain rfl : ys = [] := List.eq_nil_of_length_eq_zero hm
    refine wpList_append_own_none hgd s x 22 ho base 9 i0 1 Try.underlying22 hi v xs.length (xs.map Value.string) hs hown hx ?_
    exact h v w (by rw [List.append_nil]; exact hown) (Below.refl _ _)
  | some ad =>
    refine wpList_append_own w hgd s x 22 ho base 9 i0 (.string ByteArray.empty) 1 16 Try.underlying22 hi hz0 hz1 hz2 rfl (by decide) v xs.length (xs.map Value.string) hs hown
      ad m c (ys.map Value.string) hx (by rw [List.length_map, hm, Nat.mul_one]) ?_ ?_ (by unfold maxLen; omega) (by omega) hbase ?_
    · intro j u hu
      rw [List.getElem?_map] at hu
      cases hy : ys[j]? with
      | none => rw [hy] at hu; cases hu
      | some y =>
        rw [hy] at hu
        obtain ⟨b, of, ha, hc⟩ := hS.1.2 j y hy
        simp only [Option.some.injEq] at ha
        rw [ha, Go.WideShapes.add_plain, hc]
        exact hu
    · intro u hu
      obtain ⟨y, _, rfl⟩ := List.mem_map.1 hu
      rfl
    · intro v' w' hown' hg _
      refine h v' w' ?_ ((Below.refl _ _).grown hg hbase (fun k hk => (World.ownsRow.lt hown k hk).1))
      unfold OwnStrs
      rw [List.map_append, List.length_append, hm]
      exact hown'

set_option maxHeartbeats 4000000 in
/-- Concat of two slices. -/
theorem concat_two (B cc : Nat) (a1 a2 : Option Addr) (n1 c1 n2 c2 : Nat) (xs ys : List ByteArray) (w : World)
    (h1 : w.cell? ⟨B, 0, none⟩ = some (.slice a1 n1 c1)) (h2 : w.cell? ⟨B, 1, none⟩ = some (.slice a2 n2 c2)) (hx : StrsV w a1 n1 c1 xs) (hy : StrsV w a2 n2 c2 ys) (hn1 : n1 ≤ 2097152) (hn2 : n2 ≤ 2097152) :
    Calls Try.prog 22 #[.slice (some ⟨B, 0, none⟩) 2 cc] w fun e w' => ∃ v, e = .returned v ∧ OwnStrs w.heap.size w' v (xs ++ ys) ∧ Below w.heap.size w w' := by
  have HX := Lib.hid hx
  have HY := Lib.hid hy
  clear hx hy
  go_enter Try.func22, Try.ntmps22
  go_wp2
  refine wp_loop_rounds 3 ?_
  rw [rounds_succ]
  go_wp2
  rw [rounds_succ]
  go_wp2
  rw [rounds_succ]
  go_wp2_with fail
  rw [show ((n1 : Int) + (n2 : Int)) = ((n1 + n2 : Nat) : Int) by omega]
  refine (grow_nil (n1 + n2) _ (by omega)).mono ?_
  rintro e w1 ⟨v, rfl, hown, hb1⟩
  have hc1 : w1.cell? ⟨B, 0, none⟩ = some (.slice a1 n1 c1) := by rw [hb1.cell (p := ⟨B, 0, none⟩) (lt_of_cell (a := ⟨B, 0, none⟩) h1)]; exact h1
  have hX := HX.out.below hb1
  go_wp2
  refine wp_loop_rounds 3 ?_
  rw [rounds_succ]
  go_wp2_with (at_builtin; refine wpList_append_strs rfl _ _ rfl w.heap.size _ [] xs rfl hown _ _ _ rfl hX (by simp; omega) hb1.size ?_; intro v2 w2 hown2 hb2)
  have HB2 := Lib.hid (hb1.trans hb2)
  have hc2 : w2.cell? ⟨B, 1, none⟩ = some (.slice a2 n2 c2) := by rw [HB2.out.cell (p := ⟨B, 1, none⟩) (lt_of_cell (a := ⟨B, 1, none⟩) h2)]; exact h2
  have hY := HY.out.below HB2.out
  rw [List.nil_append] at hown2
  clear hown hb1 hb2 hX hc1
  rw [rounds_succ]
  go_wp2_with (at_builtin; refine wpList_append_strs rfl _ _ rfl w.heap.size _ xs ys rfl hown2 _ _ _ rfl hY (by rw [HX.out.1.1]; omega) HB2.out.size ?_; intro v3 w3 hown3 hb3)
  have HB3 := Lib.hid (HB2.out.trans hb3)
  clear hown2 hb3 hY hc2
  rw [rounds_succ]
  go_wp2
  go_ret
  exact ⟨_, rfl, hown3, HB3.out⟩

theorem pair_cells (w : World) (v1 v2 : Value) (t : TypeId) : (w.alloc (.cells #[v1, v2] t)).cell? ⟨w.heap.size, 0, none⟩ = some v1 ∧ (w.alloc (.cells #[v1, v2] t)).cell? ⟨w.heap.size, 1, none⟩ = some v2 := by
  have h : (w.alloc (.cells #[v1, v2] t)).heap[w.heap.size]? = some (.cells #[v1, v2] t) := by
    show (w.heap.push _)[w.heap.size]? = _
    simp
  simp only [World.cell?, h]
  exact ⟨rfl, rfl⟩

/-- Concat, called with two slices written out. -/
theorem concat_lit (B : Nat) (t : TypeId) (a1 a2 : Option Addr) (n1 c1 n2 c2 : Nat) (xs ys : List ByteArray) (w : World) (hx : StrsV w a1 n1 c1 xs) (hy : StrsV w a2 n2 c2 ys) (hn1 : n1 ≤ 2097152) (hn2 : n2 ≤ 2097152) (hB : w.heap.size = B) :
    Calls Try.prog 22 #[.slice (some ⟨B, 0, none⟩) 2 2] (w.alloc (.cells #[.slice a1 n1 c1, .slice a2 n2 c2] t))
      fun e w' => ∃ a c, e = .returned (.slice a (n1 + n2) c) ∧ StrsV w' a (n1 + n2) c (xs ++ ys) ∧ Below w.heap.size w w' := by
  subst hB
  have hb : Below w.heap.size w (w.alloc (.cells #[.slice a1 n1 c1, .slice a2 n2 c2] t)) := (Below.refl _ _).alloc (Nat.le_refl _) _
  obtain ⟨h1, h2⟩ := pair_cells w (.slice a1 n1 c1) (.slice a2 n2 c2) t
  refine (concat_two w.heap.size 2 a1 a2 n1 c1 n2 c2 xs ys _ h1 h2 (hx.below hb) (hy.below hb) hn1 hn2).mono ?_
  rintro e w' ⟨v, rfl, hown, hb'⟩
  obtain ⟨a, c, rfl, hv⟩ := hown.v
  have hl : (xs ++ ys).length = n1 + n2 := by rw [List.length_append, hx.1.1, hy.1.1]
  rw [hl] at hv ⊢
  exact ⟨a, c, rfl, hv, hb.trans (hb'.mono (by simp))⟩

/-! strings.Join with nothing between the elements -/

theorem inter_empty : ∀ X : List Bs, ([] : Bs).intercalate X = X.flatten
  | [] => rfl
  | [x] => by simp [List.intercalate]
  | x :: y :: X => by
    have ih := inter_empty (y :: X)
    simp only [List.intercalate, List.intersperse, List.flatten_cons] at ih ⊢
    rw [ih]; simp
theorem flatten_nil (X : List Bs) : X.flatten = [] ↔ full X = [] := by
  rw [full_nil_iff]; simp
theorem flatten_len (xs : List ByteArray) : ((xs.map bs).flatten).length = sumLen xs := by
  induction xs with
  | nil => rfl
  | cons x r ih =>
    rw [List.map_cons, List.flatten_cons, List.length_append, ih]
    unfold sumLen
    rw [List.map_cons, List.sum_cons, size_bs]

theorem strings_all (a : Option Addr) (n c : Nat) (xs : List ByteArray) (w : World) (h : StrsV w a n c xs) (hl : sumLen xs + n ≤ 140737488355328) :
    Calls Try.prog 21 #[.slice a n c, .string ⟨#[]⟩] w (StrIs (xs.map bs).flatten w) := by
  have hn := h.1.1
  by_cases h0 : 0 < n
  · obtain ⟨b, o, rfl, hb, hc⟩ := h.1.addr h0
    subst hn
    have e : Lib.join (xs.map (·.data.toList)) (⟨#[]⟩ : ByteArray).data.toList = (xs.map bs).flatten := inter_empty _
    refine (Try.strings_Join b o c xs ⟨#[]⟩ w hc hb (by omega) h.2.1 (by rw [e, flatten_len]; omega)).mono ?_
    rintro e' w' ⟨rfl, hb'⟩
    exact ⟨_, rfl, by rw [bs_mk, e], hb'⟩
  · obtain rfl : n = 0 := by omega
    obtain rfl : xs = [] := List.eq_nil_of_length_eq_zero hn
    refine (Try.strings_Join_none a c ⟨#[]⟩ w).mono ?_
    rintro e' w' ⟨rfl, rfl⟩
    exact ⟨_, rfl, rfl, Below.refl _ _⟩

theorem fstOf_append (A B : List Bs) : fstOf (A ++ B) = if fstOf A = [] then fstOf B else fstOf A := by
  unfold fstOf
  rw [full_append]
  rcases full_cases A with h | ⟨y, Y, h, hy⟩
  · rw [h]; simp
  · rw [h]
    show y = if y = [] then _ else y
    rw [if_neg hy]
theorem fstOf_rel {Y : List Bs} (h : Lib.Pa.isAbs (fstOf Y) = false) : ∀ y Z, full Y = y :: Z → Lib.Pa.isAbs y = false := by
  intro y Z e
  unfold fstOf at h
  rw [e] at h
  exact h
theorem sumLen_append (xs ys : List ByteArray) : sumLen (xs ++ ys) = sumLen xs + sumLen ys := by
  unfold sumLen; rw [List.map_append, List.sum_append]
theorem sumLen_one (x : ByteArray) : sumLen [x] = x.size := by simp [sumLen]
/-- One string, written out. -/
theorem strsV_lit (w : World) (x : ByteArray) (t : TypeId) : StrsV (w.alloc (.cells #[.string x] t)) (some ⟨w.heap.size, 0, none⟩) 1 1 [x] := ⟨strsAt_lit w [x] t, Nat.le_refl _, fun e => by cases e⟩
theorem join_size {xs : List ByteArray} {j : ByteArray} (h : bs j = Lib.Pa.join (xs.map bs)) : j.size ≤ sumLen xs + xs.length := by
  rw [size_bs, h]
  have := Lib.Pa.join_length_le (xs.map bs)
  rw [lens_bs, List.length_map] at this
  exact this

end Go.Proofs.Ytgigodblbiiahaa.Wm
