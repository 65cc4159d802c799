/-
  Contracts of slices.Clone and slices.Insert at slices of strings, as the laws call them.
-/
import Derived.Test.YtgigodblbiiahaaSlices
import Derived.Laws.IdiomCopy
namespace Go.Proofs.Ytgigodblbiiahaa.Wm
open Go Go.RowKit

theorem OwnStrs.below {base : Nat} {w w' : World} {v : Value} {xs : List ByteArray} (h : OwnStrs base w v xs) (hb : Below w.heap.size w w') : OwnStrs base w' v xs := by
  refine ⟨h.1, ?_⟩
  rcases h.2 with h' | ⟨g, cap, cur, hv, hbg, hg, h1, h2, h3, h4⟩
  · exact .inl h'
  · refine .inr ⟨g, cap, cur, hv, hbg, ?_, h1, h2, h3, h4⟩
    have hlt : g < w.heap.size := by
      by_cases hlt : g < w.heap.size
      · exact hlt
      · have : w.heap[g]? = none := by simpa using hlt
        rw [this] at hg; cases hg
    rw [hb.block g hlt]; exact hg

theorem getD_str (xs : List ByteArray) (j : Nat) (x : ByteArray) (h : xs[j]? = some x) : xs.getD j ByteArray.empty = x := by
  rw [List.getD_eq_getElem?_getD, h]; rfl

/-- Clone. -/
theorem clone_any (a : Option Addr) (n c : Nat) (xs : List ByteArray) (w : World) (h : StrsV w a n c xs) (hn : n ≤ 4194304) :
    Calls Try.prog 13 #[.slice a n c] w fun e w' => ∃ v, e = .returned v ∧ OwnStrs w.heap.size w' v xs ∧ Below w.heap.size w w' := by
  have hl := h.1.1
  by_cases h0 : 0 < n
  · obtain ⟨b, o, rfl, hb, hc⟩ := h.1.addr h0
    refine (Try.slices_Clone_string b o n c xs w (by omega) (by omega) (fun j hj => ?_)).mono ?_
    · have := hc j _ (List.getElem?_eq_getElem hj)
      rw [this, getD_str xs j _ (List.getElem?_eq_getElem hj)]
    · rintro e w' ⟨v, rfl, hown, _, hb'⟩
      refine ⟨v, rfl, ?_, hb'⟩
      rw [List.take_of_length_le (by omega)] at hown
      unfold OwnStrs
      rw [hl]; exact hown
  · obtain rfl : n = 0 := by omega
    obtain rfl : xs = [] := List.eq_nil_of_length_eq_zero hl
    cases a with
    | none =>
      refine (Try.slices_Clone_string_nil 0 c w).mono ?_
      rintro e w' ⟨rfl, rfl⟩
      exact ⟨_, rfl, World.ownsRow_nil _ _ _ _, Below.refl _ _⟩
    | some a =>
      refine (Try.slices_Clone_string_zero a c w).mono ?_
      rintro e w' ⟨v, rfl, hown, _, hb'⟩
      exact ⟨v, rfl, hown, hb'⟩

/-! Insert -/

def ins (xs : List ByteArray) (i : Nat) (y : ByteArray) : List ByteArray := xs.take i ++ y :: xs.drop i
theorem ins_len (xs : List ByteArray) (i : Nat) (y : ByteArray) (hi : i ≤ xs.length) : (ins xs i y).length = xs.length + 1 := by
  unfold ins
  rw [List.length_append, List.length_cons, List.length_take, List.length_drop]; omega
theorem ins_at (xs : List ByteArray) (i : Nat) (y : ByteArray) (hi : i ≤ xs.length) (j : Nat) (x : ByteArray) (h : (ins xs i y)[j]? = some x) :
    (j < i ∧ xs[j]? = some x) ∨ (j = i ∧ x = y) ∨ (i < j ∧ xs[j - 1]? = some x) := by
  unfold ins at h
  have hl : (xs.take i).length = i := by rw [List.length_take]; omega
  by_cases h1 : j < i
  · left
    rw [List.getElem?_append_left (by omega), List.getElem?_take, if_pos h1] at h
    exact ⟨h1, h⟩
  · rw [List.getElem?_append_right (by omega), hl] at h
    by_cases h2 : j = i
    · right; left
      subst h2
      rw [Nat.sub_self, List.getElem?_cons_zero] at h
      exact ⟨rfl, (Option.some.inj h).symm⟩
    · right; right
      obtain ⟨k, rfl⟩ : ∃ k, j = i + (k + 1) := ⟨j - i - 1, by omega⟩
      rw [show i + (k + 1) - i = k + 1 by omega, List.getElem?_cons_succ, List.getElem?_drop] at h
      exact ⟨by omega, by rw [show i + (k + 1) - 1 = i + k by omega]; exact h⟩

theorem strsAt_cells {w : World} {b : Nat} {ys : List ByteArray} {n : Nat} (hn : ys.length = n) (h : ∀ (j : Nat) x, ys[j]? = some x → w.cell? ⟨b, j, none⟩ = some (.string x)) : StrsAt w (some ⟨b, 0, none⟩) n ys :=
  ⟨hn, fun j x hx => ⟨b, 0, rfl, by rw [Nat.zero_add]; exact h j x hx⟩⟩
theorem cell_new (w : World) (C : Array Value) (t : TypeId) (j : Nat) : (w.alloc (.cells C t)).cell? ⟨w.heap.size, j, none⟩ = C[j]? := by
  have h : (w.alloc (.cells C t)).heap[w.heap.size]? = some (.cells C t) := by
    show (w.heap.push _)[w.heap.size]? = _
    simp
  simp only [World.cell?, h]
  rfl

/-- The library's contract where a new row is made, the types' numbers written out. -/
theorem insert_grow (b off n c i vb voff m vc : Nat) (cs vs : List Value) (w : World) (hi : i < n) (hm : 0 < m) (hnc : n ≤ c) (hroom : c < n + m) (hbig : (n + m) * 16 ≤ 140737488355328)
    (hcl : cs.length = n) (hvl : vs.length = m) (hcs : ∀ (j : Nat) v, cs[j]? = some v → w.cell? ⟨b, off + j, none⟩ = some v)
    (hvs : ∀ (j : Nat) v, vs[j]? = some v → w.cell? ⟨vb, voff + j, none⟩ = some v) (h1c : ∀ v ∈ cs, v.oneCell' = true) (h1v : ∀ v ∈ vs, v.oneCell' = true) :
    Calls Try.prog 24 #[.slice (some ⟨b, off, none⟩) n c, .int .i64 i, .slice (some ⟨vb, voff, none⟩) m vc] w fun e w' =>
      ∃ gc, n + m ≤ gc ∧ e = .returned (.slice (some ⟨w.heap.size, 0, none⟩) (n + m) gc) ∧
      w' = (((w.alloc (.cells ((cs.take i).toArray ++ Builtin.zeroCells (Value.string ⟨#[]⟩).cells (n + m - i) ++ Builtin.zeroCells (Value.string ⟨#[]⟩).cells (gc - (n + m))) 9)).drew.setCells w.heap.size i vs).drew).setCells w.heap.size (i + m) (cs.drop i) := by
  refine (Any2.slices_Insert_string_grow Try.insertS b off n c i vb voff m vc cs vs w hi hm hnc hroom hbig hcl hvl hcs hvs h1c h1v).mono ?_
  rintro e w' ⟨he, hw⟩
  exact ⟨_, grownCap_ge w (n + m) c 9, he, hw⟩

set_option maxHeartbeats 800000 in
/-- Insert of one string, written out, into an owned slice. -/
theorem insert_lit (base B : Nat) (a : Option Addr) (c : Nat) (xs : List ByteArray) (y : ByteArray) (i : Nat) (W : World) (hB : W.heap.size = B) (hown : OwnStrs base W (.slice a xs.length c) xs) (hi : i ≤ xs.length) (hn : xs.length ≤ 2097152) (hbase : base ≤ W.heap.size) :
    Calls Try.prog 24 #[.slice a xs.length c, .int .i64 i, .slice (some ⟨B, 0, none⟩) 1 1] (W.alloc (.cells #[.string y] 9))
      fun e w' => ∃ a' c', e = .returned (.slice a' (xs.length + 1) c') ∧ StrsAt w' a' (xs.length + 1) (ins xs i y) ∧ Below base W w' := by
  subst hB
  have hb : Below W.heap.size W (W.alloc (.cells #[.string y] 9)) := (Below.refl _ _).alloc (Nat.le_refl _) _
  have hown' := hown.below hb
  have hvs : ∀ (j : Nat) v, [Value.string y][j]? = some v → (W.alloc (.cells #[.string y] 9)).cell? ⟨W.heap.size, 0 + j, none⟩ = some v := by
    intro j v hj
    rw [cell_new, Nat.zero_add]
    simpa using hj
  have h1v : ∀ v ∈ [Value.string y], v.oneCell' = true := by intro v hv; simp at hv; subst hv; rfl
  have h1c : ∀ v ∈ xs.map Value.string, v.oneCell' = true := by
    intro v hv
    obtain ⟨x, _, rfl⟩ := List.mem_map.1 hv
    rfl
  have hbW : Below base W (W.alloc (.cells #[.string y] 9)) := hb.mono hbase
  have hsz : (W.alloc (.cells #[.string y] 9)).heap.size = W.heap.size + 1 := by simp
  have hgrow : ∀ (C : Array Value), Below base W ((W.alloc (.cells #[.string y] 9)).drew.alloc (.cells C 9)) := fun C => hbW.drew.alloc (by rw [show (W.alloc (.cells #[.string y] 9)).drew.heap.size = _ from hsz]; omega) _
  by_cases hin : i = xs.length
  · have hins : ins xs i y = xs ++ [y] := by subst hin; unfold ins; rw [List.take_length, List.drop_length]
    have hat : ∀ (j : Nat) x, (ins xs i y)[j]? = some x → (xs.map Value.string ++ [Value.string y])[j]? = some (.string x) := by
      intro j x hx
      rw [hins] at hx
      have : (xs.map Value.string ++ [Value.string y]) = (xs ++ [y]).map Value.string := by rw [List.map_append]; rfl
      rw [this, List.getElem?_map, hx]; rfl
    have hii : (i : Int) = (xs.length : Int) := by omega
    by_cases hroom : xs.length + 1 ≤ c
    · -- in place
      rcases hown'.2 with ⟨hv, hz⟩ | ⟨g, cap, cur, hv, hbg, hg, h1, h2, h3, h4⟩
      · simp only [Value.slice.injEq] at hv; omega
      · cases hv
        have hcell : ∀ j, j < c → ((W.alloc (.cells #[.string y] 9)).cell? ⟨g, j, none⟩).isSome = true := by
          intro j hj
          simp only [World.cell?, hg]
          have : j < cur.size := by rw [h3]; omega
          simp [this]
        rw [hii]
        refine (Any2.slices_Insert_string_end_room Try.insertS g 0 xs.length c W.heap.size 0 1 1 [.string y] (W.alloc (.cells #[.string y] 9)) (by omega) hroom (by unfold maxLen at h2; omega) rfl
          (fun j hj => hcell _ (by omega)) (fun j hj => by simp only [World.frozen?, hg]; simp) hvs h1v).mono ?_
        rintro e w' ⟨rfl, rfl⟩
        refine ⟨_, _, rfl, strsAt_cells (ins_len xs i y hi) (fun j x hx => ?_), ?_⟩
        · rcases ins_at xs i y hi j x hx with ⟨hlt, hx'⟩ | ⟨rfl, rfl⟩ | ⟨hlt, hx'⟩
          · rw [World.cell?_setCells_out _ _ _ _ _ (fun _ _ => .inl (by simp; omega))]
            have := hown'.cells (g := g) rfl j (.string x) (by rw [List.getElem?_map, hx']; rfl)
            rwa [Go.WideShapes.add_plain, Nat.zero_add] at this
          · have := World.cell?_setCells_in g [.string x] (0 + xs.length) (W.alloc (.cells #[.string x] 9)) (fun k hk => by simp at hk; subst hk; exact hcell _ (by omega)) 0 (by simp)
            rw [show 0 + xs.length + 0 = j by omega] at this
            exact this
          · have := (List.getElem?_eq_some_iff.1 hx').1
            omega
        · exact hbW.setCell (p := ⟨g, 0 + xs.length, none⟩) hbg _
    · -- a new row
      rw [hii]
      refine (Any2.slices_Insert_string_end_grow Try.insertS a xs.length c W.heap.size 0 1 1 (xs.map Value.string) [.string y] (W.alloc (.cells #[.string y] 9)) (by omega) ?_ (by omega) (by omega) (by simp) rfl ?_ ?_ hvs h1v).mono ?_
      · rcases hown'.2 with ⟨hv, hz⟩ | ⟨g, cap, cur, hv, hbg, hg, h1, h2, h3, h4⟩
        · simp only [Value.slice.injEq] at hv; omega
        · cases hv; exact h1
      · intro ha
        subst ha
        rcases hown'.2 with ⟨hv, hz⟩ | ⟨g, cap, cur, hv, _⟩
        · exact hz
        · cases hv
      · intro b hb' j v hj
        subst hb'
        rcases hown'.2 with ⟨hv, hz⟩ | ⟨g, cap, cur, hv, hbg, hg, h1, h2, h3, h4⟩
        · cases hv
        · cases hv
          exact hown'.cells (g := g) rfl j v hj
      · rintro e w' ⟨rfl, rfl⟩
        refine ⟨_, _, rfl, strsAt_cells (ins_len xs i y hi) (fun j x hx => ?_), hgrow _⟩
        have h := hat j x hx
        have hlt : j < (xs.map Value.string ++ [Value.string y]).length := (List.getElem?_eq_some_iff.1 h).1
        rw [show (W.alloc (.cells #[.string y] 9)).heap.size = (W.alloc (.cells #[.string y] 9)).drew.heap.size from rfl, cell_new, Array.getElem?_append_left (by simpa using hlt)]
        simpa using h
  · have hlt : i < xs.length := by omega
    rcases hown'.2 with ⟨hv, hz⟩ | ⟨g, cap, cur, hv, hbg, hg, h1, h2, h3, h4⟩
    · omega
    · cases hv
      have hcs : ∀ (j : Nat) v, (xs.map Value.string)[j]? = some v → (W.alloc (.cells #[.string y] 9)).cell? ⟨g, 0 + j, none⟩ = some v := by
        intro j v hj
        have := hown'.cells (g := g) rfl j v hj
        rwa [Go.WideShapes.add_plain] at this
      have hcell : ∀ j, j < c → ((W.alloc (.cells #[.string y] 9)).cell? ⟨g, j, none⟩).isSome = true := by
        intro j hj
        simp only [World.cell?, hg]
        have : j < cur.size := by rw [h3]; omega
        simp [this]
      have hdrop : ((xs.map Value.string).drop i).length = xs.length - i := by rw [List.length_drop, List.length_map]
      by_cases hroom : xs.length + 1 ≤ c
      · -- shifted in place
        have hne : W.heap.size ≠ g := by
          intro e
          have : g < W.heap.size := by
            rcases hown.2 with ⟨hv, _⟩ | ⟨g', cap', cur', hv, _, hg', _⟩
            · cases hv
            · cases hv
              by_cases h : g < W.heap.size
              · exact h
              · have : W.heap[g]? = none := by simpa using h
                rw [this] at hg'; cases hg'
          omega
        have hnew : (W.alloc (.cells #[.string y] 9)).heap[W.heap.size]? = some (.cells #[.string y] 9) := by
          show (W.heap.push _)[W.heap.size]? = _
          simp
        refine (Any2.slices_Insert_string_shift Try.insertS g 0 xs.length c i W.heap.size 0 1 1 (xs.map Value.string) [.string y] (W.alloc (.cells #[.string y] 9)) hlt (by omega) hroom (by unfold maxLen at h2; omega) hne (by simp) rfl
          hcs (fun j hj => hcell _ (by omega)) (fun j hj => by simp only [World.frozen?, hg]; simp) hvs h1c h1v 9 9 1 cur.size (by simp only [World.shape?, hnew]; rfl) (by simp only [World.shape?, hg]) (by rw [h3]; omega) (by simp only [World.frozen?, hnew]; rfl) (by simp only [World.frozen?, hnew]; rfl)).mono ?_
        rintro e w' ⟨rfl, rfl⟩
        refine ⟨_, _, rfl, strsAt_cells (ins_len xs i y hi) (fun j x hx => ?_), ?_⟩
        · rcases ins_at xs i y hi j x hx with ⟨hj, hx'⟩ | ⟨rfl, rfl⟩ | ⟨hj, hx'⟩
          · rw [World.cell?_setCells_out _ _ _ _ _ (fun _ _ => .inl (by simp; omega)), World.cell?_setCells_out _ _ _ _ _ (fun _ _ => .inl (by simp; omega))]
            have := hcs j (.string x) (by rw [List.getElem?_map, hx']; rfl)
            rwa [Nat.zero_add] at this
          · have := World.cell?_setCells_in g [.string x] (0 + j) ((W.alloc (.cells #[.string x] 9)).drew.setCells g (0 + (j + 1)) ((xs.map Value.string).drop j)) (fun k hk => by
              simp at hk; subst hk
              rw [World.cell?_setCells_out _ _ _ _ _ (fun _ _ => .inl (by simp))]
              exact hcell _ (by omega)) 0 (by simp)
            rw [show 0 + j + 0 = j by omega] at this
            exact this
          · rw [World.cell?_setCells_out _ _ _ _ _ (fun _ _ => .inr (by simp; omega))]
            have hk : j - (i + 1) < ((xs.map Value.string).drop i).length := by
              have := (List.getElem?_eq_some_iff.1 hx').1
              rw [hdrop]; omega
            have := World.cell?_setCells_in g ((xs.map Value.string).drop i) (0 + (i + 1)) (W.alloc (.cells #[.string y] 9)).drew (fun k hk => by
              rw [hdrop] at hk
              exact hcell _ (by omega)) (j - (i + 1)) hk
            rw [show 0 + (i + 1) + (j - (i + 1)) = j by omega] at this
            rw [this, List.getElem_drop, List.getElem_map]
            have hx2 := (List.getElem?_eq_some_iff.1 hx').2
            congr 2
            rw [← hx2]
            congr 1
            omega
        · have hset : ∀ (vs : List Value) (o : Nat) (w1 : World), Below base W w1 → Below base W (w1.setCells g o vs) := by
            intro vs
            induction vs with
            | nil => intro o w1 h; exact h
            | cons v r ih => intro o w1 h; exact ih (o + 1) _ (h.setCell (p := ⟨g, o, none⟩) hbg v)
          exact hset _ _ _ (hset _ _ _ hbW.drew)
      · -- a new row
        refine (insert_grow g 0 xs.length c i W.heap.size 0 1 1 (xs.map Value.string) [.string y] (W.alloc (.cells #[.string y] 9)) hlt (by omega) h1 (by omega) (by omega) (by simp) rfl hcs hvs h1c h1v).mono ?_
        rintro e w' ⟨gc, hge, rfl, rfl⟩
        generalize hw1 : W.alloc (.cells #[.string y] 9) = w1 at *
        have hC : ∀ j, j < xs.length + 1 → ((w1.alloc (.cells (((xs.map Value.string).take i).toArray ++ Builtin.zeroCells (Value.string ⟨#[]⟩).cells (xs.length + 1 - i) ++ Builtin.zeroCells (Value.string ⟨#[]⟩).cells (gc - (xs.length + 1))) 9)).cell? ⟨w1.heap.size, j, none⟩).isSome = true := by
          intro j hj
          rw [cell_new]
          have : j < (((xs.map Value.string).take i).toArray ++ Builtin.zeroCells (Value.string ⟨#[]⟩).cells (xs.length + 1 - i) ++ Builtin.zeroCells (Value.string ⟨#[]⟩).cells (gc - (xs.length + 1))).size := by
            rw [Array.size_append, Array.size_append, size_zeroCells, size_zeroCells]
            show j < ((xs.map Value.string).take i).length + (xs.length + 1 - i) * 1 + (gc - (xs.length + 1)) * 1
            rw [List.length_take, List.length_map]
            omega
          rw [Array.getElem?_eq_getElem this]; rfl
        refine ⟨_, _, rfl, strsAt_cells (ins_len xs i y hi) (fun j x hx => ?_), ?_⟩
        · rcases ins_at xs i y hi j x hx with ⟨hj, hx'⟩ | ⟨rfl, rfl⟩ | ⟨hj, hx'⟩
          · rw [World.cell?_setCells_out _ _ _ _ _ (fun _ _ => .inl (by simp; omega))]
            show (World.setCells _ _ _ _).cell? _ = _
            rw [World.cell?_setCells_out _ _ _ _ _ (fun _ _ => .inl (by simp; omega))]
            show (World.alloc _ _).cell? _ = _
            have hlj : j < ((xs.map Value.string).take i).length := by rw [List.length_take, List.length_map]; omega
            rw [cell_new, Array.getElem?_append_left (by rw [Array.size_append]; simp; omega), Array.getElem?_append_left (by simpa using hlj)]
            simp [hx', hj]
          · rw [World.cell?_setCells_out _ _ _ _ _ (fun _ _ => .inl (by simp))]
            have := World.cell?_setCells_in w1.heap.size [.string x] j (w1.alloc (.cells (((xs.map Value.string).take j).toArray ++ Builtin.zeroCells (Value.string ⟨#[]⟩).cells (xs.length + 1 - j) ++ Builtin.zeroCells (Value.string ⟨#[]⟩).cells (gc - (xs.length + 1))) 9)).drew (fun k hk => by
              simp at hk; subst hk
              exact hC _ (by omega)) 0 (by simp)
            rw [Nat.add_zero] at this
            exact this
          · have hk : j - (i + 1) < ((xs.map Value.string).drop i).length := by
              have := (List.getElem?_eq_some_iff.1 hx').1
              rw [hdrop]; omega
            have := World.cell?_setCells_in w1.heap.size ((xs.map Value.string).drop i) (i + 1) ((w1.alloc (.cells (((xs.map Value.string).take i).toArray ++ Builtin.zeroCells (Value.string ⟨#[]⟩).cells (xs.length + 1 - i) ++ Builtin.zeroCells (Value.string ⟨#[]⟩).cells (gc - (xs.length + 1))) 9)).drew.setCells w1.heap.size i [.string y]).drew (fun k hk => by
              rw [hdrop] at hk
              show ((World.setCells _ _ _ _).cell? _).isSome = true
              rw [World.cell?_setCells_out _ _ _ _ _ (fun _ _ => .inr (by simp))]
              exact hC _ (by omega)) (j - (i + 1)) hk
            rw [show i + 1 + (j - (i + 1)) = j by omega] at this
            rw [this, List.getElem_drop, List.getElem_map]
            have hx2 := (List.getElem?_eq_some_iff.1 hx').2
            congr 2
            rw [← hx2]
            congr 1
            omega
        · have hsz1 : W.heap.size ≤ w1.heap.size := hbW.size
          have hset : ∀ (vs : List Value) (o : Nat) (w2 : World), Below base W w2 → Below base W (w2.setCells w1.heap.size o vs) := by
            intro vs
            induction vs with
            | nil => intro o w2 h; exact h
            | cons v r ih => intro o w2 h; exact ih (o + 1) _ (h.setCell (p := ⟨w1.heap.size, o, none⟩) (by show base ≤ w1.heap.size; omega) v)
          exact hset _ _ _ (hset _ _ _ (hbW.alloc (by omega) _).drew).drew

/-! A place in a slice, by the remainder -/

theorem tmod_abs (a : Int) {n : Int} (hn : 0 < n) : -n < a.tmod n ∧ a.tmod n < n := ⟨Int.lt_tmod_of_pos a hn, Int.tmod_lt_of_pos a hn⟩
theorem place_in (a : Int) (len : Nat) (h0 : 0 < len) (h1 : len ≤ 2097152) : ∃ i : Nat, i < len ∧ (wrap64 (a.tmod (len : Int) + (len : Int))).tmod (len : Int) = (i : Int) := by
  have hb := tmod_abs a (n := (len : Int)) (by omega)
  rw [IntWalk.wrap64_in _ ⟨by omega, by omega⟩]
  have hp : 0 ≤ a.tmod (len : Int) + (len : Int) := by omega
  rw [Int.tmod_eq_emod_of_nonneg hp]
  have h3 := Int.emod_nonneg (a.tmod (len : Int) + (len : Int)) (b := (len : Int)) (by omega)
  have h4 := Int.emod_lt_of_pos (a.tmod (len : Int) + (len : Int)) (b := (len : Int)) (by omega)
  exact ⟨((a.tmod (len : Int) + (len : Int)) % (len : Int)).toNat, by omega, by omega⟩
theorem place_at (a : Int) (len : Nat) (h1 : len ≤ 2097152) : ∃ i : Nat, i ≤ len ∧ (wrap64 (wrap64 (a.tmod ((len : Int) + 1) + (len : Int)) + 1)).tmod ((len : Int) + 1) = (i : Int) := by
  have hb := tmod_abs a (n := (len : Int) + 1) (by omega)
  rw [IntWalk.wrap64_in (a.tmod ((len : Int) + 1) + (len : Int)) ⟨by omega, by omega⟩, IntWalk.wrap64_in _ ⟨by omega, by omega⟩]
  have hp : 0 ≤ a.tmod ((len : Int) + 1) + (len : Int) + 1 := by omega
  rw [Int.tmod_eq_emod_of_nonneg hp]
  have h3 := Int.emod_nonneg (a.tmod ((len : Int) + 1) + (len : Int) + 1) (b := (len : Int) + 1) (by omega)
  have h4 := Int.emod_lt_of_pos (a.tmod ((len : Int) + 1) + (len : Int) + 1) (b := (len : Int) + 1) (by omega)
  exact ⟨((a.tmod ((len : Int) + 1) + (len : Int) + 1) % ((len : Int) + 1)).toNat, by omega, by omega⟩

end Go.Proofs.Ytgigodblbiiahaa.Wm
