/-
  Helpers of the walks and of the rows' steps: strings as lists of bytes, slices of strings and of numbers that came in, what the bound on the bulk gives. No law of the program.
-/
import Derived.Test.YtgigodblbiiahaaDoorRows
import Derived.WalkKit
import Derived.ProofKit
import Derived.OpenShut
import Derived.ShutString
import Derived.ChangeOld
import Derived.Below
import Derived.SizedLaws
import Derived.JoinedCond
import Derived.SliceStrings
import Derived.Lib.Hide
import Derived.Lib.Strings
import Derived.Deep.DeepFit
import Derived.WalkSpells
import Derived.WalkLawsBesides
import Derived.Laws.Concat
import Derived.Lib.JoinFns
namespace Go.Proofs.YtgigodblbiiahaaDoor.Wm
open Go Go.ChangeShapes Go.WideShapes Go.ChangeAt Go.RowKit

/-- The bytes of a string. -/
abbrev bs (s : ByteArray) : List UInt8 := s.data.toList

theorem toList_bs (s : ByteArray) : s.toList = bs s := Lib.toList_data s
theorem bs_mk (l : List UInt8) : bs ⟨l.toArray⟩ = l := rfl
theorem size_bs (s : ByteArray) : s.size = (bs s).length := Lib.size_eq s
theorem bs_append (a b : ByteArray) : bs (a ++ b) = bs a ++ bs b := by
  unfold bs
  rw [ByteArray.data_append, Array.toList_append]
theorem size1 (a : UInt8) : (⟨#[a]⟩ : ByteArray).size = 1 := rfl
theorem size2 (a b : UInt8) : (⟨#[a, b]⟩ : ByteArray).size = 2 := rfl
theorem size3 (a b c : UInt8) : (⟨#[a, b, c]⟩ : ByteArray).size = 3 := rfl
theorem size4 (a b c d : UInt8) : (⟨#[a, b, c, d]⟩ : ByteArray).size = 4 := rfl
theorem bs_inj {a b : ByteArray} (h : bs a = bs b) : a = b := by
  rw [← Lib.mk_data a, ← Lib.mk_data b]
  exact congrArg (fun l : List UInt8 => (⟨l.toArray⟩ : ByteArray)) h
/-- Tests on strings, as the walk spells them. -/
theorem eq_true {a b : ByteArray} (h : bs a = bs b) : (a.toList == b.toList) = true := by rw [toList_bs, toList_bs, h]; simp
theorem eq_false {a b : ByteArray} (h : bs a ≠ bs b) : (a.toList == b.toList) = false := by rw [toList_bs, toList_bs]; simpa using h
theorem eq_beq (a b : ByteArray) : (a.toList == b.toList) = (bs a == bs b) := by rw [toList_bs, toList_bs]
theorem lit_true {a : ByteArray} {l : List UInt8} (h : bs a = l) : (a.toList == l) = true := by rw [toList_bs, h]; simp
theorem lit_false {a : ByteArray} {l : List UInt8} (h : bs a ≠ l) : (a.toList == l) = false := by rw [toList_bs]; simpa using h
theorem empty_false {a : ByteArray} (h : bs a ≠ []) : a.toList.isEmpty = false := by rw [toList_bs]; cases hb : bs a with | nil => exact absurd hb h | cons => rfl
theorem empty_true {a : ByteArray} (h : bs a = []) : a.toList.isEmpty = true := by rw [toList_bs, h]; rfl
theorem of_empty {a : ByteArray} (h : a.toList.isEmpty = true) : bs a = [] := by rw [toList_bs] at h; exact List.isEmpty_iff.1 h
theorem of_not_empty {a : ByteArray} (h : a.toList.isEmpty = false) : bs a ≠ [] := by rw [toList_bs] at h; intro e; rw [e] at h; simp at h

theorem ret_bool {a b : Bool} (h : a = b) : Ending.returned (.bool a) = .returned (.bool b) := by rw [h]

/-- Below, behind draws. -/
theorem below_drewN {B : Nat} {a : World} {w : World} (n : Nat) (h : Below B a w) : Below B a (w.drewN n) := ⟨h.os, h.tape, h.output, h.size, h.block⟩

/-- One step behind another. -/
theorem next {w w1 w2 : World} (h1 : Below w.heap.size w w1) (h2 : Below w1.heap.size w1 w2) : Below w.heap.size w w2 := h1.trans (h2.mono h1.size)

/-- Hands back the string of bytes l; nothing that was there has turned. -/
def StrIs (l : List UInt8) (w : World) (e : Ending) (w' : World) : Prop := ∃ c : ByteArray, e = .returned (.string c) ∧ bs c = l ∧ Below w.heap.size w w'
/-- Two strings. -/
def StrsAre (l m : List UInt8) (w : World) (e : Ending) (w' : World) : Prop := ∃ c d : ByteArray, e = .returned (.tuple #[.string c, .string d]) ∧ bs c = l ∧ bs d = m ∧ Below w.heap.size w w'

/-- A slice of strings that came in: nil; or a row of 'cap' cells, the strings ss (the first 'len' are its elements). -/
def IsStrs (w : World) (a : Option Addr) (len cap : Nat) (ss : List ByteArray) : Prop :=
  (a = none ∧ len = 0 ∧ cap = 0 ∧ ss = []) ∨
  ∃ x, a = some x ∧ len ≤ cap ∧ cap ≤ maxLen ∧ ss.length = cap ∧ ∀ i, i < ss.length → w.cell? (x.add i) = some (.string (ss.getD i ByteArray.empty))
def IsInts (w : World) (a : Option Addr) (len cap : Nat) (zs : List Int) : Prop :=
  (a = none ∧ len = 0 ∧ cap = 0 ∧ zs = []) ∨
  ∃ x, a = some x ∧ len ≤ cap ∧ cap ≤ maxLen ∧ zs.length = cap ∧ (∀ i, i < zs.length → w.cell? (x.add i) = some (.int .i64 (zs.getD i 0))) ∧ ∀ n ∈ zs, (Lit.int .i64 n).wf = true
/-- What it reads as. -/
def StrsData {H : Type} (ss : List ByteArray) (len : Nat) (d : DataW H) : Prop := (ss = [] ∧ len = 0) ∨ d = .slice (strs (ss.take len)) (strs (ss.drop len))
def IntsData {H : Type} (zs : List Int) (len : Nat) (d : DataW H) : Prop := (zs = [] ∧ len = 0) ∨ d = .slice (lits .i64 (zs.take len)) (lits .i64 (zs.drop len))

section
variable {H : Type} {enc : TypeId × Value → H} {P : Program} {w : World}
theorem open_strs {t e : TypeId} {fuel : Nat} {a : Option Addr} {len cap : Nat} {d : DataW H} {p : List MemPlace} (ht : P.underlying t = some (.slice e)) (he : P.underlying e = some .string) (hc : P.cellsOf e = 1)
    (h : DataW.trod enc P w 0 (fun _ => true) true fuel t (Value.slice a len cap).cells.toList = some (d, p)) : ∃ ss, IsStrs w a len cap ss ∧ StrsData ss len d := by
  rcases open_strings ht he hc h with ⟨hcs, _⟩ | ⟨x, l, c, ss, hcs, _, hl, hm, hz, hx, hcell, _⟩
  · simp [Value.cells] at hcs
    obtain ⟨rfl, rfl, rfl⟩ := hcs
    exact ⟨[], .inl ⟨rfl, rfl, rfl, rfl⟩, .inl ⟨rfl, rfl⟩⟩
  · simp [Value.cells] at hcs
    obtain ⟨rfl, rfl, rfl⟩ := hcs
    exact ⟨ss, .inr ⟨_, rfl, hl, hm, by simpa using hz, hcell⟩, .inr (congrArg Prod.fst hx)⟩
theorem open_nums {t e : TypeId} {fuel : Nat} {a : Option Addr} {len cap : Nat} {d : DataW H} {p : List MemPlace} (ht : P.underlying t = some (.slice e)) (he : P.underlying e = some (.int .i64)) (hc : P.cellsOf e = 1)
    (h : DataW.trod enc P w 0 (fun _ => true) true fuel t (Value.slice a len cap).cells.toList = some (d, p)) : ∃ zs, IsInts w a len cap zs ∧ IntsData zs len d := by
  rcases open_ints ht he hc h with ⟨hcs, _⟩ | ⟨x, l, c, zs, hcs, _, hl, hm, hz, hx, hcell, hwz⟩
  · simp [Value.cells] at hcs
    obtain ⟨rfl, rfl, rfl⟩ := hcs
    exact ⟨[], .inl ⟨rfl, rfl, rfl, rfl⟩, .inl ⟨rfl, rfl⟩⟩
  · simp [Value.cells] at hcs
    obtain ⟨rfl, rfl, rfl⟩ := hcs
    exact ⟨zs, .inr ⟨_, rfl, hl, hm, by simpa using hz, hcell, hwz⟩, .inr (congrArg Prod.fst hx)⟩
end

theorem lt_of_cell {w : World} {a : Addr} {v : Value} (h : w.cell? a = some v) : a.block < w.heap.size := by
  by_cases hb : a.block < w.heap.size
  · exact hb
  · have : w.heap[a.block]? = none := by simpa using hb
    simp [World.cell?, this] at h

/-- The n strings xs lie at the address a (of which nothing is asked where there are none). -/
def StrsAt (w : World) (a : Option Addr) (n : Nat) (xs : List ByteArray) : Prop :=
  xs.length = n ∧ ∀ (j : Nat) x, xs[j]? = some x → ∃ b o, a = some ⟨b, o, none⟩ ∧ w.cell? ⟨b, o + j, none⟩ = some (.string x)
theorem StrsAt.below {w w' : World} {a : Option Addr} {n : Nat} {xs : List ByteArray} (h : StrsAt w a n xs) (hb : Below w.heap.size w w') : StrsAt w' a n xs :=
  ⟨h.1, fun j x hx => by
    obtain ⟨b, o, ha, hc⟩ := h.2 j x hx
    exact ⟨b, o, ha, by rw [hb.cell (p := ⟨b, o + j, none⟩) (lt_of_cell (a := ⟨b, o + j, none⟩) hc)]; exact hc⟩⟩
/-- Where there is one at all: the address. -/
theorem StrsAt.addr {w : World} {a : Option Addr} {n : Nat} {xs : List ByteArray} (h : StrsAt w a n xs) (hn : 0 < n) :
    ∃ b o, a = some ⟨b, o, none⟩ ∧ b < w.heap.size ∧ ∀ (j : Nat) x, xs[j]? = some x → w.cell? ⟨b, o + j, none⟩ = some (.string x) := by
  have hx : xs[0]? = some (xs[0]'(by rw [h.1]; exact hn)) := List.getElem?_eq_getElem _
  obtain ⟨b, o, ha, hc⟩ := h.2 0 _ hx
  refine ⟨b, o, ha, lt_of_cell (a := ⟨b, o + 0, none⟩) hc, fun j x hj => ?_⟩
  obtain ⟨b', o', ha', hc'⟩ := h.2 j x hj
  rw [ha] at ha'
  simp only [Option.some.injEq, Addr.mk.injEq, and_true] at ha'
  rw [ha'.1, ha'.2]; exact hc'
theorem IsStrs.at {w : World} {a : Option Addr} {len cap : Nat} {ss : List ByteArray} (h : IsStrs w a len cap ss) : StrsAt w a len (ss.take len) := by
  rcases h with ⟨rfl, rfl, rfl, rfl⟩ | ⟨x, rfl, hl, _, hs, hc⟩
  · exact ⟨rfl, fun j y hy => by simp at hy⟩
  · refine ⟨by simp; omega, fun j y hy => ?_⟩
    rw [List.getElem?_take] at hy
    split at hy
    · have hj : j < ss.length := (List.getElem?_eq_some_iff.1 hy).1
      have h0 := hc 0 (by omega)
      obtain ⟨b, o, sp⟩ := x
      have hsp : sp = none := by simpa [Addr.add] using World.cell?_spot h0
      subst hsp
      refine ⟨b, o, rfl, ?_⟩
      rw [← Go.WideShapes.add_plain, hc j hj, List.getD_eq_getElem?_getD, hy]; rfl
    · cases hy
theorem strsAt_own {w : World} {base e : Nat} {g n c : Nat} {xs : List ByteArray} (h : w.ownsRow base e 1 (.slice (some ⟨g, 0, none⟩) n c) n (xs.map Value.string)) : StrsAt w (some ⟨g, 0, none⟩) n xs := by
  refine ⟨by have := h.1; simpa using this, fun j x hx => ⟨g, 0, rfl, ?_⟩⟩
  have := h.cells (g := g) rfl j (.string x) (by rw [List.getElem?_map, hx]; rfl)
  rwa [Go.WideShapes.add_plain] at this

/-- Strings in a block of their own, as a literal lays them. -/
theorem strsAt_lit (w : World) (xs : List ByteArray) (t : TypeId) : StrsAt (w.alloc (.cells (xs.map Value.string).toArray t)) (some ⟨w.heap.size, 0, none⟩) xs.length xs := by
  refine ⟨rfl, fun j x hx => ⟨_, 0, rfl, ?_⟩⟩
  have h : (w.alloc (.cells (xs.map Value.string).toArray t)).heap[w.heap.size]? = some (.cells (xs.map Value.string).toArray t) := by
    show (w.heap.push _)[w.heap.size]? = _
    simp
  simp only [World.cell?, h, Nat.zero_add]
  simp [hx]

/-- The bytes of strings together. -/
def sumLen (ss : List ByteArray) : Nat := (ss.map (·.size)).sum

theorem lens_bs (ss : List ByteArray) : Lib.Pa.lens (ss.map (·.data.toList)) = sumLen ss := by
  induction ss with
  | nil => rfl
  | cons s r ih =>
    unfold Lib.Pa.lens sumLen at ih ⊢
    rw [List.map_cons, List.map_cons, List.map_cons, List.sum_cons, List.sum_cons, ih, Lib.size_eq]
theorem sumLen_take (ss : List ByteArray) (n : Nat) : sumLen (ss.take n) ≤ sumLen ss := by
  have h : sumLen (ss.take n) + sumLen (ss.drop n) = sumLen ss := by
    unfold sumLen
    rw [← List.sum_append, ← List.map_append, List.take_append_drop]
  omega
/-- A slice of strings that came in: its elements, where they lie, how much they are. -/
theorem IsStrs.all {w : World} {a : Option Addr} {len cap : Nat} {ss : List ByteArray} (h : IsStrs w a len cap ss) {B : Nat} (hb : sumLen ss + ss.length ≤ B) :
    ∃ xs, StrsAt w a len xs ∧ sumLen xs + len ≤ B ∧ len ≤ cap := by
  have h1 := h.at
  refine ⟨_, h1, ?_, ?_⟩
  · have h2 := sumLen_take ss len
    have h3 := h1.1
    rw [List.length_take] at h3
    omega
  · rcases h with ⟨_, rfl, rfl, _⟩ | ⟨x, _, hl, _⟩
    · exact Nat.le_refl _
    · exact hl
theorem bounds_i64 {n : Int} (h : (Lit.int .i64 n).wf = true) : -9223372036854775808 ≤ n ∧ n ≤ 9223372036854775807 := by
  simp [Lit.wf, IntKind.min, IntKind.max, IntKind.signed, IntKind.bits] at h
  omega
theorem bounds_u8 {n : Int} (h : (Lit.int .u8 n).wf = true) : 0 ≤ n ∧ n ≤ 255 := by
  simp [Lit.wf, IntKind.min, IntKind.max, IntKind.signed, IntKind.bits] at h
  omega
end Go.Proofs.YtgigodblbiiahaaDoor.Wm

namespace Go.Proofs.YtgigodblbiiahaaDoor.Bulk
open Go Go.ChangeShapes Go.Proofs.YtgigodblbiiahaaDoor.Wm

theorem one_le {H : Type} (d : DataW H) : 1 ≤ Rows.uptoBulk d := by
  cases d with
  | lit l => cases l <;> simp [Rows.uptoBulk]
  | nil => simp [Rows.uptoBulk]
  | ptr d => simp [Rows.uptoBulk]
  | slice elems spare => simp [Rows.uptoBulk]
  | agg parts => simp [Rows.uptoBulk]
  | iface t d => simp [Rows.uptoBulk]
  | map entries => simp [Rows.uptoBulk]
  | held h => simp [Rows.uptoBulk]
theorem part_le {H : Type} {d : DataW H} {l : List (DataW H)} (h : d ∈ l) : Rows.uptoBulk d ≤ Rows.uptoBulkAll l := by
  induction l with
  | nil => cases h
  | cons x r ih =>
    simp only [Rows.uptoBulkAll]
    cases List.mem_cons.1 h with
    | inl e => subst e; omega
    | inr e => have := ih e; omega
theorem length_le {H : Type} (l : List (DataW H)) : l.length ≤ Rows.uptoBulkAll l := by
  induction l with
  | nil => simp [Rows.uptoBulkAll]
  | cons x r ih => have := one_le x; simp only [Rows.uptoBulkAll, List.length_cons]; omega
theorem str_le {H : Type} {s : ByteArray} {l : List (DataW H)} {n : Nat} (hb : Rows.uptoBulkAll l ≤ n) (h : DataW.lit (.string s.data.toList) ∈ l) : s.size ≤ n := by
  have h1 := part_le h
  simp only [Rows.uptoBulk] at h1
  rw [Lib.size_eq]; omega
theorem strs_bulk {H : Type} (ss : List ByteArray) : Rows.uptoBulkAll (strs ss : List (DataW H)) = sumLen ss + ss.length := by
  induction ss with
  | nil => rfl
  | cons s r ih =>
    have e : (strs (s :: r) : List (DataW H)) = .lit (.string s.data.toList) :: strs r := rfl
    rw [e]
    simp only [Rows.uptoBulkAll, Rows.uptoBulk, ih, sumLen, List.map_cons, List.sum_cons, List.length_cons]
    rw [Lib.size_eq]; omega
theorem sum_take_drop (ss : List ByteArray) (n : Nat) : sumLen (ss.take n) + sumLen (ss.drop n) = sumLen ss := by
  unfold sumLen
  rw [← List.sum_append, ← List.map_append, List.take_append_drop]
/-- Of a slice of strings: their bytes and their number, the spare places' too. -/
theorem strs_le {H : Type} {ss : List ByteArray} {len : Nat} {d : DataW H} {l : List (DataW H)} {n : Nat} (e : StrsData ss len d) (hb : Rows.uptoBulkAll l ≤ n) (h : d ∈ l) : sumLen ss + ss.length ≤ n := by
  rcases e with ⟨rfl, rfl⟩ | rfl
  · simp [sumLen]
  · have h1 := part_le h
    simp only [Rows.uptoBulk, strs_bulk] at h1
    have h2 := sum_take_drop ss len
    have h3 : (ss.take len).length + (ss.drop len).length = ss.length := by rw [← List.length_append, List.take_append_drop]
    omega
theorem ints_le {H : Type} {zs : List Int} {len : Nat} {d : DataW H} {l : List (DataW H)} {n : Nat} (e : IntsData zs len d) (hb : Rows.uptoBulkAll l ≤ n) (h : d ∈ l) : zs.length ≤ n := by
  rcases e with ⟨rfl, rfl⟩ | rfl
  · simp
  · have h1 := part_le h
    simp only [Rows.uptoBulk] at h1
    have h2 : (zs.take len).length ≤ Rows.uptoBulkAll (lits .i64 (zs.take len) : List (DataW H)) := by have := length_le (H := H) (lits .i64 (zs.take len)); rwa [lits, List.length_map] at this
    have h3 : (zs.drop len).length ≤ Rows.uptoBulkAll (lits .i64 (zs.drop len) : List (DataW H)) := by have := length_le (H := H) (lits .i64 (zs.drop len)); rwa [lits, List.length_map] at this
    have h4 : (zs.take len).length + (zs.drop len).length = zs.length := by rw [← List.length_append, List.take_append_drop]
    omega
end Go.Proofs.YtgigodblbiiahaaDoor.Bulk
