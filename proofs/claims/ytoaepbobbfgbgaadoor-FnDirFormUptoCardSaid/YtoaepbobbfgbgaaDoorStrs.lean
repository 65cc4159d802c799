/-
  Slices of strings that a call has made itself, and what the builtin append does to them.
-/
import Derived.Test.YtoaepbobbfgbgaaDoorImpl
import Derived.Test.YtoaepbobbfgbgaaDoorPlain2
import Derived.Laws.AppendOwnNone
import Derived.Lib.Join
import Derived.Lib.CleanLen
namespace Go.Proofs.YtoaepbobbfgbgaaDoor.Wm
open Go Go.RowKit

/-- A slice of strings as a value: where it lies, what it holds; a nil one has no room. -/
def StrsV (w : World) (a : Option Addr) (n c : Nat) (xs : List ByteArray) : Prop := StrsAt w a n xs ∧ n ≤ c ∧ (a = none → c = 0)
theorem StrsV.below {w w' : World} {a : Option Addr} {n c : Nat} {xs : List ByteArray} (h : StrsV w a n c xs) (hb : Below w.heap.size w w') : StrsV w' a n c xs := ⟨h.1.below hb, h.2⟩
theorem IsStrs.v {w : World} {a : Option Addr} {len cap : Nat} {ss : List ByteArray} (h : IsStrs w a len cap ss) : StrsV w a len cap (ss.take len) := by
  refine ⟨h.at, ?_, ?_⟩
  · rcases h with ⟨_, rfl, rfl, _⟩ | ⟨x, _, hl, _⟩
    · exact Nat.le_refl _
    · exact hl
  · rcases h with ⟨_, _, rfl, _⟩ | ⟨x, rfl, _⟩
    · exact fun _ => rfl
    · intro e; cases e

/-- A slice of strings that the call itself made, or nil. -/
def OwnStrs (base : Nat) (w : World) (v : Value) (xs : List ByteArray) : Prop := w.ownsRow base 9 1 v xs.length (xs.map Value.string)
theorem OwnStrs.v {base : Nat} {w : World} {v : Value} {xs : List ByteArray} (h : OwnStrs base w v xs) : ∃ a c, v = .slice a xs.length c ∧ StrsV w a xs.length c xs := by
  have h' := h
  rcases h.2 with ⟨hv, hn⟩ | ⟨g, cap, cur, hv, _, _, hc, _⟩
  · obtain rfl : xs = [] := List.eq_nil_of_length_eq_zero hn
    exact ⟨none, 0, hv, ⟨rfl, fun j x hx => by simp at hx⟩, Nat.le_refl _, fun _ => rfl⟩
  · unfold OwnStrs at h'
    rw [hv] at h'
    exact ⟨_, cap, hv, strsAt_own h', hc, fun e => by cases e⟩

theorem info_str : (Tryd.prog.info? 9).map (fun i => (i.zero, i.size, i.bytes)) = some (some (.string ByteArray.empty), 1, 16) := by kernel_rfl

theorem OwnStrs.below {base : Nat} {w w' : World} {v : Value} {xs : List ByteArray} (h : OwnStrs base w v xs) (hb : Below w.heap.size w w') : OwnStrs base w' v xs := by
  refine ⟨h.1, ?_⟩
  rcases h.2 with h' | ⟨g, cap, cur, hv, hbg, hg, h1, h2, h3, h4⟩
  · exact .inl h'
  · refine .inr ⟨g, cap, cur, hv, hbg, ?_, h1, h2, h3, h4⟩
    have hlt : g < w.heap.size := by
      by_cases hlt : g < w.heap.size
      · exact hlt
      · have : w.heap[g]? = none := by simpa using hlt
        rw [this] at hg; cases hg
    rw [hb.block g hlt]; exact hg

/-- The builtin append of a slice of strings, wherever it lies, to an owned one. -/
theorem wpList_append_strs {w : World} {ops : Array Oper} {rest : List Oper} {o : Oper} {a : Act} {Q : Exit → Act → World → Prop} (hgd : o.guard = none) (s x : Operand)
    (ho : o.op = .call { callee := .builtin .append, args := #[s, x], argTypes := #[37, 37] }) (base : Nat)
    (v : Value) (xs ys : List ByteArray) (hs : a.eval s = v) (hown : OwnStrs base w v xs) (ad : Option Addr) (m c : Nat) (hx : a.eval x = .slice ad m c) (hS : StrsV w ad m c ys)
    (hb : xs.length + m ≤ 4194304) (hbase : base ≤ w.heap.size)
    (h : ∀ v' w', OwnStrs base w' v' (xs ++ ys) → Below base w w' → wpList Tryd.prog ops Q rest (a.put o.dst v') w') : wpList Tryd.prog ops Q (o :: rest) a w := by
  obtain ⟨i0, hi, hz0, hz1, hz2⟩ := info_parts info_str
  have hm : ys.length = m := hS.1.1
  cases ad with
  | none =>
    have hm0 : m = 0 := by have := hS.2.1; have := hS.2.2 rfl; omega
    have hc0 : c = 0 := hS.2.2 rfl
    subst hm0 hc0
    obtain rfl : ys = [] := List.eq_nil_of_length_eq_zero hm
    refine wpList_append_own_none hgd s x 37 ho base 9 i0 1 Tryd.underlying37 hi v xs.length (xs.map Value.string) hs hown hx ?_
    exact h v w (by rw [List.append_nil]; exact hown) (Below.refl _ _)
  | some ad =>
    refine wpList_append_own w hgd s x 37 ho base 9 i0 (.string ByteArray.empty) 1 16 Tryd.underlying37 hi hz0 hz1 hz2 rfl (by decide) v xs.length (xs.map Value.string) hs hown
      ad m c (ys.map Value.string) hx (by rw [List.length_map, hm, Nat.mul_one]) ?_ ?_ (by unfold maxLen; omega) (by omega) hbase ?_
    · intro j u hu
      rw [List.getElem?_map] at hu
      cases hy : ys[j]? with
      | none => rw [hy] at hu; cases hu
      | some y =>
        rw [hy] at hu
        obtain ⟨b, of, ha, hc⟩ := hS.1.2 j y hy
        simp only [Option.some.injEq] at ha
        rw [ha, Go.WideShapes.add_plain, hc]
        exact hu
    · intro u hu
      obtain ⟨y, _, rfl⟩ := List.mem_map.1 hu
      rfl
    · intro v' w' hown' hg _
      refine h v' w' ?_ ((Below.refl _ _).grown hg hbase (fun k hk => (World.ownsRow.lt hown k hk).1))
      unfold OwnStrs
      rw [List.map_append, List.length_append, hm]
      exact hown'

theorem sumLen_append (xs ys : List ByteArray) : sumLen (xs ++ ys) = sumLen xs + sumLen ys := by
  unfold sumLen; rw [List.map_append, List.sum_append]
theorem sumLen_one (x : ByteArray) : sumLen [x] = x.size := by simp [sumLen]
/-- One string, written out. -/
theorem strsV_lit (w : World) (x : ByteArray) (t : TypeId) : StrsV (w.alloc (.cells #[.string x] t)) (some ⟨w.heap.size, 0, none⟩) 1 1 [x] := ⟨strsAt_lit w [x] t, Nat.le_refl _, fun e => by cases e⟩

end Go.Proofs.YtoaepbobbfgbgaaDoor.Wm
