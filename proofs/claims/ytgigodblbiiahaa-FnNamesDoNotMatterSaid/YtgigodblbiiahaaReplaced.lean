/-
  The contract of the laws' helper 'replaced': one byte put in the place of another one.
-/
import Derived.Test.YtgigodblbiiahaaImpl
import Derived.Test.YtgigodblbiiahaaPlain2
import Derived.Laws.IdiomStrings
import Derived.Laws.BytesArg
namespace Go.Proofs.Ytgigodblbiiahaa.Wm
open Go Go.RowKit

def swap (x y : UInt8) (c : UInt8) : UInt8 := if c = x then y else c

/-- The bytes l lie, one a cell, at the head of block B, and may be written. -/
def RowOf (w : World) (B : Nat) (l : List UInt8) : Prop := ∀ (j : Nat) c, l[j]? = some c → w.cell? ⟨B, j, none⟩ = some (.int .u8 c.toNat) ∧ w.frozen? ⟨B, j, none⟩ = false

theorem RowOf.set {w : World} {B : Nat} {l : List UInt8} (h : RowOf w B l) (k : Nat) (y : UInt8) : RowOf (w.setCell ⟨B, k, none⟩ (.int .u8 y.toNat)) B (l.set k y) := by
  intro j c hj
  rw [List.getElem?_set] at hj
  split at hj
  · rename_i e
    subst e
    split at hj
    · rename_i hk
      cases hj
      obtain ⟨h1, h2⟩ := h k _ (List.getElem?_eq_getElem hk)
      exact ⟨World.cell?_setCell_same _ _ _ h1, by rw [World.frozen?_setCell]; exact h2⟩
    · cases hj
  · rename_i e
    obtain ⟨h1, h2⟩ := h j c hj
    refine ⟨?_, by rw [World.frozen?_setCell]; exact h2⟩
    rw [World.cell?_setCell_other _ _ _ _ (fun e' => e (congrArg Addr.off e'))]
    exact h1

/-- The list behind k rounds. -/
def part (x y : UInt8) (l : List UInt8) (k : Nat) : List UInt8 := (l.take k).map (swap x y) ++ l.drop k
theorem part_len (x y : UInt8) (l : List UInt8) (k : Nat) : (part x y l k).length = l.length := by
  unfold part
  rw [List.length_append, List.length_map, List.length_take, List.length_drop]; omega
theorem part_at (x y : UInt8) (l : List UInt8) (k : Nat) (h : k < l.length) : (part x y l k)[k]? = some l[k] := by
  unfold part
  rw [List.getElem?_append_right (by rw [List.length_map, List.length_take]; omega), List.length_map, List.length_take, Nat.min_eq_left (by omega), Nat.sub_self, List.getElem?_drop]
  exact List.getElem?_eq_getElem h
theorem part_succ (x y : UInt8) (l : List UInt8) (k : Nat) (h : k < l.length) : part x y l (k + 1) = (part x y l k).set k (swap x y l[k]) := by
  unfold part
  rw [List.take_succ_eq_append_getElem h, List.map_append, List.map_cons, List.map_nil, List.append_assoc, List.singleton_append,
    List.set_append_right _ _ (by rw [List.length_map, List.length_take]; omega), List.length_map, List.length_take, Nat.min_eq_left (by omega), Nat.sub_self, List.drop_eq_getElem_cons h, List.set_cons_zero]
theorem part_same (x y : UInt8) (l : List UInt8) (k : Nat) (h : k < l.length) (hne : l[k] ≠ x) : part x y l (k + 1) = part x y l k := by
  rw [part_succ x y l k h, swap, if_neg hne]
  exact List.ext_getElem? (fun j => by
    rw [List.getElem?_set]
    split
    · rename_i e
      subst e
      rw [if_pos (by rw [part_len]; exact h), part_at x y l k h]
    · rfl)
theorem strOfNums_bs (l : List UInt8) : strOfNums (l.map fun c => (c.toNat : Int)) = ⟨l.toArray⟩ := by
  unfold strOfNums
  rw [List.map_map]
  congr 2
  conv => rhs; rw [← List.map_id l]
  exact List.map_congr_left (fun c _ => by simp)

set_option maxHeartbeats 1600000 in
theorem replaced_any (s : ByteArray) (x y : UInt8) (w : World) (hs : s.size ≤ 140737488355328) :
    Calls Try.prog 16 #[.string s, .int .u8 x.toNat, .int .u8 y.toNat] w (StrIs ((bs s).map (swap x y)) w) := by
  have hconv := run_bytes_of_string (P := Try.prog) w 9 41 5 s Try.underlying9 Try.underlying41 Try.underlying5
  have hrow : RowOf (w.drew.alloc (.cells (bytesRow s (grownCap w s.size 0 5)) 5 ((bytesRow s (grownCap w s.size 0 5)).size, (bytesRow s (grownCap w s.size 0 5)).size + 1))) w.heap.size (bs s) := by
    intro j c hj
    have hlt : j < s.data.size := by
      have := (List.getElem?_eq_some_iff.1 hj).1
      simpa using this
    have hc : s.data[j] = c := by
      have := (List.getElem?_eq_some_iff.1 hj).2
      simpa using this
    have hat := bytesRow_at s (grownCap w s.size 0 5) j hlt
    have hsz : j < (bytesRow s (grownCap w s.size 0 5)).size := (Array.getElem?_eq_some_iff.1 hat).1
    have hh : ∀ (C : Array Value) (p : Nat × Nat), (w.drew.alloc (.cells C 5 p)).heap[w.heap.size]? = some (.cells C 5 p) := fun C p => by
      show (w.heap.push _)[w.heap.size]? = _
      simp
    refine ⟨?_, ?_⟩
    · simp only [World.cell?, hh]
      rw [hc] at hat
      exact hat
    · simp only [World.frozen?, hh]
      simp; omega
  have hb0 : Below w.heap.size w (w.drew.alloc (.cells (bytesRow s (grownCap w s.size 0 5)) 5 ((bytesRow s (grownCap w s.size 0 5)).size, (bytesRow s (grownCap w s.size 0 5)).size + 1))) := (Below.refl _ _).drew.alloc (Nat.le_refl _) _
  generalize w.drew.alloc (.cells (bytesRow s (grownCap w s.size 0 5)) 5 ((bytesRow s (grownCap w s.size 0 5)).size, (bytesRow s (grownCap w s.size 0 5)).size + 1)) = W at hconv hrow hb0
  generalize grownCap w s.size 0 5 = cap at hconv
  have HR := Lib.hid hrow
  clear hrow
  go_enter Try.func16, Try.ntmps16
  go_wp2
  clear hconv
  go_loopw [13] (fun i wr => ∃ k : Nat, k ≤ s.size ∧ i = .int .i64 k ∧ Hid (RowOf wr w.heap.size (part x y (bs s) k)) ∧ Below w.heap.size w wr) (fun i _ => s.size - (intOf i).toNat)
  case atStart => exact ⟨0, Nat.zero_le _, rfl, HR.out, hb0⟩
  case round =>
    obtain ⟨k, hk, rfl, hrow, hbw⟩ := hrel
    by_cases hlt : k < s.size
    · have hl : k < (bs s).length := by rw [← size_bs]; exact hlt
      obtain ⟨c, hc⟩ : ∃ c, (bs s)[k] = c := ⟨_, rfl⟩
      obtain ⟨hcell, hfz⟩ := hrow.out k c (by rw [part_at x y _ k hl, hc])
      by_cases hx : c = x
      · have tx : ((c.toNat : Int) == (x.toNat : Int)) = true := by rw [hx]; simp
        have HN : Hid (RowOf (wr.setCell ⟨w.heap.size, k, none⟩ (.int .u8 y.toNat)) w.heap.size (part x y (bs s) (k + 1))) := by
          have := hrow.out.set k y
          rwa [show (part x y (bs s) k).set k y = part x y (bs s) (k + 1) by rw [part_succ x y _ k hl, hc, swap, if_pos hx]] at this
        have HB := Lib.hid (hbw.setCell (p := ⟨w.heap.size, k, none⟩) (Nat.le_refl _) (.int .u8 y.toNat))
        clear hrow hx hc hl
        go_wp2
        go_roundw
        case rel => exact ⟨k + 1, by omega, by go_num, HN.out, HB.out⟩
        case measure => simp [intOf]; omega
      · have tx : ((c.toNat : Int) == (x.toNat : Int)) = false := by rw [Lib.Pa.beq_lit]; simpa using hx
        have HN : Hid (RowOf wr w.heap.size (part x y (bs s) (k + 1))) := by
          show RowOf _ _ _
          rw [part_same x y _ k hl (by rw [hc]; exact hx)]
          exact hrow.out
        clear hrow hx hc hl
        go_wp2
        go_roundw
        case rel => exact ⟨k + 1, by omega, by go_num, HN.out, hbw⟩
        case measure => simp [intOf]; omega
    · obtain rfl : k = s.size := by omega
      have hp : part x y (bs s) s.size = (bs s).map (swap x y) := by
        unfold part
        rw [size_bs, List.take_length, List.drop_length, List.append_nil]
      have hconv := run_convert_bytes_arg (P := Try.prog) wr 41 5 Try.underlying41 Try.underlying5 w.heap.size 0 s.size cap (((bs s).map (swap x y)).map fun c => (c.toNat : Int)) (by rw [List.length_map, List.length_map, size_bs]) (fun i hi => by
        have hi' : i < ((bs s).map (swap x y)).length := by rw [List.length_map, ← size_bs]; exact hi
        have := (hrow.out i _ (by rw [hp]; exact List.getElem?_eq_getElem hi')).1
        rw [Nat.zero_add, this, List.getD_eq_getElem?_getD, List.getElem?_map, List.getElem?_eq_getElem hi']
        rfl) 9 Try.underlying9
      rw [strOfNums_bs] at hconv
      clear hrow hp
      go_wp2
      go_ret
      exact ⟨_, rfl, rfl, hbw⟩
end Go.Proofs.Ytgigodblbiiahaa.Wm
