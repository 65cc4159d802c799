/-
  strings.IndexAny and strings.ContainsAny at the two bytes dot and slash: the road of at most 8 bytes (range over the string: whatever bytes), and the road of more (the set of ASCII bytes), of any length that a string can have here; both under one statement. After the library's own worked texts on ASCII bytes.
-/
import Derived.Test.YtflkalhidikhaaaAny
namespace Go.Proofs.Ytflkalhidikhaaa.Wm
open Go Go.Shelf Go.RowKit Go.Lib
variable {P : Program} {ρ : Ren}

theorem ds_contains_lt {x : UInt8} (h : ([46, 47] : List UInt8).contains x = true) : x.toNat < 128 := by
  simp at h
  rcases h with rfl | rfl <;> decide

set_option maxHeartbeats 8000000 in
set_option maxRecDepth 1000000 in
theorem indexAny_short (L : Lays.n153 P ρ) (s : ByteArray) (w : World) (h8 : s.size ≤ 8) :
    Calls P (ρ.f 153) #[.string s, .string ⟨#[46, 47]⟩] w fun e w' => e = .returned (.int .i64 (Lib.indexAny (bs s) [46, 47])) ∧ Below w.heap.size w w' := by
  have h8z : decide ((8 : Int) < (s.size : Int)) = false := decide_eq_false (by omega)
  have t3 := L.t3; have a3 := L.a3; have z3 := L.z3; have v3 := L.v3
  have t4 := L.t4; have a4 := L.a4; have z4 := L.z4; have v4 := L.v4
  have t5 := L.t5; have a5 := L.a5; have z5 := L.z5; have v5 := L.v5
  have t9 := L.t9; have a9 := L.a9; have z9 := L.z9; have v9 := L.v9
  have t21 := L.t21; have a21 := L.a21; have z21 := L.z21; have v21 := L.v21
  have e152 : ∀ args w, (callFunc (ρ.f 152) args).run P w = .ok (.enter (ρ.f 152) args) w := enters_of L.f152 (by kernel_rfl) rfl
  have e226 : ∀ args w, (callFunc (ρ.f 226) args).run P w = .ok (.enter (ρ.f 226) args) w := enters_of L.f226 (by kernel_rfl) rfl
  go_enter L.f153, Body.n153_ntmps ρ
  go_wp2_with (go_at_fn (ρ.f 226); refine (Any.strings_shouldUseASCIISet { L with } _ _).mono ?_; rintro e w' ⟨rfl, hw⟩; rw [hw, h8z])
  go_loopg [9, 10] s.size (fun g _ _ wx => ∃ i : Nat, i + g = s.size ∧ wx.heap[w.heap.size]? = some (.stringIter s i) ∧ Below w.heap.size w wx ∧ Lib.NoAny (bs s) [46, 47] i)
  case atStart => exact ⟨0, by omega, World.iter_heap w s 0, (Below.refl _ _).alloc (Nat.le_refl _) _, Lib.NoAny.zero _ _⟩
  case round =>
    obtain ⟨i, hig, hit, hbw, hno⟩ := hrel
    have HN := Lib.hid hno
    have HW := Lib.hid hbw
    have HI := Lib.hid hit
    clear hno hbw
    cases gk with
    | zero =>
      obtain rfl : i = s.size := by omega
      have hnx := fun ty => run_next_end_at (P := P) wr w.heap.size s s.size ty hit (by omega)
      clear hit
      go_wp2
      go_ret
      exact ⟨by rw [Lib.indexAny_none (by rw [← Lib.size_eq]; exact HN.out)]; rfl, HW.out⟩
    | succ g =>
      have hi : i < s.size := by omega
      by_cases ha : (s.get! i).toNat < 128
      · have hx : s[i]'hi = s.get! i := (get_at s i hi).symm
        have hnx := fun ty => run_next_ascii_at (P := P) wr w.heap.size s i ty hit hi (by rw [hx]; exact ha)
        rw [hx] at hnx
        have Hx := Lib.hid (get_bs s i hi)
        generalize s.get! i = x at ha hnx Hx
        clear hx hit
        have HH := Lib.hid (iterAt_heap wr w.heap.size s i (i + 1) HI.out)
        have HB := Lib.hid (below_iterAt HW.out (Nat.le_refl _) s (i + 1))
        have hcon := Lib.contains_iff_indexByte [46, 47] x
        have hback : ((x.toNat : Int)).toNat.toUInt8 = x := by simp
        cases hin : ([46, 47] : List UInt8).contains x
        · rw [hin] at hcon
          have hlt : ¬ ((0 : Int) ≤ Lib.indexByte [46, 47] x) := of_decide_eq_false hcon.symm
          have HC := Lib.hid hin
          clear hcon hin
          go_wp2_with (go_at_fn (ρ.f 152); refine (Any.strings_IndexRune_ascii { L with } _ _ _ (by omega) (by omega)).mono ?_; rintro e w' ⟨rfl, hw⟩; rw [hw, hback])
          go_roundg g
          case measure => omega
          case rel => exact ⟨i + 1, by omega, HH.out, HB.out, HN.out.succ Hx.out HC.out⟩
        · rw [hin] at hcon
          have hge : (0 : Int) ≤ Lib.indexByte [46, 47] x := of_decide_eq_true hcon.symm
          have HC := Lib.hid hin
          clear hcon hin
          go_wp2_with (go_at_fn (ρ.f 152); refine (Any.strings_IndexRune_ascii { L with } _ _ _ (by omega) (by omega)).mono ?_; rintro e w' ⟨rfl, hw⟩; rw [hw, hback])
          go_ret
          exact ⟨by rw [Lib.indexAny_hit HN.out Hx.out HC.out]; rfl, HB.out⟩
      · obtain ⟨r, k, hd, hr0, hr1, hr2, hk1, hks, hby⟩ := decode_wide s i hi (by omega)
        have hnx := fun ty => run_next_any_at (P := P) wr w.heap.size s i ty hit hi
        rw [hd] at hnx
        clear hit ha hd
        have HH := Lib.hid (iterAt_heap wr w.heap.size s i (i + k) HI.out)
        have HB := Lib.hid (below_iterAt HW.out (Nat.le_refl _) s (i + k))
        have HM := Lib.hid (noAny_wide HN.out hks hby)
        have HR := Lib.hid hr2
        clear hby hr2
        have c := indexRune_wide (P := P) (ρ := ρ) { L with } r (wr.iterAt w.heap.size s (i + k)) hr0 hr1 HR.out
        have C := Lib.hid c
        clear c
        go_wp2_with (go_at_fn (ρ.f 152); refine C.out.mono ?_; rintro e w' ⟨rfl, hw⟩)
        have HX := Lib.hid hw
        clear hw
        have HL : Hid (w.heap.size < (wr.iterAt w.heap.size s (i + k)).heap.size) := (Array.getElem?_eq_some_iff.1 HH.out).1
        go_roundg (s.size - (i + k))
        case measure => omega
        case rel => exact ⟨i + k, by omega, (HX.out.block _ HL.out).trans HH.out, HB.out.trans (HX.out.mono (Nat.le_of_lt HL.out)), HM.out⟩

theorem ds_lt : ∀ (j : Nat) (b : UInt8), (bs ⟨#[46, 47]⟩)[j]? = some b → b.toNat < 128 := by
  intro j b h
  refine ds_contains_lt ?_
  exact List.contains_iff_mem.2 (List.mem_of_getElem? h)

set_option maxHeartbeats 8000000 in
set_option maxRecDepth 1000000 in
theorem indexAny_long (L : Lays.n153 P ρ) (hv116 : ∀ w, (zeroValue (ρ.t 116)).run P w = .ok (.agg (Array.replicate 256 (.bool false))) w) (hi116 : (P.info? (ρ.t 116)).map (·.size) = some 256) (s : ByteArray) (w : World)
    (h8 : 8 < s.size) (hs : s.size ≤ 140737488355328) :
    Calls P (ρ.f 153) #[.string s, .string ⟨#[46, 47]⟩] w fun e w' => e = .returned (.int .i64 (Lib.indexAny (bs s) [46, 47])) ∧ w' = ((w.alloc (.cells (Lib.setCells [46, 47]) (ρ.t 116))).alloc (.cells (Lib.setCells [46, 47]) (ρ.t 116))) := by
  have hM := Any.strings_makeASCIISet { L with } hv116 hi116 ⟨#[46, 47]⟩ w (by decide) ds_lt
  have h8z : decide ((8 : Int) < (s.size : Int)) = true := decide_eq_true (by omega)
  have hsc : (storeCells ⟨w.heap.size + 1, 0, none⟩ (Lib.setCells [46, 47]).toList 0).run P ((w.alloc (.cells (Lib.setCells [46, 47]) (ρ.t 116))).alloc (.cells (Array.replicate 256 (.bool false)) (ρ.t 116))) = .ok () ((w.alloc (.cells (Lib.setCells [46, 47]) (ρ.t 116))).alloc (.cells (Lib.setCells [46, 47]) (ρ.t 116))) := by
    have := run_storeCells_new (P := P) (w.alloc (.cells (Lib.setCells [46, 47]) (ρ.t 116))) (ρ.t 116) (Array.replicate 256 (.bool false)) (Lib.setCells [46, 47]) (by rw [Lib.setCells_size]; exact hi116) (by rw [Lib.setCells_size, Array.size_replicate]) (Lib.setCells_one _)
    simpa using this
  have hcellAt : ∀ x : UInt8, ((w.alloc (.cells (Lib.setCells [46, 47]) (ρ.t 116))).alloc (.cells (Lib.setCells [46, 47]) (ρ.t 116))).cell? ⟨w.heap.size + 1, x.toNat, none⟩ = some (.bool (([46, 47] : List UInt8).contains x)) := fun x => by
    rw [World.cell?_alloc_at _ _ _ _ (by simp), Lib.setCells_at]
  have HC := Lib.hid hcellAt
  clear hcellAt
  have hM' : Calls P (ρ.f 227) #[.string ⟨#[46, 47]⟩] w fun e w' => e = .returned (.tuple #[.agg (Lib.setCells [46, 47]), .bool true]) ∧ w' = w.alloc (.cells (Lib.setCells [46, 47]) (ρ.t 116)) := hM
  clear hM
  have hsz := Lib.setCells_size [46, 47]
  generalize Lib.setCells [46, 47] = C at *
  have t3 := L.t3; have a3 := L.a3; have z3 := L.z3; have v3 := L.v3
  have t4 := L.t4; have a4 := L.a4; have z4 := L.z4; have v4 := L.v4
  have t5 := L.t5; have a5 := L.a5; have z5 := L.z5; have v5 := L.v5
  have t9 := L.t9; have a9 := L.a9; have z9 := L.z9; have v9 := L.v9
  have t21 := L.t21; have a21 := L.a21; have z21 := L.z21; have v21 := L.v21
  have t116 := L.t116
  have e226 : ∀ args w, (callFunc (ρ.f 226) args).run P w = .ok (.enter (ρ.f 226) args) w := enters_of L.f226 (by kernel_rfl) rfl
  have e227 : ∀ args w, (callFunc (ρ.f 227) args).run P w = .ok (.enter (ρ.f 227) args) w := enters_of L.f227 (by kernel_rfl) rfl
  have e228 : ∀ args w, (callFunc (ρ.f 228) args).run P w = .ok (.enter (ρ.f 228) args) w := enters_of L.f228 (by kernel_rfl) rfl
  go_enter L.f153, Body.n153_ntmps ρ
  go_wp2_with (first
    | (go_at_fn (ρ.f 226); refine (Any.strings_shouldUseASCIISet { L with } _ _).mono ?_; rintro e w' ⟨rfl, hw⟩; rw [hw, h8z])
    | (go_at_fn (ρ.f 227); refine hM'.mono ?_; rintro e w' ⟨rfl, hw⟩; rw [hw]))
  simp only [L.z116, Result.andThen, ↓reduceIte, hsc]
  rw [Oper.upon_skip]
  go_wp2
  clear hM' hsc
  go_loopg [8] s.size (fun g s8 wx => ∃ i : Nat, i + g = s.size ∧ s8 = .int .i64 i ∧ wx = ((w.alloc (.cells C (ρ.t 116))).alloc (.cells C (ρ.t 116))) ∧ Lib.NoAny (bs s) [46, 47] i)
  case atStart => exact ⟨0, by omega, rfl, rfl, Lib.NoAny.zero _ _⟩
  case round =>
    obtain ⟨i, hig, rfl, rfl, hno⟩ := hrel
    have HN := Lib.hid hno
    clear hno
    cases gk with
    | zero =>
      obtain rfl : i = s.size := by omega
      have hiz : ¬ ((s.size : Int) < (s.size : Int)) := by omega
      go_wp2
      go_ret
      exact ⟨by rw [Lib.indexAny_none (by rw [← Lib.size_eq]; exact HN.out)]; rfl, rfl⟩
    | succ g =>
      have hi : i < s.size := by omega
      have hiz : (i : Int) < (s.size : Int) := by omega
      obtain ⟨x, hx⟩ : ∃ x : UInt8, s[i]'hi = x := ⟨_, rfl⟩
      have Hx := Lib.hid (show (bs s)[i]? = some x by rw [← hx]; exact Lib.data_getElem? s i hi)
      have hcx := HC.out x
      cases hin : ([46, 47] : List UInt8).contains x <;> rw [hin] at hcx
      · have HD := Lib.hid hin
        clear hin
        go_wp2_with (go_at_fn (ρ.f 228); refine (Any.asciiSet_contains { L with } _ x _ _ hcx).mono ?_; rintro e w' ⟨rfl, hw⟩; rw [hw])
        go_roundg g
        case measure => omega
        case rel => exact ⟨i + 1, by omega, by first | rfl | simp, rfl, HN.out.succ Hx.out HD.out⟩
      · have HD := Lib.hid hin
        clear hin
        go_wp2_with (go_at_fn (ρ.f 228); refine (Any.asciiSet_contains { L with } _ x _ _ hcx).mono ?_; rintro e w' ⟨rfl, hw⟩; rw [hw])
        go_ret
        exact ⟨by rw [Lib.indexAny_hit HN.out Hx.out HD.out]; rfl, rfl⟩

/-- strings.IndexAny at the dot and the slash, whatever string. -/
theorem indexAny_ds (L : Lays.n153 P ρ) (hv116 : ∀ w, (zeroValue (ρ.t 116)).run P w = .ok (.agg (Array.replicate 256 (.bool false))) w) (hi116 : (P.info? (ρ.t 116)).map (·.size) = some 256) (s : ByteArray) (w : World) (hs : s.size ≤ 140737488355328) :
    Calls P (ρ.f 153) #[.string s, .string ⟨#[46, 47]⟩] w fun e w' => e = .returned (.int .i64 (Lib.indexAny (bs s) [46, 47])) ∧ Below w.heap.size w w' := by
  by_cases h8 : s.size ≤ 8
  · exact indexAny_short L s w h8
  · refine (indexAny_long L hv116 hi116 s w (by omega) hs).mono fun e w' ⟨h1, h2⟩ => ⟨h1, ?_⟩
    rw [h2]
    exact ((Below.refl _ _).alloc (Nat.le_refl _) _).alloc (by simp) _

set_option maxHeartbeats 1000000 in
/-- strings.ContainsAny at the dot and the slash, whatever string. -/
theorem containsAny_ds (L : Lays.n150 P ρ) (hv116 : ∀ w, (zeroValue (ρ.t 116)).run P w = .ok (.agg (Array.replicate 256 (.bool false))) w) (hi116 : (P.info? (ρ.t 116)).map (·.size) = some 256) (s : ByteArray) (w : World) (hs : s.size ≤ 140737488355328) :
    Calls P (ρ.f 150) #[.string s, .string ⟨#[46, 47]⟩] w fun e w' => e = .returned (.bool (Lib.containsAny (bs s) [46, 47])) ∧ Below w.heap.size w w' := by
  have c := indexAny_ds { L with } hv116 hi116 s w hs
  have t3 := L.t3; have a3 := L.a3; have z3 := L.z3; have v3 := L.v3
  have t4 := L.t4; have a4 := L.a4; have z4 := L.z4; have v4 := L.v4
  have t9 := L.t9; have a9 := L.a9; have z9 := L.z9; have v9 := L.v9
  have e153 : ∀ args w, (callFunc (ρ.f 153) args).run P w = .ok (.enter (ρ.f 153) args) w := enters_of L.f153 (by kernel_rfl) rfl
  go_enter L.f150, Body.n150_ntmps ρ
  go_wp2_with (go_at_fn (ρ.f 153); refine c.mono ?_; rintro e w' ⟨rfl, hw⟩)
  go_ret
  exact ⟨rfl, hw⟩
end Go.Proofs.Ytflkalhidikhaaa.Wm
