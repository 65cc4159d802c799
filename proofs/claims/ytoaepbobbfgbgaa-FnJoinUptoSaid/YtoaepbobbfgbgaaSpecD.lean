/-
  The contract of the reference's 'places': every place that it finds is one at which a rule may be applied; where it finds none, no rule can be.
-/
import Derived.Test.YtoaepbobbfgbgaaSpecB
import Derived.Test.YtoaepbobbfgbgaaPlain4
namespace Go.Proofs.Ytoaepbobbfgbgaa.Wm
open Go Go.RowKit

/-- Places, as cells. -/
def placeCells (ps : List (Nat × Nat)) : List Value := ps.flatMap fun p => [.int .i64 p.1, .int .i64 p.2]
theorem placeCells_len (ps : List (Nat × Nat)) : (placeCells ps).length = ps.length * 2 := by
  induction ps with
  | nil => rfl
  | cons p r ih => unfold placeCells at ih ⊢; rw [List.flatMap_cons, List.length_append, ih, List.length_cons]; simp only [List.length_cons, List.length_nil]; omega
theorem placeCells_at : ∀ (ps : List (Nat × Nat)) (i : Nat) (p : Nat × Nat), ps[i]? = some p → (placeCells ps)[i * 2]? = some (.int .i64 p.1) ∧ (placeCells ps)[i * 2 + 1]? = some (.int .i64 p.2)
  | [], i, p, h => by simp at h
  | q :: r, 0, p, h => by
    rw [List.getElem?_cons_zero] at h
    cases h
    exact ⟨rfl, rfl⟩
  | q :: r, i + 1, p, h => by
    rw [List.getElem?_cons_succ] at h
    have ih := placeCells_at r i p h
    have e : placeCells (q :: r) = .int .i64 q.1 :: .int .i64 q.2 :: placeCells r := rfl
    rw [e, show (i + 1) * 2 = i * 2 + 1 + 1 by omega, List.getElem?_cons_succ, List.getElem?_cons_succ, show i * 2 + 1 + 1 + 1 = (i * 2 + 1) + 1 + 1 by omega, List.getElem?_cons_succ, List.getElem?_cons_succ]
    exact ih
/-- A slice of places that the call itself made, or nil. -/
def OwnPlaces (base : Nat) (w : World) (v : Value) (ps : List (Nat × Nat)) : Prop := w.ownsRow base 42 2 v ps.length (placeCells ps)
theorem info_place : (Try.prog.info? 42).map (fun i => (i.zero, i.size, i.bytes)) = some (some (.agg #[.int .i64 0, .int .i64 0]), 2, 16) := by kernel_rfl
theorem OwnPlaces.v {base : Nat} {w : World} {v : Value} {ps : List (Nat × Nat)} (h : OwnPlaces base w v ps) : ∃ a c, v = .slice a ps.length c ∧
    ∀ (i : Nat) p, ps[i]? = some p → ∃ g, a = some ⟨g, 0, none⟩ ∧ ps.length ≤ c ∧ w.cell? ⟨g, i * 2, none⟩ = some (.int .i64 p.1) ∧ w.cell? ⟨g, i * 2 + 1, none⟩ = some (.int .i64 p.2) := by
  have h' := h
  rcases h.2 with ⟨hv, hn⟩ | ⟨g, cap, cur, hv, _, _, hc, _⟩
  · refine ⟨none, 0, by rw [hv, hn], fun i p hp => ?_⟩
    obtain rfl : ps = [] := List.eq_nil_of_length_eq_zero hn
    simp at hp
  · unfold OwnPlaces at h'
    rw [hv] at h'
    refine ⟨_, cap, hv, fun i p hp => ⟨g, rfl, hc, ?_⟩⟩
    have hi := (List.getElem?_eq_some_iff.1 hp).1
    obtain ⟨h1, h2⟩ := placeCells_at ps i p hp
    exact ⟨by rw [h'.cellAt (i * 2) (by omega)]; exact h1, by rw [h'.cellAt (i * 2 + 1) (by omega)]; exact h2⟩

/-- The builtin append of one place, written out, to an owned slice. -/
theorem wpList_append_place {w : World} {ops : Array Oper} {rest : List Oper} {o : Oper} {a : Act} {Q : Exit → Act → World → Prop} (hgd : o.guard = none) (s x : Operand)
    (ho : o.op = .call { callee := .builtin .append, args := #[s, x], argTypes := #[39, 39] }) (base : Nat)
    (v : Value) (ps : List (Nat × Nat)) (hs : a.eval s = v) (hown : OwnPlaces base w v ps) (F T : Int) (f t : Nat) (hF : F = f) (hT : T = t) (hx : a.eval x = .slice (some ⟨w.heap.size, 0, none⟩) 1 1)
    (hb : ps.length + 1 ≤ 8388608) (hbase : base ≤ w.heap.size)
    (h : ∀ v' w', OwnPlaces base w' v' (ps ++ [(f, t)]) → Below base w w' → wpList Try.prog ops Q rest (a.put o.dst v') w') : wpList Try.prog ops Q (o :: rest) a (w.alloc (.cells #[.int .i64 F, .int .i64 T] 42)) := by
  subst hF hT
  obtain ⟨i0, hi, hz0, hz1, hz2⟩ := info_parts info_place
  have hb1 : Below base w (w.alloc (.cells #[.int .i64 f, .int .i64 t] 42)) := (Below.refl _ _).alloc hbase _
  have hown1 : OwnPlaces base (w.alloc (.cells #[.int .i64 f, .int .i64 t] 42)) v ps := World.ownsRow.alloc hown _
  have hget : (w.alloc (.cells #[.int .i64 f, .int .i64 t] 42)).heap[w.heap.size]? = some (.cells #[.int .i64 f, .int .i64 t] 42) := by
    show (w.heap.push _)[w.heap.size]? = _
    simp
  refine wpList_append_own _ hgd s x 39 ho base 42 i0 _ 2 16 Try.underlying39 hi hz0 hz1 hz2 rfl (by decide) v ps.length (placeCells ps) hs hown1
    ⟨w.heap.size, 0, none⟩ 1 1 [.int .i64 f, .int .i64 t] hx rfl ?_ ?_ (by unfold maxLen; omega) (by omega) (Nat.le_trans hbase hb1.size) ?_
  · intro j u hu
    rw [Go.WideShapes.add_plain]
    simp only [World.cell?, hget, Nat.zero_add]
    rcases j with _ | _ | j
    · exact hu
    · exact hu
    · simp at hu
  · intro u hu
    rcases List.mem_cons.1 hu with rfl | hu
    · rfl
    · rw [List.mem_singleton] at hu; subst hu; rfl
  · intro v' w' hown' hg _
    refine h v' w' ?_ (hb1.trans ((Below.refl _ _).grown hg (Nat.le_trans hbase hb1.size) (fun k hk => (World.ownsRow.lt hown1 k hk).1)))
    unfold OwnPlaces
    rw [List.length_append, List.length_singleton]
    have e : placeCells (ps ++ [(f, t)]) = placeCells ps ++ [.int .i64 f, .int .i64 t] := by unfold placeCells; rw [List.flatMap_append]; rfl
    rw [e]; exact hown'

set_option maxHeartbeats 8000000 in
theorem places_any (ro : Bool) (a : Option Addr) (n c : Nat) (xs : List ByteArray) (w : World) (h : StrsV w a n c xs) (hl : n ≤ 2097153) :
    Calls Try.prog 35 #[.bool ro, .slice a n c] w fun e w' => ∃ v ps, e = .returned v ∧ OwnPlaces w.heap.size w' v ps ∧ Inv ro (xs.map bs) ps (C4 ro (xs.map bs)) ∧ ps.length ≤ 3 * n + 1 ∧ Below w.heap.size w w' := by
  have HV := Lib.hid h
  have hn : xs.length = n := h.1.1
  have HN := Lib.hid hn
  have hat : ∀ (k : Nat) (x : ByteArray), xs[k]? = some x → (xs.map bs)[k]? = some (bs x) := fun k x hx => by rw [List.getElem?_map, hx]; rfl
  have HAT := Lib.hid hat
  have LN := Lib.hid (show (xs.map bs).length = n by rw [List.length_map]; exact hn)
  clear h hn hat
  go_enter Try.func35, Try.ntmps35
  go_wp2
  go_loopw [5, 14] (fun v i wr => ∃ (v' : Value) (ps : List (Nat × Nat)) (k : Nat), v = v' ∧ i = .int .i64 k ∧ k ≤ n ∧ Hid (OwnPlaces w.heap.size wr v' ps) ∧ Hid (Inv ro (xs.map bs) ps (C1 (xs.map bs) k)) ∧ ps.length ≤ k ∧ Below w.heap.size w wr) (fun _ i _ => n - (intOf i).toNat)
  case atStart => exact ⟨_, [], 0, rfl, rfl, Nat.zero_le _, World.ownsRow_nil _ _ _ _, ⟨(fun p hp => by cases hp), fun _ => c1_zero _⟩, by simp, Below.refl _ _⟩
  case round =>
    obtain ⟨v, ps, k, rfl, rfl, hk, hown, hinv, hps, hbw⟩ := hrel
    by_cases hlt : k < n
    · obtain ⟨b, o, rfl, hb, hcells⟩ := (HV.out.below hbw).1.addr (by omega)
      have hkx : k < xs.length := by have := HN.out; omega
      have hcell := hcells k _ (List.getElem?_eq_getElem hkx)
      have HE := Lib.hid (HAT.out k _ (List.getElem?_eq_getElem hkx))
      obtain ⟨x, hx⟩ : ∃ x, xs[k] = x := ⟨_, rfl⟩
      rw [hx] at hcell HE
      have HZ := Lib.hid hbw.size
      have HO := Lib.hid hown.out
      clear hcells hx hkx hown
      by_cases hx0 : bs x = []
      · have tx := empty_true hx0
        have HI := Lib.hid (hinv.out.add (rule_skip HE.out (.inl hx0)) (C1 (xs.map bs) (k + 1)))
        clear hinv hx0 HE
        have hcap : ps.length + 1 ≤ 8388608 := by omega
        go_wp2_with (at_builtin; refine wpList_append_place rfl _ _ rfl w.heap.size _ _ rfl HO.out _ _ (k) (k + 1) (by omega) (by omega) rfl hcap HZ.out ?_; intro v6 w6 hown6 hb6)
        have HB6 := Lib.hid (hbw.trans hb6)
        have HO6 := Lib.hid hown6
        clear hown6 hb6
        go_wp2
        go_roundw
        case rel => exact ⟨_, _, k + 1, rfl, by go_num, by omega, HO6, HI, by rw [List.length_append, List.length_singleton]; omega, HB6.out⟩
        case measure => simp [intOf]; omega
      · have tx := empty_false hx0
        have HI := Lib.hid (hinv.out.imp (c1_next HE.out hx0))
        clear hinv hx0 HE
        go_wp2
        go_roundw
        case rel => exact ⟨_, _, k + 1, rfl, by go_num, by omega, HO, HI, by omega, hbw⟩
        case measure => simp [intOf]; omega
    · obtain rfl : n = k := by omega
      obtain ⟨w1, rfl⟩ : ∃ w1 : World, w1 = wr := ⟨_, rfl⟩
      have HO1 := Lib.hid hown.out
      have HI1 := Lib.hid (hinv.out.imp (C' := C2 (xs.map bs) 0) (fun h => c2_zero (by rw [LN.out]; exact h)))
      clear hinv hown
      go_wp2
      go_loopw [5, 31] (fun v i wr => ∃ (v' : Value) (ps : List (Nat × Nat)) (k : Nat), v = v' ∧ i = .int .i64 k ∧ k ≤ n ∧ Hid (OwnPlaces w.heap.size wr v' ps) ∧ Hid (Inv ro (xs.map bs) ps (C2 (xs.map bs) k)) ∧ ps.length ≤ n + k ∧ Below w.heap.size w wr) (fun _ i _ => n - (intOf i).toNat)
      case atStart => exact ⟨_, _, 0, rfl, rfl, Nat.zero_le _, HO1, HI1, by omega, hbw⟩
      case round =>
        obtain ⟨v, ps, k, rfl, rfl, hk, hown, hinv, hps, hbw⟩ := hrel
        by_cases hlt : k < n
        · obtain ⟨b, o, rfl, hb, hcells⟩ := (HV.out.below hbw).1.addr (by omega)
          have hkx : k < xs.length := by have := HN.out; omega
          have hcell := hcells k _ (List.getElem?_eq_getElem hkx)
          have HE := Lib.hid (HAT.out k _ (List.getElem?_eq_getElem hkx))
          obtain ⟨x, hx⟩ : ∃ x, xs[k] = x := ⟨_, rfl⟩
          rw [hx] at hcell HE
          have HZ := Lib.hid hbw.size
          have HO := Lib.hid hown.out
          clear hcells hx hkx hown
          by_cases hx0 : bs x = [46]
          · have tx := lit_true hx0
            have HI := Lib.hid (hinv.out.add (rule_skip HE.out (.inr hx0)) (C2 (xs.map bs) (k + 1)))
            clear hinv hx0 HE
            have hcap : ps.length + 1 ≤ 8388608 := by omega
            go_wp2_with (at_builtin; refine wpList_append_place rfl _ _ rfl w.heap.size _ _ rfl HO.out _ _ (k) (k + 1) (by omega) (by omega) rfl hcap HZ.out ?_; intro v6 w6 hown6 hb6)
            have HB6 := Lib.hid (hbw.trans hb6)
            have HO6 := Lib.hid hown6
            clear hown6 hb6
            go_wp2
            go_roundw
            case rel => exact ⟨_, _, k + 1, rfl, by go_num, by omega, HO6, HI, by rw [List.length_append, List.length_singleton]; omega, HB6.out⟩
            case measure => simp [intOf]; omega
          · have tx := lit_false hx0
            have HI := Lib.hid (hinv.out.imp (c2_next HE.out hx0))
            clear hinv hx0 HE
            go_wp2
            go_roundw
            case rel => exact ⟨_, _, k + 1, rfl, by go_num, by omega, HO, HI, by omega, hbw⟩
            case measure => simp [intOf]; omega
        · obtain rfl : n = k := by omega
          obtain ⟨w2, rfl⟩ : ∃ w1 : World, w1 = wr := ⟨_, rfl⟩
          have HO2 := Lib.hid hown.out
          have HI2 := Lib.hid (hinv.out.imp (C' := C3 (xs.map bs) 0) (fun h => c3_zero (by rw [LN.out]; exact h)))
          clear hinv hown
          go_wp2
          go_loopw [5, 48] (fun v i wr => ∃ (v' : Value) (ps : List (Nat × Nat)) (k : Nat), v = v' ∧ i = .int .i64 k ∧ k ≤ n ∧ Hid (OwnPlaces w.heap.size wr v' ps) ∧ Hid (Inv ro (xs.map bs) ps (C3 (xs.map bs) k)) ∧ ps.length ≤ 2 * n + k ∧ Below w.heap.size w wr) (fun _ i _ => n - (intOf i).toNat)
          case atStart => exact ⟨_, _, 0, rfl, rfl, Nat.zero_le _, HO2, HI2, by omega, hbw⟩
          case round =>
            obtain ⟨v, ps, k, rfl, rfl, hk, hown, hinv, hps, hbw⟩ := hrel
            by_cases hlt : k < n
            · obtain ⟨b, o, rfl, hb, hcells⟩ := (HV.out.below hbw).1.addr (by omega)
              have hkx : k < xs.length := by have := HN.out; omega
              have hcell := hcells k _ (List.getElem?_eq_getElem hkx)
              have HE := Lib.hid (HAT.out k _ (List.getElem?_eq_getElem hkx))
              obtain ⟨x, hx⟩ : ∃ x, xs[k] = x := ⟨_, rfl⟩
              rw [hx] at hcell HE
              have HZ := Lib.hid hbw.size
              have HO := Lib.hid hown.out
              by_cases hx0 : bs x = [46, 46]
              · have tx : (x.toList == [46, 46]) = true := lit_true hx0
                rw [hx0] at HE
                by_cases hk0 : k = 0
                · subst hk0
                  rw [Nat.add_zero] at hcell
                  have HI := Lib.hid (hinv.out.imp c3_first)
                  clear hinv hx0 HE hcells hx hkx hown
                  go_wp2
                  go_roundw
                  case rel => exact ⟨_, _, 0 + 1, rfl, by go_num, by omega, HO, HI, by omega, hbw⟩
                  case measure => simp [intOf]; omega
                · obtain ⟨j, rfl⟩ : ∃ j, k = j + 1 := ⟨k - 1, by omega⟩
                  have hjx : j < xs.length := by omega
                  have hcell2 := hcells j _ (List.getElem?_eq_getElem hjx)
                  have HE2 := Lib.hid (HAT.out j _ (List.getElem?_eq_getElem hjx))
                  obtain ⟨y, hy⟩ : ∃ y, xs[j] = y := ⟨_, rfl⟩
                  rw [hy] at hcell2 HE2
                  have hpos : (0 : Int) < ((j + 1 : Nat) : Int) := by omega
                  clear hcells hx hkx hown hy hjx hx0
                  by_cases y2 : bs y = [46, 46]
                  · have ty : (y.toList == [46, 46]) = true := lit_true y2
                    have HI := Lib.hid (hinv.out.imp (c3_prev HE2.out (.inl y2)))
                    clear hinv HE HE2 y2
                    go_wp2
                    go_roundw
                    case rel => exact ⟨_, _, j + 1 + 1, rfl, by go_num, by omega, HO, HI, by omega, hbw⟩
                    case measure => simp [intOf]; omega
                  · have ty : (y.toList == [46, 46]) = false := lit_false y2
                    by_cases y1 : bs y = [46]
                    · have ty1 : (y.toList == [46]) = true := lit_true y1
                      have HI := Lib.hid (hinv.out.imp (c3_prev HE2.out (.inr (.inl y1))))
                      clear hinv HE HE2 y2 y1
                      go_wp2
                      go_roundw
                      case rel => exact ⟨_, _, j + 1 + 1, rfl, by go_num, by omega, HO, HI, by omega, hbw⟩
                      case measure => simp [intOf]; omega
                    · have ty1 : (y.toList == [46]) = false := lit_false y1
                      by_cases y0 : bs y = []
                      · have ty0 := empty_true y0
                        have HI := Lib.hid (hinv.out.imp (c3_prev HE2.out (.inr (.inr y0))))
                        clear hinv HE HE2 y2 y1 y0
                        go_wp2
                        go_roundw
                        case rel => exact ⟨_, _, j + 1 + 1, rfl, by go_num, by omega, HO, HI, by omega, hbw⟩
                        case measure => simp [intOf]; omega
                      · have ty0 := empty_false y0
                        have HI := Lib.hid (hinv.out.add (rule_dd HE2.out HE.out y0 y1 y2) (C3 (xs.map bs) (j + 1 + 1)))
                        clear hinv HE HE2 y2 y1 y0
                        have hcap : ps.length + 1 ≤ 8388608 := by omega
                        go_wp2_with (at_builtin; refine wpList_append_place rfl _ _ rfl w.heap.size _ _ rfl HO.out _ _ (j) (j + 2) (by omega) (by omega) rfl hcap HZ.out ?_; intro v6 w6 hown6 hb6)
                        have HB6 := Lib.hid (hbw.trans hb6)
                        have HO6 := Lib.hid hown6
                        clear hown6 hb6
                        go_wp2
                        go_roundw
                        case rel => exact ⟨_, _, j + 1 + 1, rfl, by go_num, by omega, HO6, HI, by rw [List.length_append, List.length_singleton]; omega, HB6.out⟩
                        case measure => simp [intOf]; omega
              · have tx : (x.toList == [46, 46]) = false := lit_false hx0
                have HI := Lib.hid (hinv.out.imp (c3_name HE.out hx0))
                clear hinv hx0 HE hcells hx hkx hown
                go_wp2
                go_roundw
                case rel => exact ⟨_, _, k + 1, rfl, by go_num, by omega, HO, HI, by omega, hbw⟩
                case measure => simp [intOf]; omega
            · obtain rfl : n = k := by omega
              obtain ⟨w3, rfl⟩ : ∃ w1 : World, w1 = wr := ⟨_, rfl⟩
              have HI0 := Lib.hid hinv.out
              have HO := Lib.hid hown.out
              have HZ := Lib.hid hbw.size
              clear hinv hown
              cases ro with
              | false =>
                have HI := Lib.hid (HI0.out.imp (C' := C4 false (xs.map bs)) (fun h => ⟨by rw [LN.out]; exact h, fun e => by cases e⟩))
                clear HI0
                go_wp2
                go_ret
                exact ⟨_, _, rfl, HO.out, HI.out, by omega, hbw⟩
              | true =>
                by_cases hk0 : n = 0
                · subst hk0
                  have HI := Lib.hid (HI0.out.imp (C' := C4 true (xs.map bs)) (fun h => ⟨by rw [LN.out]; exact h, fun _ e => by
                    have := (List.getElem?_eq_some_iff.1 e).1
                    rw [LN.out] at this; omega⟩))
                  clear HI0
                  go_wp2
                  go_ret
                  exact ⟨_, _, rfl, HO.out, HI.out, by omega, hbw⟩
                · obtain ⟨b, o, rfl, hb, hcells⟩ := (HV.out.below hbw).1.addr (by omega)
                  have hkx : 0 < xs.length := by have := HN.out; omega
                  have hcell := hcells 0 _ (List.getElem?_eq_getElem hkx)
                  rw [Nat.add_zero] at hcell
                  have HE := Lib.hid (HAT.out 0 _ (List.getElem?_eq_getElem hkx))
                  obtain ⟨x, hx⟩ : ∃ x, xs[0] = x := ⟨_, rfl⟩
                  rw [hx] at hcell HE
                  have hpos : (0 : Int) < (n : Int) := by omega
                  have hpos2 : 0 < n := by omega
                  clear hcells hx hkx hk0
                  by_cases hx0 : bs x = [46, 46]
                  · have tx : (x.toList == [46, 46]) = true := lit_true hx0
                    rw [hx0] at HE
                    have HI := Lib.hid (HI0.out.add (rule_root HE.out) (C4 true (xs.map bs)))
                    have hcap : ps.length + 1 ≤ 8388608 := by omega
                    clear HI0 HE hx0
                    go_wp2_with (at_builtin; refine wpList_append_place rfl _ _ rfl w.heap.size _ _ rfl HO.out _ _ 0 1 (by omega) (by omega) rfl hcap HZ.out ?_; intro v6 w6 hown6 hb6)
                    have HB6 := Lib.hid (hbw.trans hb6)
                    have HO6 := Lib.hid hown6
                    clear hown6 hb6
                    go_wp2
                    go_ret
                    exact ⟨_, _, rfl, HO6.out, HI.out, by rw [List.length_append, List.length_singleton]; omega, HB6.out⟩
                  · have tx : (x.toList == [46, 46]) = false := lit_false hx0
                    have HI := Lib.hid (HI0.out.imp (C' := C4 true (xs.map bs)) (fun h => ⟨by rw [LN.out]; exact h, fun _ e => by
                      rw [HE.out] at e; exact hx0 (Option.some.inj e)⟩))
                    clear HI0 HE hx0
                    go_wp2
                    go_ret
                    exact ⟨_, _, rfl, HO.out, HI.out, by omega, hbw⟩

end Go.Proofs.Ytoaepbobbfgbgaa.Wm
