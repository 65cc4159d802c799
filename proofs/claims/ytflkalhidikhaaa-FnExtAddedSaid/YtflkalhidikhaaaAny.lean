/-
  strings.IndexAny and strings.ContainsAny at the two bytes dot and slash, whatever bytes the string has (beyond ASCII too), of any length that a string can have here: the library's own text is walked, road by road. After the library's own worked texts on ASCII bytes; the road of a rune beyond ASCII through strings.IndexRune is new.
-/
import Derived.Test.YtflkalhidikhaaaPlain6
import Derived.Shelf.Strings.IndexAnyAll
import Derived.Shelf.Small.Utf8
import Derived.Lib.OthersKept
import Derived.WalkMore
import Derived.Shelf.RegionOpenPlain
import Derived.Deep.QuietTactic
import Derived.BigQuiet
namespace Go.Proofs.Ytflkalhidikhaaa.Wm
open Go Go.Shelf Go.RowKit Go.Lib
variable {P : Program} {ρ : Ren}

theorem validRune_lib (r : Nat) (h1 : r ≤ 1114111) (h2 : r < 55296 ∨ 57344 ≤ r) : Lib.validRune (r : Int) = true := by
  unfold Lib.validRune
  exact decide_eq_true (by omega)

set_option maxHeartbeats 4000000 in
set_option maxRecDepth 1000000 in
/-- U+FFFD (what range hands over at a byte that opens no valid form). -/
theorem indexRune_error (L : Lays.n152 P ρ) (w : World) :
    Calls P (ρ.f 152) #[.string ⟨#[46, 47]⟩, .int .i32 65533] w fun e w' => e = .returned (.int .i64 (-1)) ∧ Below w.heap.size w w' := by
  have t3 := L.t3; have a3 := L.a3; have z3 := L.z3; have v3 := L.v3
  have t4 := L.t4; have a4 := L.a4; have z4 := L.z4; have v4 := L.v4
  have t5 := L.t5; have a5 := L.a5; have z5 := L.z5; have v5 := L.v5
  have t9 := L.t9; have a9 := L.a9; have z9 := L.z9; have v9 := L.v9
  have t21 := L.t21; have a21 := L.a21; have z21 := L.z21; have v21 := L.v21
  have n0 : ∀ ty, (Instr.next (.pointer (some ⟨w.heap.size, 0, none⟩)) true ty).run P (w.iter ⟨#[46, 47]⟩ 0) = .ok (.tuple #[.bool true, .int .i64 0, .int .i32 46]) (w.iter ⟨#[46, 47]⟩ 1) :=
    fun ty => run_next_ascii (P := P) w ⟨#[46, 47]⟩ 0 ty (by decide) (by decide)
  have n1 : ∀ ty, (Instr.next (.pointer (some ⟨w.heap.size, 0, none⟩)) true ty).run P (w.iter ⟨#[46, 47]⟩ 1) = .ok (.tuple #[.bool true, .int .i64 1, .int .i32 47]) (w.iter ⟨#[46, 47]⟩ 2) :=
    fun ty => run_next_ascii (P := P) w ⟨#[46, 47]⟩ 1 ty (by decide) (by decide)
  have n2 := fun ty => run_next_end (P := P) w ⟨#[46, 47]⟩ 2 ty (by decide)
  go_enter L.f152, Body.n152_ntmps ρ
  go_wp2
  go_loopg [5, 6] 2 (fun g _ _ wx => (g = 2 ∧ wx = w.iter ⟨#[46, 47]⟩ 0) ∨ (g = 1 ∧ wx = w.iter ⟨#[46, 47]⟩ 1) ∨ (g = 0 ∧ wx = w.iter ⟨#[46, 47]⟩ 2))
  case atStart => exact .inl ⟨rfl, rfl⟩
  case round =>
    rcases hrel with ⟨rfl, rfl⟩ | ⟨rfl, rfl⟩ | ⟨rfl, rfl⟩
    · go_wp2
      go_roundg 1
      case measure => omega
      case rel => exact .inr (.inl ⟨rfl, rfl⟩)
    · go_wp2
      go_roundg 0
      case measure => omega
      case rel => exact .inr (.inr ⟨rfl, rfl⟩)
    · go_wp2
      go_ret
      exact ⟨rfl, (Below.refl _ _).alloc (Nat.le_refl _) _⟩

set_option maxHeartbeats 4000000 in
set_option maxRecDepth 1000000 in
/-- A rune of two bytes. -/
theorem indexRune_two (L : Lays.n152 P ρ) (r : Nat) (w : World) (h0 : 128 ≤ r) (h1 : r < 2048) :
    Calls P (ρ.f 152) #[.string ⟨#[46, 47]⟩, .int .i32 r] w fun e w' => e = .returned (.int .i64 (-1)) ∧ Below w.heap.size w w' := by
  obtain ⟨a, b, hE, hb⟩ := enc_two r h0 h1
  have hv := validRune_lib r (by omega) (by omega)
  have t3 := L.t3; have a3 := L.a3; have z3 := L.z3; have v3 := L.v3
  have t4 := L.t4; have a4 := L.a4; have z4 := L.z4; have v4 := L.v4
  have t5 := L.t5; have a5 := L.a5; have z5 := L.z5; have v5 := L.v5
  have t9 := L.t9; have a9 := L.a9; have z9 := L.z9; have v9 := L.v9
  have t21 := L.t21; have a21 := L.a21; have z21 := L.z21; have v21 := L.v21
  have e119 : ∀ args w, (callFunc (ρ.f 119) args).run P w = .ok (.enter (ρ.f 119) args) w := enters_of L.f119 (by kernel_rfl) rfl
  have e137 : ∀ args w, (callFunc (ρ.f 137) args).run P w = .ok (.enter (ρ.f 137) args) w := enters_of L.f137 (by kernel_rfl) rfl
  have c1 : ¬ ((r : Int) < 128) := by omega
  have c2 : ((r : Int) == 65533) = false := beq_eq_false_iff_ne.2 (by omega)
  go_enter L.f152, Body.n152_ntmps ρ
  go_wp2_with (go_at_fn (ρ.f 119); refine (Any.utf8_ValidRune { L with } _ _).mono ?_; rintro e w' ⟨rfl, hw⟩; rw [hw, hv])
  go_step3
  go_wp2
  have hq : ((((⟨#[46, 47]⟩ : ByteArray)[1]'(by decide)).toNat : Int) != (((⟨#[a, b]⟩ : ByteArray)[1]'(Nat.lt_succ_self 1)).toNat : Int)) = true := bne_iff_ne.2 (by show (47 : Int) ≠ (b.toNat : Int); omega)
  have mixed := L.mixed
  have hw2 : IntKind.i64.wrap 2 = 2 := by decide
  have hsz : (⟨#[46, 47]⟩ : ByteArray).size = 2 := rfl
  have hix : ∀ c : UInt8, Lib.indexByte [] c = -1 := fun _ => rfl
  refine wp_loop_rounds 1 ?_
  rw [rounds_succ]
  go_wp2
  go_step3
  go_wp2
  go_quiet_o (fail)
  go_wp2
  have HB : Hid (Below w.heap.size w (w.drewN nq)) := below_drewN nq (Below.refl _ _)
  generalize w.drewN nq = w2 at HB
  go_quiet_o (first | (go_at_fn (ρ.f 137); refine Calls.quiet_of_same (Any.strings_IndexByte { L with } _ _ _)))
  go_wp2
  simp only [Exit.noGoto_ret, Exit.inBlock, Exit.then]
  go_ret
  exact ⟨rfl, below_drewN nq HB.out⟩

set_option maxHeartbeats 4000000 in
set_option maxRecDepth 1000000 in
/-- A rune of three or four bytes: more than there are. -/
theorem indexRune_more (L : Lays.n152 P ρ) (r : Nat) (w : World) (h0 : 2048 ≤ r) (h1 : r ≤ 1114111) (h2 : r < 55296 ∨ 57344 ≤ r) (hn : r ≠ 65533) :
    Calls P (ρ.f 152) #[.string ⟨#[46, 47]⟩, .int .i32 r] w fun e w' => e = .returned (.int .i64 (-1)) ∧ Below w.heap.size w w' := by
  obtain ⟨x, hE, hx3, hx4⟩ := enc_more r h0 h1 h2
  have hv := validRune_lib r h1 h2
  have t3 := L.t3; have a3 := L.a3; have z3 := L.z3; have v3 := L.v3
  have t4 := L.t4; have a4 := L.a4; have z4 := L.z4; have v4 := L.v4
  have t5 := L.t5; have a5 := L.a5; have z5 := L.z5; have v5 := L.v5
  have t9 := L.t9; have a9 := L.a9; have z9 := L.z9; have v9 := L.v9
  have t21 := L.t21; have a21 := L.a21; have z21 := L.z21; have v21 := L.v21
  have e119 : ∀ args w, (callFunc (ρ.f 119) args).run P w = .ok (.enter (ρ.f 119) args) w := enters_of L.f119 (by kernel_rfl) rfl
  have c1 : ¬ ((r : Int) < 128) := by omega
  have c2 : ((r : Int) == 65533) = false := beq_eq_false_iff_ne.2 (by omega)
  have c3 : ¬ ((x.size : Int) - 1 < 2) := by omega
  clear h2 hn
  go_enter L.f152, Body.n152_ntmps ρ
  go_wp2_with (go_at_fn (ρ.f 119); refine (Any.utf8_ValidRune { L with } _ _).mono ?_; rintro e w' ⟨rfl, hw⟩; rw [hw, hv])
  go_step3
  go_wp2
  refine wp_loop_rounds 1 ?_
  rw [rounds_succ]
  go_wp2
  simp only [Exit.noGoto_ret, Exit.inBlock]
  go_ret
  exact ⟨rfl, Below.refl _ _⟩

/-- A rune beyond ASCII is neither. -/
theorem indexRune_wide (L : Lays.n152 P ρ) (r : Nat) (w : World) (h0 : 128 ≤ r) (h1 : r ≤ 1114111) (h2 : r < 55296 ∨ 57344 ≤ r) :
    Calls P (ρ.f 152) #[.string ⟨#[46, 47]⟩, .int .i32 r] w fun e w' => e = .returned (.int .i64 (-1)) ∧ Below w.heap.size w w' := by
  by_cases h3 : r < 2048
  · exact indexRune_two L r w h0 h3
  · by_cases h4 : r = 65533
    · subst h4; exact indexRune_error L w
    · exact indexRune_more L r w (by omega) h1 h2 h4
end Go.Proofs.Ytflkalhidikhaaa.Wm
