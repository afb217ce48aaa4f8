import Derived.Test.Qxb6602056aLaw4
namespace Go.Proofs.Qxb6602056a
open Go.RowKit
set_option linter.unusedSimpArgs false

set_option maxRecDepth 20000 in
set_option maxHeartbeats 4000000 in
theorem law4o (p0 : Option Addr) (l0 c0 : Nat) (R : List Int) (gs ge : Nat) (bl : Int) (p4 : Option Addr) (l4 c4 : Nat) (B : List Int) (p5 : Option Addr) (l5 c5 : Nat) (A : List Int) (p q : Int) (w : World)
    (i0 : In .i32 w p0 l0 c0 R) (i4 : In .i64 w p4 l4 c4 B) (i5 : In .i64 w p5 l5 c5 A) (hl : 4 * l0 + 8 * l4 + 8 * l5 ≤ 1048576) (h1 : gs ≤ ge) (h2 : ge ≤ l0) (hpq : p < 0 ∨ ((l0 - (ge - gs) : Nat) : Int) < p ∨ q < 0 ∨ ((l0 - (ge - gs) : Nat) : Int) < q) :
    Calls Try.prog 4 #[.slice p0 l0 c0, .int .i64 (gs : Int), .int .i64 (ge : Int), .int .i64 bl, .slice p4 l4 c4, .slice p5 l5 c5, .int .i64 p, .int .i64 q] w fun e w' => e = .returned (.bool true) ∧ Below w.heap.size w w' := by
  have HL10 : Hid (Calls Try.prog 10 #[.slice p0 l0 c0, .int .i64 (gs : Int), .int .i64 (ge : Int), .slice p4 l4 c4, .slice p5 l5 c5] w fun e w' => ∃ r : Bool, e = .returned (.bool r) ∧ Below w.heap.size w w') :=
    (lines10 p0 l0 c0 R gs ge p4 l4 c4 B p5 l5 c5 A w i0 i4 i5 (by omega) (by omega) (by omega) h1 h2).mono fun e w' ⟨r, he, _, hb⟩ => ⟨r, he, hb⟩
  have g1 : (gs : Int) ≤ (ge : Int) := by omega
  have g2 : (ge : Int) ≤ (l0 : Int) := by omega
  have g3 : 4 * (l0 : Int) + 8 * (l4 : Int) + 8 * (l5 : Int) ≤ 1048576 := by omega
  obtain ⟨N, hN⟩ : ∃ N : Nat, N = l0 - (ge - gs) := ⟨_, rfl⟩
  have g4 : (l0 : Int) - ((ge : Int) - (gs : Int)) = (N : Int) := by omega
  have g5 : IntKind.i64.wrap (N : Int) = N := by rw [IntKind.wrap_i64]; omega
  rw [← hN] at hpq
  clear i0 i4 i5 hN
  by_cases q1 : p < 0
  · clear hpq
    go_enter Try.func4, Try.ntmps4
    go_wp2_with (first | (go_at_call 21; go_in) | (go_at_call 8; go_in) | (go_at_call 9; go_in))
    refine HL10.out.mono ?_
    rintro e wl ⟨r, rfl, b0⟩
    have B0 : Hid (Below w.heap.size w wl) := b0
    clear b0 HL10
    cases r <;> (go_wp2; go_ret; exact ⟨rfl, B0.out⟩)
  have q1' : 0 ≤ p := by omega
  by_cases q2 : (N : Int) < p
  · clear hpq
    go_enter Try.func4, Try.ntmps4
    go_wp2_with (first | (go_at_call 21; go_in) | (go_at_call 8; go_in) | (go_at_call 9; go_in))
    refine HL10.out.mono ?_
    rintro e wl ⟨r, rfl, b0⟩
    have B0 : Hid (Below w.heap.size w wl) := b0
    clear b0 HL10
    cases r <;> (go_wp2; go_ret; exact ⟨rfl, B0.out⟩)
  have q2' : p ≤ (N : Int) := by omega
  by_cases q3 : q < 0
  · clear hpq
    go_enter Try.func4, Try.ntmps4
    go_wp2_with (first | (go_at_call 21; go_in) | (go_at_call 8; go_in) | (go_at_call 9; go_in))
    refine HL10.out.mono ?_
    rintro e wl ⟨r, rfl, b0⟩
    have B0 : Hid (Below w.heap.size w wl) := b0
    clear b0 HL10
    cases r <;> (go_wp2; go_ret; exact ⟨rfl, B0.out⟩)
  have q3' : 0 ≤ q := by omega
  have q4 : (N : Int) < q := by omega
  · clear hpq
    go_enter Try.func4, Try.ntmps4
    go_wp2_with (first | (go_at_call 21; go_in) | (go_at_call 8; go_in) | (go_at_call 9; go_in))
    refine HL10.out.mono ?_
    rintro e wl ⟨r, rfl, b0⟩
    have B0 : Hid (Below w.heap.size w wl) := b0
    clear b0 HL10
    cases r <;> (go_wp2; go_ret; exact ⟨rfl, B0.out⟩)

set_option maxRecDepth 20000 in
set_option maxHeartbeats 4000000 in
theorem out4 (p0 : Option Addr) (l0 c0 : Nat) (gs ge : Int) (bl : Int) (p4 : Option Addr) (l4 c4 : Nat) (p5 : Option Addr) (l5 c5 : Nat) (n m : Int) (w : World) (k0 : l0 ≤ 9223372036854775807) (k4 : l4 ≤ 9223372036854775807) (k5 : l5 ≤ 9223372036854775807)
    (h : 1048576 < 4 * l0 + 8 * l4 + 8 * l5 ∨ gs < 0 ∨ ge < gs ∨ (l0 : Int) < ge) :
    Calls Try.prog 4 #[.slice p0 l0 c0, .int .i64 gs, .int .i64 ge, .int .i64 bl, .slice p4 l4 c4, .slice p5 l5 c5, .int .i64 n, .int .i64 m] w fun e w' => e = .returned (.bool true) ∧ Below w.heap.size w w' := by
  by_cases q1 : 1048576 < l0
  · clear h
    go_enter Try.func4, Try.ntmps4
    go_wp2_with (first | (go_at_call 21; go_in))
    all_goals (go_ret; exact ⟨rfl, Below.refl _ _⟩)
  by_cases q2 : 1048576 < l4
  · clear h
    go_enter Try.func4, Try.ntmps4
    go_wp2_with (first | (go_at_call 21; go_in))
    all_goals (go_ret; exact ⟨rfl, Below.refl _ _⟩)
  by_cases q3 : 1048576 < l5
  · clear h
    go_enter Try.func4, Try.ntmps4
    go_wp2_with (first | (go_at_call 21; go_in))
    all_goals (go_ret; exact ⟨rfl, Below.refl _ _⟩)
  clear k0 k4 k5
  by_cases q4 : 262144 < l0
  · clear h
    go_enter Try.func4, Try.ntmps4
    go_wp2_with (first | (go_at_call 21; go_in) | (go_at_call 8; go_in))
    all_goals (go_ret; exact ⟨rfl, Below.refl _ _⟩)
  by_cases q5 : 131072 < l4
  · clear h
    go_enter Try.func4, Try.ntmps4
    go_wp2_with (first | (go_at_call 21; go_in) | (go_at_call 8; go_in))
    all_goals (go_ret; exact ⟨rfl, Below.refl _ _⟩)
  by_cases q6 : 131072 < l5
  · clear h
    go_enter Try.func4, Try.ntmps4
    go_wp2_with (first | (go_at_call 21; go_in) | (go_at_call 8; go_in))
    all_goals (go_ret; exact ⟨rfl, Below.refl _ _⟩)
  by_cases q7 : 1048576 < 4 * l0 + 8 * l4 + 8 * l5
  · clear h
    have z1 : (1048576 : Int) < 4 * (l0 : Int) + 8 * (l4 : Int) + 8 * (l5 : Int) := by omega
    have z2 : (!decide (4 * (l0 : Int) + 8 * (l4 : Int) + 8 * (l5 : Int) ≤ 1048576)) = true := by simp; omega
    go_enter Try.func4, Try.ntmps4
    go_wp2_with (first | (go_at_call 21; go_in) | (go_at_call 8; go_in))
    all_goals first | (go_ret; exact ⟨rfl, Below.refl _ _⟩) | (exfalso; exact absurd ‹(!decide (4 * (l0 : Int) + 8 * (l4 : Int) + 8 * (l5 : Int) ≤ 1048576)) = false› (by rw [z2]; simp))
  have z1 : 4 * (l0 : Int) + 8 * (l4 : Int) + 8 * (l5 : Int) ≤ 1048576 := by omega
  by_cases qa : gs < 0
  · clear h
    go_enter Try.func4, Try.ntmps4
    go_wp2_with (first | (go_at_call 21; go_in) | (go_at_call 8; go_in) | (go_at_call 9; go_in))
    all_goals (go_ret; exact ⟨rfl, Below.refl _ _⟩)
  by_cases qb : ge < gs
  · clear h
    go_enter Try.func4, Try.ntmps4
    go_wp2_with (first | (go_at_call 21; go_in) | (go_at_call 8; go_in) | (go_at_call 9; go_in))
    all_goals (go_ret; exact ⟨rfl, Below.refl _ _⟩)
  have qc : (l0 : Int) < ge := by omega
  have qd : 0 ≤ gs := by omega
  have qe : gs ≤ ge := by omega
  have z2 : (!decide (ge ≤ (l0 : Int))) = true := by simp; omega
  clear h
  go_enter Try.func4, Try.ntmps4
  go_wp2_with (first | (go_at_call 21; go_in) | (go_at_call 8; go_in) | (go_at_call 9; go_in))
  all_goals first | (go_ret; exact ⟨rfl, Below.refl _ _⟩) | (exfalso; exact absurd ‹(!decide (ge ≤ (l0 : Int))) = false› (by rw [z2]; simp))

end Go.Proofs.Qxb6602056a
