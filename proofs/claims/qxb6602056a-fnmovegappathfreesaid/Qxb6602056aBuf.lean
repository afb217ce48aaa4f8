import Derived.Test.Qxb6602056aEqs
namespace Go.Proofs.Qxb6602056a
open Go.RowKit

/-- The buffer's block. -/
def Buf (w : World) (g : Nat) (r : Value) (gs ge bl : Int) (bf af : Value) : Prop := w.heap[g]? = some (.cells #[r, .int .i64 gs, .int .i64 ge, .int .i64 bl, bf, af] 42 (0, 0))
theorem Buf.c0 {w : World} {g : Nat} {r bf af : Value} {gs ge bl : Int} (h : Buf w g r gs ge bl bf af) : w.cell? ⟨g, 0, none⟩ = some r := by rw [cell_of_row w g 0 _ _ _ h]; rfl
theorem Buf.c1 {w : World} {g : Nat} {r bf af : Value} {gs ge bl : Int} (h : Buf w g r gs ge bl bf af) : w.cell? ⟨g, 1, none⟩ = some (.int .i64 gs) := by rw [cell_of_row w g 1 _ _ _ h]; rfl
theorem Buf.c2 {w : World} {g : Nat} {r bf af : Value} {gs ge bl : Int} (h : Buf w g r gs ge bl bf af) : w.cell? ⟨g, 2, none⟩ = some (.int .i64 ge) := by rw [cell_of_row w g 2 _ _ _ h]; rfl
theorem Buf.c3 {w : World} {g : Nat} {r bf af : Value} {gs ge bl : Int} (h : Buf w g r gs ge bl bf af) : w.cell? ⟨g, 3, none⟩ = some (.int .i64 bl) := by rw [cell_of_row w g 3 _ _ _ h]; rfl
theorem Buf.c4 {w : World} {g : Nat} {r bf af : Value} {gs ge bl : Int} (h : Buf w g r gs ge bl bf af) : w.cell? ⟨g, 4, none⟩ = some bf := by rw [cell_of_row w g 4 _ _ _ h]; rfl
theorem Buf.c5 {w : World} {g : Nat} {r bf af : Value} {gs ge bl : Int} (h : Buf w g r gs ge bl bf af) : w.cell? ⟨g, 5, none⟩ = some af := by rw [cell_of_row w g 5 _ _ _ h]; rfl
theorem Buf.fr {w : World} {g : Nat} {r bf af : Value} {gs ge bl : Int} (h : Buf w g r gs ge bl bf af) (i : Nat) : w.frozen? ⟨g, i, none⟩ = false := frozen_of_row w g i _ _ h
theorem Buf.drewN {w : World} {g : Nat} {r bf af : Value} {gs ge bl : Int} (h : Buf w g r gs ge bl bf af) (n : Nat) : Buf (w.drewN n) g r gs ge bl bf af := h

set_option maxRecDepth 20000 in
set_option maxHeartbeats 400000 in
theorem make14 (p : Option Addr) (n c : Nat) (gs ge bl : Int) (p1 : Option Addr) (n1 c1 : Nat) (p2 : Option Addr) (n2 c2 : Nat) (w : World) :
    Calls Try.prog 14 #[.slice p n c, .int .i64 gs, .int .i64 ge, .int .i64 bl, .slice p1 n1 c1, .slice p2 n2 c2] w fun e w' => e = .returned (.pointer (some ⟨w.heap.size, 0, none⟩)) ∧ Buf w' w.heap.size (.slice p n c) gs ge bl (.slice p1 n1 c1) (.slice p2 n2 c2) ∧ Below w.heap.size w w' := by
  go_enter Try.func14, Try.ntmps14
  go_wp2
  go_ret
  exact ⟨rfl, heap_alloc_new w _, (Below.refl _ _).alloc (Nat.le_refl _) _⟩

set_option maxRecDepth 20000 in
set_option maxHeartbeats 1000000 in
theorem fields16 (g : Nat) (p : Option Addr) (n c : Nat) (gs ge bl : Int) (p1 : Option Addr) (n1 c1 : Nat) (p2 : Option Addr) (n2 c2 : Nat) (w : World) (h : Buf w g (.slice p n c) gs ge bl (.slice p1 n1 c1) (.slice p2 n2 c2)) :
    Calls Try.prog 16 #[.pointer (some ⟨g, 0, none⟩)] w fun e w' => e = .returned (.tuple #[.slice p n c, .int .i64 gs, .int .i64 ge, .int .i64 bl, .slice p1 n1 c1, .slice p2 n2 c2]) ∧ ∃ q, w' = w.drewN q := by
  have k0 := h.c0
  have k1 := h.c1
  have k2 := h.c2
  have k3 := h.c3
  have k4 := h.c4
  have k5 := h.c5
  clear h
  go_enter Try.func16, Try.ntmps16
  go_wp2
  go_quiet (fail)
  go_wp2
  refine bodyPost_ret (v := .tuple #[.slice p n c, .int .i64 gs, .int .i64 ge, .int .i64 bl, .slice p1 n1 c1, .slice p2 n2 c2]) (by simp [results, Try.results16]) rfl ⟨rfl, _, rfl⟩

set_option maxRecDepth 20000 in
set_option maxHeartbeats 1000000 in
theorem len29 (g : Nat) (p : Option Addr) (n c : Nat) (gs ge bl : Int) (bf af : Value) (w : World) (h : Buf w g (.slice p n c) gs ge bl bf af) (h1 : 0 ≤ gs) (h2 : gs ≤ ge) (h3 : ge ≤ (n : Int)) (h4 : n ≤ 1000000000) :
    Calls Try.prog 29 #[.pointer (some ⟨g, 0, none⟩)] w fun e w' => e = .returned (.int .i64 ((n : Int) - (ge - gs))) ∧ ∃ q, w' = w.drewN q := by
  have k0 := h.c0
  have k1 := h.c1
  have k2 := h.c2
  clear h
  go_enter Try.func29, Try.ntmps29
  go_wp2
  go_quiet (fail)
  go_wp2
  go_ret
  exact ⟨rfl, _, rfl⟩

set_option maxRecDepth 20000 in
set_option maxHeartbeats 1000000 in
theorem reserve27a (g : Nat) (r : Value) (gs ge bl m : Int) (bf af : Value) (w : World) (h : Buf w g r gs ge bl bf af) (h1 : 0 ≤ gs) (h2 : gs ≤ ge) (h3 : ge ≤ 1000000000) (hm : m ≤ ge - gs) :
    Calls Try.prog 27 #[.pointer (some ⟨g, 0, none⟩), .int .i64 m] w fun e w' => e = .returned (.tuple #[]) ∧ ∃ q, w' = w.drewN q := by
  have k1 := h.c1
  have k2 := h.c2
  clear h
  go_enter Try.func27, Try.ntmps27
  go_wp2
  go_quiet (fail)
  go_wp2
  exact bodyPost_ret (v := .tuple #[]) (by simp [results, Try.results27]) rfl ⟨rfl, _, rfl⟩
end Go.Proofs.Qxb6602056a
