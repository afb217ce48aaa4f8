import Derived.Test.Qxb6602056aSam
namespace Go.Proofs.Qxb6602056a
open Go.RowKit
set_option linter.unusedSimpArgs false

set_option maxRecDepth 20000 in
set_option maxHeartbeats 1000000 in
theorem below30 (g : Nat) (p : Option Addr) (n c gs ge : Nat) (bl : Int) (bf : Value) (p2 : Option Addr) (n2 c2 : Nat) (A : List Int) (pos : Nat) (w : World) (h : Buf w g (.slice p n c) gs ge bl bf (.slice p2 n2 c2)) (i : In .i64 w p2 n2 c2 A) (hs : A.Pairwise (· ≤ ·)) (h2 : gs ≤ ge) (h3 : ge ≤ n) (h4 : n ≤ 1000000) (hn2 : n2 ≤ 1000000) (hp : pos ≤ n - (ge - gs)) :
    Calls Try.prog 30 #[.pointer (some ⟨g, 0, none⟩), .int .i64 (pos : Int)] w fun e w' => e = .returned (.int .i64 ((A.countP (· < ((n - (ge - gs) - pos + 1 : Nat) : Int)) : Nat) : Int)) ∧ ∃ q, w' = w.drewN q := by
  have k5 := h.c5
  have U : Hid (Buf w g (.slice p n c) gs ge bl bf (.slice p2 n2 c2)) := h
  have I : Hid (In .i64 w p2 n2 c2 A) := i
  have HS : Hid (A.Pairwise (· ≤ ·)) := hs
  obtain ⟨N, hN⟩ : ∃ N : Nat, N = n - (ge - gs) := ⟨_, rfl⟩
  obtain ⟨y, hy⟩ : ∃ y : Nat, y = N - pos + 1 := ⟨_, rfl⟩
  have HC : Hid (∀ k : Nat, Calls Try.prog 29 #[.pointer (some ⟨g, 0, none⟩)] (w.drewN k) fun e w' => e = .returned (.int .i64 (N : Int)) ∧ ∃ q, w' = (w.drewN k).drewN q) := by
    intro k
    have e : (N : Int) = (n : Int) - ((ge : Int) - (gs : Int)) := by omega
    rw [e]
    exact len29 g p n c gs ge bl bf _ (w.drewN k) (h.drewN k) (by omega) (by omega) (by omega) (by omega)
  obtain ⟨bb, hbb⟩ : ∃ bb, bb = A.contains (y : Int) := ⟨_, rfl⟩
  have HS28 : Hid (∀ k : Nat, Calls Try.prog 28 #[.slice p2 n2 c2, .int .i64 (y : Int)] (w.drewN k) fun e w' => e = .returned (.tuple #[.int .i64 ((A.countP (· < (y : Int)) : Nat) : Int), .bool bb]) ∧ ∃ q, w' = (w.drewN k).drewN q) := by
    intro k
    rw [hbb]
    exact search28 p2 n2 c2 A y (w.drewN k) (i.below (below_drewN' (Below.refl _ _) k)) (by omega) hs
  have e1 : (N : Int) - (pos : Int) + 1 = (y : Int) := by omega
  have z1 : (pos : Int) ≤ (N : Int) := by omega
  have z2 : (N : Int) ≤ 1000000 := by omega
  rw [← hN, ← hy]
  generalize A.countP (· < (y : Int)) = cnt at HS28 ⊢
  clear hbb hN hy h i hs h2 h3 h4 hp
  go_enter Try.func30, Try.ntmps30
  go_wp2
  go_quiet (first
    | (go_at_call 29; refine Calls.quiet_of (HC.out _))
    | (go_at_call 28; refine Calls.quiet_of (HS28.out _)))
  go_wp2
  go_ret
  exact ⟨rfl, _, rfl⟩
end Go.Proofs.Qxb6602056a
