import Derived.Test.Qxb6602056aCpy
namespace Go.Proofs.Qxb6602056a
open Go.RowKit
set_option linter.unusedSimpArgs false

/-- A buffer whose text is T, its gap at p. -/
structure St (w : World) (base g : Nat) (bl : Int) (T : List Int) (n p : Nat) (vr vb va : Value) (R : List Int) : Prop where
  len : n = R.length
  ple : p ≤ T.length
  tle : T.length ≤ n
  buf : Buf w g vr p ((p + (n - T.length) : Nat) : Int) bl vb va
  r : Own .i32 21 w base vr R
  t : txt R p (p + (n - T.length)) = T
  b : Own .i64 3 w base vb (NB T p)
  a : Own .i64 3 w base va (NU T (T.length - p))
  bg : base ≤ g
  gr : vr.ownBlock ≠ some g
  gb : vb.ownBlock ≠ some g
  ga : va.ownBlock ≠ some g
  rb : ∀ k, vr.ownBlock = some k → vb.ownBlock ≠ some k ∧ va.ownBlock ≠ some k
  ba : ∀ k, vb.ownBlock = some k → va.ownBlock ≠ some k

set_option maxRecDepth 20000 in
set_option maxHeartbeats 1000000 in
theorem move26z (base g : Nat) (bl : Int) (T : List Int) (n p : Nat) (vr vb va : Value) (R : List Int) (w : World) (h : St w base g bl T n p vr vb va R) :
    Calls Try.prog 26 #[.pointer (some ⟨g, 0, none⟩), .int .i64 (p : Int)] w fun e w' => e = .returned (.tuple #[]) ∧ ∃ q, w' = w.drewN q := by
  have k1 := h.buf.c1
  clear h
  go_enter Try.func26, Try.ntmps26
  go_wp2
  go_end0
  exact ⟨rfl, 0, by simp [World.drewN]⟩
end Go.Proofs.Qxb6602056a
