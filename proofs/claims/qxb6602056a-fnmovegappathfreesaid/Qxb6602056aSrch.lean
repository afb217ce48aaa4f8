import Derived.Test.Qxb6602056aBuf
import Derived.Shelf.Lay
import Derived.Shelf.Slices.SearchI
import Derived.Shelf.Slices.Empties
namespace Go.Proofs.Qxb6602056a
open Go.Shelf Go.Lib Go.RowKit

shelf_lay Lays2.n25 Nm2 25 at Try as Try.lays25

/-- slices.BinarySearch of an ascending slice: how many entries are below x. -/
theorem search28 (p : Option Addr) (n c : Nat) (D : List Int) (x : Int) (w : World) (i : In .i64 w p n c D) (hn : n ≤ 1000000000) (hs : D.Pairwise (· ≤ ·)) :
    Calls Try.prog 28 #[.slice p n c, .int .i64 x] w fun e w' => e = .returned (.tuple #[.int .i64 ((D.countP (· < x) : Nat) : Int), .bool (D.contains x)]) ∧ ∃ q, w' = w.drewN q := by
  have hl := i.len
  by_cases h0 : n = 0
  · subst h0
    obtain rfl : D = [] := List.eq_nil_of_length_eq_zero hl.symm
    exact (Any.slices_BinarySearch_int_empty Try.lays25 p c x w).mono fun e w' ⟨h1, h2⟩ => ⟨h1, 0, by rw [h2]; rfl⟩
  · obtain ⟨b, o, rfl, _⟩ := i.at (j := 0) (by omega)
    have hc : ∀ j, j < D.length → w.cell? ⟨b, o + j, none⟩ = some (.int .i64 (D.getD j 0)) := by
      intro j hj
      obtain ⟨b', o', e, h⟩ := i.at (j := j) (by omega)
      injection e with e
      injection e with e1 e2
      subst e1 e2
      exact h
    have ht : D.take n = D := List.take_of_length_le (by omega)
    exact (Any.slices_BinarySearch_int Try.lays25 b o n c D x w (by omega) (by omega) hc (by rw [ht]; exact hs)).mono fun e w' ⟨h1, h2⟩ => by rw [ht] at h1; exact ⟨h1, h2⟩
end Go.Proofs.Qxb6602056a
