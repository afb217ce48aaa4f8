import Derived.Test.Qxb6602056aPln
namespace Go.Proofs.Qxb6602056a
open Go.RowKit

theorem txt_left (R : List Int) (gs ge pos : Nat) (h1 : pos ≤ gs) (h2 : gs ≤ ge) (h3 : ge ≤ R.length) :
    txt (R.take (ge - (gs - pos)) ++ ((R.drop pos).take (gs - pos) ++ R.drop ge)) pos (ge - (gs - pos)) = txt R gs ge := by
  have e1 : (R.take (ge - (gs - pos)) ++ ((R.drop pos).take (gs - pos) ++ R.drop ge)).take pos = R.take pos := by
    rw [List.take_append_of_le_length (by simp; omega), List.take_take, Nat.min_eq_left (by omega)]
  have e2 : (R.take (ge - (gs - pos)) ++ ((R.drop pos).take (gs - pos) ++ R.drop ge)).drop (ge - (gs - pos)) = (R.drop pos).take (gs - pos) ++ R.drop ge := by
    rw [List.drop_append_of_le_length (by simp; omega), List.drop_take]; simp
  unfold txt
  rw [e1, e2, ← List.append_assoc, ← List.take_add, show pos + (gs - pos) = gs by omega]
theorem txt_right (R : List Int) (gs ge pos : Nat) (h1 : gs ≤ pos) (h2 : gs ≤ ge) (h3 : ge + (pos - gs) ≤ R.length) :
    txt (R.take gs ++ ((R.drop ge).take (pos - gs) ++ R.drop pos)) pos (ge + (pos - gs)) = txt R gs ge := by
  have e1 : (R.take gs ++ ((R.drop ge).take (pos - gs) ++ R.drop pos)).take pos = R.take gs ++ (R.drop ge).take (pos - gs) := by
    rw [← List.append_assoc, List.take_append_of_le_length (by simp; omega), List.take_of_length_le (by simp; omega)]
  have e2 : (R.take gs ++ ((R.drop ge).take (pos - gs) ++ R.drop pos)).drop (ge + (pos - gs)) = R.drop (ge + (pos - gs)) := by
    rw [← List.append_assoc, List.drop_append, List.drop_eq_nil_of_le (by simp; omega), List.nil_append, List.drop_drop]
    congr 1
    simp
    omega
  unfold txt
  rw [e1, e2, List.append_assoc, ← List.drop_drop, List.take_append_drop]
end Go.Proofs.Qxb6602056a
