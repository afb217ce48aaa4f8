import Derived.Test.Qxb6601749aSec
namespace Go.Proofs.Qxb6601749a
open Go.RowKit

def us (B : Nat → Int) (pid : Int) : Nat → List Nat
  | 0 => [0]
  | m + 1 => us B pid m ++ (if (payAt B pid (m + 1)).isSome then [m + 1] else [])
def flat (B : Nat → Int) (U : List Nat) : List Int := U.flatMap fun u => seg B (188 * u) 188
theorem pks_flat (B : Nat → Int) (pid : Int) (m : Nat) : pks B pid m = flat B (us B pid m) := by
  induction m with
  | zero => simp [pks, flat, us]
  | succ m ih =>
    simp only [pks, us, flat, List.flatMap_append]
    rw [ih]
    unfold flat
    congr 1
    split <;> simp
theorem flat_len (B : Nat → Int) (U : List Nat) : (flat B U).length = 188 * U.length := by
  induction U with
  | nil => rfl
  | cons u U ih => unfold flat at *; simp only [List.flatMap_cons, List.length_append, length_seg, ih, List.length_cons]; omega
theorem flat_get (B : Nat → Int) (U : List Nat) : ∀ i j, i < U.length → j < 188 → (flat B U).getD (188 * i + j) 0 = B (188 * U.getD i 0 + j) := by
  induction U with
  | nil => intro i j h; simp at h
  | cons u U ih =>
    intro i j hi hj
    have e : flat B (u :: U) = seg B (188 * u) 188 ++ flat B U := by simp [flat]
    rw [e, List.getD_eq_getElem?_getD]
    cases i with
    | zero =>
      rw [List.getElem?_append_left (by rw [length_seg]; omega), ← List.getD_eq_getElem?_getD]
      simp only [Nat.mul_zero, Nat.zero_add, List.getD_cons_zero]
      exact getD_seg _ _ _ _ hj
    | succ i =>
      rw [List.getElem?_append_right (by rw [length_seg]; omega), length_seg, show 188 * (i + 1) + j - 188 = 188 * i + j by omega, ← List.getD_eq_getElem?_getD, ih i j (by simpa using hi) hj]
      simp
theorem us_le (B : Nat → Int) (pid : Int) (m : Nat) : ∀ u ∈ us B pid m, u ≤ m := by
  induction m with
  | zero => simp [us]
  | succ m ih =>
    intro u hu
    simp only [us, List.mem_append] at hu
    rcases hu with hu | hu
    · have := ih u hu; omega
    · split at hu
      · simp at hu; omega
      · cases hu
theorem us_some (B : Nat → Int) (pid : Int) (m : Nat) : ∀ u ∈ us B pid m, u ≠ 0 → (payAt B pid u).isSome = true := by
  induction m with
  | zero => intro u hu h; simp [us] at hu; exact absurd hu h
  | succ m ih =>
    intro u hu h
    simp only [us, List.mem_append] at hu
    rcases hu with hu | hu
    · exact ih u hu h
    · split at hu
      · simp at hu; rw [hu]; assumption
      · cases hu
theorem us_sorted (B : Nat → Int) (pid : Int) (m : Nat) : (us B pid m).Pairwise (· < ·) := by
  induction m with
  | zero => simp [us]
  | succ m ih =>
    rw [us, List.pairwise_append]
    refine ⟨ih, by split <;> simp, ?_⟩
    intro a ha b hb
    have := us_le B pid m a ha
    split at hb
    · simp at hb; omega
    · cases hb
theorem us_len (B : Nat → Int) (pid : Int) (m : Nat) : 1 ≤ (us B pid m).length ∧ (us B pid m).length ≤ m + 1 := by
  induction m with
  | zero => simp [us]
  | succ m ih => simp only [us, List.length_append]; split <;> simp <;> omega
theorem us_head (B : Nat → Int) (pid : Int) (m : Nat) : (us B pid m).getD 0 0 = 0 := by
  induction m with
  | zero => rfl
  | succ m ih =>
    have := (us_len B pid m).1
    rw [us, List.getD_eq_getElem?_getD, List.getElem?_append_left (by omega), ← List.getD_eq_getElem?_getD, ih]
theorem us_lt (B : Nat → Int) (pid : Int) (m i j : Nat) (hij : i < j) (hj : j < (us B pid m).length) : (us B pid m).getD i 0 < (us B pid m).getD j 0 := by
  have h := List.pairwise_iff_getElem.1 (us_sorted B pid m) i j (by omega) hj hij
  rw [List.getD_eq_getElem?_getD, List.getD_eq_getElem?_getD, List.getElem?_eq_getElem (by omega), List.getElem?_eq_getElem hj]
  exact h
theorem us_at (B : Nat → Int) (pid : Int) (m i : Nat) (hi : i < (us B pid m).length) : (us B pid m).getD i 0 ∈ us B pid m := by
  rw [List.getD_eq_getElem?_getD, List.getElem?_eq_getElem hi]
  exact List.getElem_mem hi
/-- Of each packet that was taken behind the first. -/
theorem us_facts {B : Nat → Int} {pid : Int} {L d0 m i : Nat} (hf : Found B pid L d0 m) (h1 : 1 ≤ i) (hi : i < (us B pid m).length) :
    1 ≤ (us B pid m).getD i 0 ∧ 188 * ((us B pid m).getD i 0 + 1) ≤ L ∧ (∃ a, pay (fun j => B (188 * (us B pid m).getD i 0 + j)) pid = some a) ∧ stt (fun j => B (188 * (us B pid m).getD i 0 + j)) = false := by
  have hm := us_at B pid m i hi
  have hle := us_le B pid m _ hm
  have hlt := us_lt B pid m 0 i (by omega) hi
  rw [us_head] at hlt
  have hs := us_some B pid m _ hm (by omega)
  have hr := hf.room
  refine ⟨by omega, by omega, ?_, hf.calm _ (by omega) hle hs⟩
  obtain ⟨a, ha⟩ := Option.isSome_iff_exists.1 hs
  exact ⟨a, ha⟩
end Go.Proofs.Qxb6601749a
