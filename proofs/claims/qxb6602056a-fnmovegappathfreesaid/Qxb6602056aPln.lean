import Derived.Test.Qxb6602056aBel
namespace Go.Proofs.Qxb6602056a
open Go.RowKit

def nb1 (T : List Int) (k : Nat) : List Int := if T.getD k 0 = 10 then [(k : Int)] else []
theorem NB_succ (T : List Int) (k : Nat) : NB T (k + 1) = NB T k ++ nb1 T k := rfl
/-- The newlines from p on, k signs. -/
def NX (T : List Int) (p : Nat) : Nat → List Int
  | 0 => []
  | k + 1 => NX T p k ++ nb1 T (p + k)
theorem NB_add (T : List Int) (p k : Nat) : NB T (p + k) = NB T p ++ NX T p k := by
  induction k with
  | zero => simp [NX]
  | succ k ih => rw [← Nat.add_assoc, NB_succ, ih, NX, List.append_assoc]
theorem NX_front (T : List Int) (p k : Nat) : NX T p (k + 1) = nb1 T p ++ NX T (p + 1) k := by
  induction k with
  | zero => simp [NX]
  | succ k ih => rw [NX, ih, NX, List.append_assoc]; congr 2; congr 1; omega
theorem NX_mem (T : List Int) (p k : Nat) : ∀ z ∈ NX T p k, (p : Int) ≤ z ∧ z < (p + k : Int) := by
  induction k with
  | zero => simp [NX]
  | succ k ih =>
    intro z hz
    rw [NX, List.mem_append] at hz
    rcases hz with hz | hz
    · have := ih z hz; omega
    · unfold nb1 at hz
      split at hz
      · simp at hz; omega
      · simp at hz
theorem NB_mem (T : List Int) (p : Nat) : ∀ z ∈ NB T p, 0 ≤ z ∧ z < (p : Int) := by
  have h := NB_add T 0 p
  rw [Nat.zero_add] at h
  rw [h]
  intro z hz
  simp [NB] at hz
  have := NX_mem T 0 p z hz
  omega
theorem NB_sorted (T : List Int) (p : Nat) : (NB T p).Pairwise (· ≤ ·) := by
  induction p with
  | zero => simp [NB]
  | succ p ih =>
    rw [NB_succ, List.pairwise_append]
    refine ⟨ih, ?_, ?_⟩
    · unfold nb1; split <;> simp
    · intro a ha b hb
      have := NB_mem T p a ha
      unfold nb1 at hb
      split at hb
      · simp at hb; omega
      · simp at hb
theorem NB_count (T : List Int) (p k : Nat) : (NB T (p + k)).countP (· < (p : Int)) = (NB T p).length := by
  rw [NB_add, List.countP_append]
  have h1 : (NB T p).countP (· < (p : Int)) = (NB T p).length := List.countP_eq_length.2 fun z hz => by have := NB_mem T p z hz; simp; omega
  have h2 : (NX T p k).countP (· < (p : Int)) = 0 := List.countP_eq_zero.2 fun z hz => by have := NX_mem T p k z hz; simp; omega
  omega

def nu1 (T : List Int) (j : Nat) : List Int := if T.getD (T.length - 1 - j) 0 = 10 then [((j : Int) + 1)] else []
theorem NU_succ (T : List Int) (k : Nat) : NU T (k + 1) = NU T k ++ nu1 T k := rfl
def MX (T : List Int) (p : Nat) : Nat → List Int
  | 0 => []
  | k + 1 => MX T p k ++ nu1 T (p + k)
theorem NU_add (T : List Int) (p k : Nat) : NU T (p + k) = NU T p ++ MX T p k := by
  induction k with
  | zero => simp [MX]
  | succ k ih => rw [← Nat.add_assoc, NU_succ, ih, MX, List.append_assoc]
theorem MX_front (T : List Int) (p k : Nat) : MX T p (k + 1) = nu1 T p ++ MX T (p + 1) k := by
  induction k with
  | zero => simp [MX]
  | succ k ih => rw [MX, ih, MX, List.append_assoc]; congr 2; congr 1; omega
theorem MX_mem (T : List Int) (p k : Nat) : ∀ z ∈ MX T p k, (p : Int) + 1 ≤ z ∧ z ≤ (p + k : Int) := by
  induction k with
  | zero => simp [MX]
  | succ k ih =>
    intro z hz
    rw [MX, List.mem_append] at hz
    rcases hz with hz | hz
    · have := ih z hz; omega
    · unfold nu1 at hz
      split at hz
      · simp at hz; omega
      · simp at hz
theorem NU_mem (T : List Int) (p : Nat) : ∀ z ∈ NU T p, 1 ≤ z ∧ z ≤ (p : Int) := by
  have h := NU_add T 0 p
  rw [Nat.zero_add] at h
  rw [h]
  intro z hz
  simp [NU] at hz
  have := MX_mem T 0 p z hz
  omega
theorem NU_sorted (T : List Int) (p : Nat) : (NU T p).Pairwise (· ≤ ·) := by
  induction p with
  | zero => simp [NU]
  | succ p ih =>
    rw [NU_succ, List.pairwise_append]
    refine ⟨ih, ?_, ?_⟩
    · unfold nu1; split <;> simp
    · intro a ha b hb
      have := NU_mem T p a ha
      unfold nu1 at hb
      split at hb
      · simp at hb; omega
      · simp at hb
theorem NU_count (T : List Int) (p k : Nat) : (NU T (p + k)).countP (· < ((p + 1 : Nat) : Int)) = (NU T p).length := by
  rw [NU_add, List.countP_append]
  have h1 : (NU T p).countP (· < ((p + 1 : Nat) : Int)) = (NU T p).length := List.countP_eq_length.2 fun z hz => by have := NU_mem T p z hz; simp; omega
  have h2 : (MX T p k).countP (· < ((p + 1 : Nat) : Int)) = 0 := List.countP_eq_zero.2 fun z hz => by have := MX_mem T p k z hz; simp; omega
  omega
theorem MX_eq (T : List Int) (p k : Nat) (h : p + k ≤ T.length) : MX T (T.length - (p + k)) k = (NX T p k).reverse.map fun z => (T.length : Int) - z := by
  induction k with
  | zero => simp [MX, NX]
  | succ k ih =>
    rw [MX_front, NX, List.reverse_append, List.map_append, show T.length - (p + (k + 1)) + 1 = T.length - (p + k) by omega, ih (by omega)]
    congr 1
    unfold nu1 nb1
    rw [show T.length - 1 - (T.length - (p + (k + 1))) = p + k by omega]
    split
    · simp; omega
    · simp
theorem NX_eq (T : List Int) (p k : Nat) (h : p + k ≤ T.length) : NX T p k = (MX T (T.length - (p + k)) k).reverse.map fun z => (T.length : Int) - z := by
  rw [MX_eq T p k h, ← List.map_reverse, List.reverse_reverse, List.map_map]
  conv => lhs; rw [← List.map_id (NX T p k)]
  congr 1
  funext z
  simp
  omega
end Go.Proofs.Qxb6602056a
