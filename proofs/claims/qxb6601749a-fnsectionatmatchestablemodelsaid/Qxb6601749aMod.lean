import Derived.Test.Qxb6601749aUse
namespace Go.Proofs.Qxb6601749a
open Go.RowKit

/-! ### The plain mathematics of sectionModelB1 -/
/-- The carriers among the packets 1 .. m. -/
def cs (B : Nat → Int) (pid : Int) : Nat → List Nat
  | 0 => []
  | m + 1 => cs B pid m ++ (if (payAt B pid (m + 1)).isSome then [m + 1] else [])
def datC (B : Nat → Int) (pid : Int) (d0 : Nat) (l : List Nat) : List Int := seg B d0 (188 - d0) ++ l.flatMap fun j => seg B (188 * j + offs B pid j) (188 - offs B pid j)
def cum (B : Nat → Int) (pid : Int) (d0 : Nat) (l : List Nat) (u : Nat) : Nat := (datC B pid d0 (l.take u)).length

theorem us_cs (B : Nat → Int) (pid : Int) (m : Nat) : us B pid m = 0 :: cs B pid m := by
  induction m with
  | zero => rfl
  | succ m ih => simp [us, cs, ih]
theorem dat_cs (B : Nat → Int) (pid : Int) (d0 m : Nat) : dat B pid d0 m = datC B pid d0 (cs B pid m) := by
  induction m with
  | zero => simp [dat, datC, cs]
  | succ m ih =>
    rcases h : payAt B pid (m + 1) with _ | a
    · rw [dat_none h, ih]; simp [cs, h]
    · rw [dat_some h, ih]; simp [cs, h, datC, offs_some h]
theorem pks_cs (B : Nat → Int) (pid : Int) (m : Nat) : pks B pid m = flat B (0 :: cs B pid m) := by rw [pks_flat, us_cs]
theorem cs_succ_none {B : Nat → Int} {pid : Int} {m : Nat} (h : payAt B pid (m + 1) = none) : cs B pid (m + 1) = cs B pid m := by simp [cs, h]
theorem cs_succ_some {B : Nat → Int} {pid : Int} {m a : Nat} (h : payAt B pid (m + 1) = some a) : cs B pid (m + 1) = cs B pid m ++ [m + 1] := by simp [cs, h]
theorem cs_len (B : Nat → Int) (pid : Int) (m : Nat) : (cs B pid m).length ≤ m := by
  induction m with
  | zero => simp [cs]
  | succ m ih => simp only [cs, List.length_append]; split <;> simp <;> omega
theorem cs_pre (B : Nat → Int) (pid : Int) {m M : Nat} (h : m ≤ M) : ∃ r, cs B pid M = cs B pid m ++ r := by
  induction h with
  | refl => exact ⟨[], by simp⟩
  | step _ ih => obtain ⟨r, hr⟩ := ih; rw [cs, hr]; exact ⟨_, List.append_assoc _ _ _⟩
theorem cs_take (B : Nat → Int) (pid : Int) {m M : Nat} (h : m ≤ M) : (cs B pid M).take (cs B pid m).length = cs B pid m := by
  obtain ⟨r, hr⟩ := cs_pre B pid h
  rw [hr]; simp
theorem cs_mono (B : Nat → Int) (pid : Int) {m M : Nat} (h : m ≤ M) : (cs B pid m).length ≤ (cs B pid M).length := by
  obtain ⟨r, hr⟩ := cs_pre B pid h
  rw [hr]; simp
theorem cs_find (B : Nat → Int) (pid : Int) (M : Nat) : ∀ u, u ≤ (cs B pid M).length → ∃ m, m ≤ M ∧ (cs B pid m).length = u ∧ ∀ j, j < m → (cs B pid j).length < u := by
  induction M with
  | zero => intro u hu; simp [cs] at hu; exact ⟨0, Nat.le_refl _, by simp [cs, hu], fun j hj => absurd hj (by omega)⟩
  | succ M ih =>
    intro u hu
    rcases Nat.lt_or_ge (cs B pid M).length u with h | h
    · refine ⟨M + 1, Nat.le_refl _, ?_, fun j hj => ?_⟩
      · have : (cs B pid (M + 1)).length ≤ (cs B pid M).length + 1 := by simp only [cs, List.length_append]; split <;> simp
        omega
      · have := cs_mono B pid (show j ≤ M by omega); omega
    · obtain ⟨m, h1, h2, h3⟩ := ih u h
      exact ⟨m, by omega, h2, h3⟩
theorem cs_mem (B : Nat → Int) (pid : Int) (m : Nat) : ∀ j ∈ cs B pid m, 1 ≤ j ∧ j ≤ m ∧ (payAt B pid j).isSome = true := by
  intro j hj
  have h1 : j ∈ us B pid m := by rw [us_cs]; exact List.mem_cons_of_mem _ hj
  have h2 := us_le B pid m j h1
  have h3 : j ≠ 0 := by
    have := us_sorted B pid m
    rw [us_cs, List.pairwise_cons] at this
    have := this.1 j hj
    omega
  exact ⟨by omega, h2, us_some B pid m j h1 h3⟩
theorem mem_cs (B : Nat → Int) (pid : Int) (m : Nat) : ∀ j, 1 ≤ j → j ≤ m → (payAt B pid j).isSome = true → j ∈ cs B pid m := by
  induction m with
  | zero => intro j h1 h2; omega
  | succ m ih =>
    intro j h1 h2 h3
    rw [cs, List.mem_append]
    rcases Nat.lt_or_ge m j with h | h
    · obtain rfl : j = m + 1 := by omega
      right; rw [if_pos h3]; simp
    · left; exact ih j h1 h h3

/-- What the model looks for. -/
structure MF (B : Nat → Int) (pid : Int) (d0 : Nat) (I : List Nat) (u : Nat) : Prop where
  le : u ≤ I.length
  short : ∀ v, v < u → cum B pid d0 I v < secN B d0
  calm : ∀ j ∈ I.take u, stt (pkt B (188 * j)) = false
  enough : secN B d0 ≤ cum B pid d0 I u
  least : 12 ≤ secN B d0
  cur : (bits .and .u8 ((datC B pid d0 (I.take u)).getD 5 0) 1 == 0) = false

theorem MF.found {B : Nat → Int} {pid : Int} {L d0 M u : Nat} (hM : 188 * (M + 1) ≤ L) (h : MF B pid d0 (cs B pid M) u) :
    ∃ m, Found B pid L d0 m ∧ dat B pid d0 m = datC B pid d0 ((cs B pid M).take u) ∧ pks B pid m = flat B (0 :: (cs B pid M).take u) := by
  obtain ⟨m, h1, h2, h3⟩ := cs_find B pid M u h.le
  have ht : (cs B pid M).take u = cs B pid m := by rw [← h2]; exact cs_take B pid h1
  refine ⟨m, ⟨by omega, ?_, ?_, ?_, h.least, ?_⟩, ?_, ?_⟩
  · intro j hj
    have := h.short _ (h3 j hj)
    unfold cum at this
    rw [cs_take B pid (show j ≤ M by omega), ← dat_cs] at this
    exact this
  · intro j a1 a2 a3
    exact h.calm j (by rw [ht]; exact mem_cs B pid m j a1 a2 a3)
  · have := h.enough
    unfold cum at this
    rw [ht, ← dat_cs] at this
    exact this
  · rw [dat_cs, ← ht]; exact h.cur
  · rw [dat_cs, ht]
  · rw [pks_cs, ht]
theorem Found.mf {B : Nat → Int} {pid : Int} {L d0 M m : Nat} (hM : L < 188 * (M + 2)) (h : Found B pid L d0 m) : MF B pid d0 (cs B pid M) (cs B pid m).length := by
  have hr := h.room
  have hm : m ≤ M := by omega
  refine ⟨cs_mono B pid hm, ?_, ?_, ?_, h.least, ?_⟩
  · intro v hv
    obtain ⟨j, a1, a2, a3⟩ := cs_find B pid m v (by omega)
    have hj : j < m := by
      rcases Nat.lt_or_ge j m with h | h
      · exact h
      · have := cs_mono B pid h; omega
    have := h.short j hj
    unfold cum
    rw [← a2, cs_take B pid (show j ≤ M by omega), ← dat_cs]
    exact this
  · intro j hj
    rw [cs_take B pid hm] at hj
    obtain ⟨b1, b2, b3⟩ := cs_mem B pid m j hj
    exact h.calm j b1 b2 b3
  · unfold cum; rw [cs_take B pid hm, ← dat_cs]; exact h.enough
  · rw [cs_take B pid hm, ← dat_cs]; exact h.cur
theorem MF.uniq {B : Nat → Int} {pid : Int} {d0 u v : Nat} {I : List Nat} (h : MF B pid d0 I u) (h1 : ∀ x, x < v → cum B pid d0 I x < secN B d0) (h2 : secN B d0 ≤ cum B pid d0 I v) : u = v := by
  rcases Nat.lt_trichotomy u v with a | a | a
  · have := h1 u a; have := h.enough; omega
  · exact a
  · have := h.short v a; omega

theorem cum_zero (B : Nat → Int) (pid : Int) (d0 : Nat) (I : List Nat) : cum B pid d0 I 0 = 188 - d0 := by simp [cum, datC, length_seg]
theorem datC_snoc (B : Nat → Int) (pid : Int) (d0 : Nat) (I : List Nat) (i : Nat) (hi : i < I.length) : datC B pid d0 (I.take (i + 1)) = datC B pid d0 (I.take i) ++ seg B (188 * I.getD i 0 + offs B pid (I.getD i 0)) (188 - offs B pid (I.getD i 0)) := by
  have : I.getD i 0 = I[i] := by simp [List.getD, hi]
  rw [this, List.take_succ_eq_append_getElem hi]
  simp only [datC, List.flatMap_append, List.flatMap_cons, List.flatMap_nil, List.append_nil, List.append_assoc]
theorem flat_snoc (B : Nat → Int) (I : List Nat) (i : Nat) (hi : i < I.length) : flat B (0 :: I.take (i + 1)) = flat B (0 :: I.take i) ++ seg B (188 * I.getD i 0) 188 := by
  have : I.getD i 0 = I[i] := by simp [List.getD, hi]
  rw [this, List.take_succ_eq_append_getElem hi]
  simp only [flat, List.flatMap_append, List.flatMap_cons, List.flatMap_nil, List.append_nil, List.append_assoc]
theorem cum_succ (B : Nat → Int) (pid : Int) (d0 : Nat) (I : List Nat) (i : Nat) (hi : i < I.length) : cum B pid d0 I (i + 1) = cum B pid d0 I i + (188 - offs B pid (I.getD i 0)) := by
  unfold cum; rw [datC_snoc _ _ _ _ _ hi]; simp [length_seg]
theorem cum_le (B : Nat → Int) (pid : Int) (d0 : Nat) (I : List Nat) (u : Nat) : cum B pid d0 I u ≤ 188 * (u + 1) := by
  induction u with
  | zero => rw [cum_zero]; omega
  | succ u ih =>
    rcases Nat.lt_or_ge u I.length with h | h
    · rw [cum_succ _ _ _ _ _ h]; omega
    · have : I.take (u + 1) = I.take u := by rw [List.take_of_length_le (by omega), List.take_of_length_le h]
      unfold cum at *; rw [this]; omega
end Go.Proofs.Qxb6601749a
