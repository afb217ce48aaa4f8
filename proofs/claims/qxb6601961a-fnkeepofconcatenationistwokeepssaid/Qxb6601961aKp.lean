import Derived.Test.Qxb6601961aCat
namespace Go.Proofs.Qxb6601961a
open Go.RowKit

/-! ### The plain mathematics of keep -/
def vals (D : List Int) : List Value := D.map (Value.int .u8)
def scan (ln : List Int) (n : Int) (b0 b1 b2 b3 b4 : Bool) : List Value := vals ln ++ [.int .i64 n, .bool b0, .bool b1, .bool b2, .bool b3, .bool b4]
/-- The line's first bytes behind keep(part), n the line's length before. -/
def kp (ln : List Int) (n : Nat) (D : List Int) : List Int := if n < 15 then splice ln n (D.take (15 - n)) else ln

theorem splice_get {α : Type} (L cs : List α) (n i : Nat) (h : n + cs.length ≤ L.length) : (splice L n cs)[i]? = if n ≤ i ∧ i < n + cs.length then cs[i - n]? else L[i]? := by
  unfold splice
  by_cases h1 : i < n
  · rw [List.getElem?_append_left (by simp; omega), if_neg (by omega), List.getElem?_take_of_lt h1]
  · rw [List.getElem?_append_right (by simp; omega)]
    have e : i - (L.take n).length = i - n := by simp; omega
    rw [e]
    by_cases h2 : i < n + cs.length
    · rw [List.getElem?_append_left (by omega), if_pos (by omega)]
    · rw [List.getElem?_append_right (by omega), if_neg (by omega), List.getElem?_drop]
      congr 1
      omega
theorem kp_len {ln : List Int} (h : ln.length = 15) (n : Nat) (D : List Int) : (kp ln n D).length = 15 := by
  unfold kp
  split
  · rw [length_splice _ _ _ (by rw [List.length_take]; omega), h]
  · exact h
theorem kp_get {ln : List Int} (h : ln.length = 15) (n : Nat) (D : List Int) (i : Nat) (hi : i < 15) : (kp ln n D)[i]? = if n ≤ i ∧ i < n + D.length then D[i - n]? else ln[i]? := by
  unfold kp
  by_cases hn : n < 15
  · rw [if_pos hn, splice_get _ _ _ _ (by rw [List.length_take]; omega), List.length_take]
    by_cases h1 : n ≤ i ∧ i < n + D.length
    · rw [if_pos (by omega), if_pos h1, List.getElem?_take_of_lt (by omega)]
    · rw [if_neg (by omega), if_neg h1]
  · rw [if_neg hn, if_neg (by omega)]
/-- THE PLAIN LAW: keeping A and then B is keeping A ++ B. -/
theorem kp_kp {ln : List Int} (h : ln.length = 15) (n : Nat) (A B : List Int) : kp (kp ln n A) (n + A.length) B = kp ln n (A ++ B) := by
  apply List.ext_getElem?
  intro i
  by_cases hi : i < 15
  · rw [kp_get (kp_len h n A) _ _ _ hi, kp_get h _ _ _ hi, kp_get h _ _ _ hi, List.length_append]
    by_cases h1 : n + A.length ≤ i ∧ i < n + A.length + B.length
    · rw [if_pos h1, if_pos (by omega), List.getElem?_append_right (by omega)]
      congr 1; omega
    · rw [if_neg h1]
      by_cases h2 : n ≤ i ∧ i < n + A.length
      · rw [if_pos h2, if_pos (by omega), List.getElem?_append_left (by omega)]
      · rw [if_neg h2, if_neg (by omega)]
  · rw [List.getElem?_eq_none (by rw [kp_len (kp_len h n A)]; omega), List.getElem?_eq_none (by rw [kp_len h]; omega)]

theorem length_vals (D : List Int) : (vals D).length = D.length := by simp [vals]
theorem vals_one (D : List Int) : ∀ u ∈ vals D, u.oneCell' = true := by
  intro u hu; simp [vals] at hu; obtain ⟨_, _, rfl⟩ := hu; rfl
theorem scan_len {ln : List Int} (h : ln.length = 15) (n : Int) (b0 b1 b2 b3 b4 : Bool) : (scan ln n b0 b1 b2 b3 b4).length = 21 := by simp [scan, length_vals, h]
/-- What the copy and the store leave. -/
theorem scan_kept {ln : List Int} (h : ln.length = 15) (n : Nat) (hn : n < 15) (D : List Int) (v : Int) (b0 b1 b2 b3 b4 : Bool) :
    (splice (scan ln n b0 b1 b2 b3 b4) n (vals (D.take (15 - n)))).set 15 (.int .i64 v) = scan (kp ln n D) v b0 b1 b2 b3 b4 := by
  have e : splice (scan ln n b0 b1 b2 b3 b4) n (vals (D.take (15 - n))) = vals (kp ln n D) ++ [.int .i64 n, .bool b0, .bool b1, .bool b2, .bool b3, .bool b4] := by
    unfold kp scan
    rw [if_pos hn]
    unfold splice
    rw [List.take_append_of_le_length (by rw [length_vals]; omega), List.drop_append_of_le_length (by simp only [length_vals, List.length_take]; omega)]
    simp [vals]
  rw [e]
  unfold scan
  rw [List.set_append_right _ _ (by rw [length_vals, kp_len h]; omega), length_vals, kp_len h]
  rfl
theorem scan_set {ln : List Int} (h : ln.length = 15) (n v : Int) (b0 b1 b2 b3 b4 : Bool) : (scan ln n b0 b1 b2 b3 b4).set 15 (.int .i64 v) = scan ln v b0 b1 b2 b3 b4 := by
  unfold scan
  rw [List.set_append_right _ _ (by rw [length_vals, h]; omega), length_vals, h]
  rfl
theorem scan_at15 {ln : List Int} (h : ln.length = 15) (n : Int) (b0 b1 b2 b3 b4 : Bool) : (scan ln n b0 b1 b2 b3 b4)[15]? = some (.int .i64 n) := by
  unfold scan
  rw [List.getElem?_append_right (by rw [length_vals, h]; omega), length_vals, h]
  rfl

theorem Try.size5 : (Try.prog.info? 5).map (·.size) = some 1 := by kernel_rfl
theorem set_toArray (L : List Value) (i : Nat) (v : Value) : L.toArray.setIfInBounds i v = (L.set i v).toArray := by simp

set_option maxRecDepth 20000 in
set_option maxHeartbeats 1000000 in
theorem keep17 (g n m c : Nat) (ln D : List Int) (b0 b1 b2 b3 b4 : Bool) (p : Option Addr) (w : World) (hl : ln.length = 15)
    (hg : w.heap[g]? = some (.cells (scan ln n b0 b1 b2 b3 b4).toArray 41 (0, 0))) (hm : m = D.length) (hnm : n + m ≤ 9223372036854775807)
    (f : ∀ k, k < m → ∃ a, p = some ⟨a, 0, none⟩ ∧ w.cell? ⟨a, k, none⟩ = some (.int .u8 (D.getD k 0))) :
    Calls Try.prog 17 #[.pointer (some ⟨g, 0, none⟩), .slice p m c] w fun e w' => e = .returned (.tuple #[]) ∧ w'.heap[g]? = some (.cells (scan (kp ln n D) ((n + m : Nat) : Int) b0 b1 b2 b3 b4).toArray 41 (0, 0)) ∧ Below g w w' := by
  have HG : Hid (w.heap[g]? = some (.cells (scan ln n b0 b1 b2 b3 b4).toArray 41 (0, 0))) := hg
  have HF : Hid (∀ k, k < m → ∃ a, p = some ⟨a, 0, none⟩ ∧ w.cell? ⟨a, k, none⟩ = some (.int .u8 (D.getD k 0))) := f
  have HM : Hid (m = D.length) := hm
  have HL : Hid (ln.length = 15) := hl
  have q15 : w.cell? ⟨g, 15, none⟩ = some (.int .i64 (n : Int)) := by
    rw [cell_of_row w g 15 _ _ _ hg]; simpa using scan_at15 hl (n : Int) b0 b1 b2 b3 b4
  have r15 : w.frozen? ⟨g, 15, none⟩ = false := frozen_of_row w g 15 _ _ hg
  have hnm' : (n : Int) + (m : Int) ≤ 9223372036854775807 := by omega
  clear hg f hm hl
  by_cases hn : n < 15
  · have hn' : (n : Int) < 15 := by omega
    have hn'' : (n : Int) ≤ 15 := by omega
    have hn0 : (0 : Int) ≤ (n : Int) := by omega
    obtain ⟨X, hX⟩ : ∃ X, X = vals (D.take (15 - n)) := ⟨_, rfl⟩
    have HX : Hid (X = vals (D.take (15 - n))) := hX
    have HXl : Hid (X.length = Nat.min m (15 - n)) := by
      show _ = _
      rw [hX, length_vals, List.length_take, HM.out, Nat.min_comm]
    have HX2 : Hid (X.length ≤ 15 - n) := by show _ ≤ _; rw [hX, length_vals, List.length_take]; omega
    have HX1 : Hid (∀ v ∈ X, v.oneCell' = true) := by rw [hX]; exact vals_one _
    obtain ⟨S, hS⟩ : ∃ S, S = scan ln n b0 b1 b2 b3 b4 := ⟨_, rfl⟩
    have HS : Hid (S = scan ln n b0 b1 b2 b3 b4) := hS
    have HSl : Hid (S.length = 21) := by rw [hS]; exact scan_len HL.out _ _ _ _ _ _
    have HG' : Hid (w.heap[g]? = some (.cells S.toArray 41 (0, 0))) := by rw [hS]; exact HG
    have HP : Hid (0 < X.length → ∃ ad, p = some ad ∧ ∀ j v, X[j]? = some v → w.cell? (ad.add j) = some v) := by
      intro h0
      have hxl := HXl.out
      have hm0 : 0 < m := by
        rcases Nat.eq_zero_or_pos m with h | h
        · rw [h] at hxl; simp at hxl; simp [hxl] at h0
        · exact h
      obtain ⟨a, ha, _⟩ := HF.out 0 hm0
      refine ⟨_, ha, ?_⟩
      intro j v hj
      have hjX : j < X.length := (List.getElem?_eq_some_iff.1 hj).1
      have hjm : j < m := by rw [hxl] at hjX; exact Nat.lt_of_lt_of_le hjX (Nat.min_le_left _ _)
      obtain ⟨a', ha', hc⟩ := HF.out j hjm
      rw [ha] at ha'
      cases ha'
      rw [add_none, Nat.zero_add, hc, ← hj, hX]
      have hjn : j < 15 - n := by rw [hxl] at hjX; exact Nat.lt_of_lt_of_le hjX (Nat.min_le_right _ _)
      have hjD : j < D.length := by rw [← HM.out]; exact hjm
      simp [vals, List.getElem?_take_of_lt hjn, List.getD, hjD]
    have h15 : ¬ 15 = n := by omega
    have HQ : Hid ((splice S n X)[15]? = some (.int .i64 (n : Int))) := by
      show _ = _
      have h1 := HX2.out
      have h2 := HSl.out
      rw [splice_get _ _ _ _ (by omega), if_neg (by omega), hS]
      exact scan_at15 HL.out _ _ _ _ _ _
    clear hX hS HG
    go_enter Try.func17, Try.ntmps17
    go_wp2
    go_region_held3 (fun w' => w'.cell? ⟨g, 15, none⟩ = some (.int .i64 (n : Int)))
      (first
        | go_keep
        | (rw [cell_of_row _ g 15 _ _ _ HG2.out]; simpa using HQ.out))
      ((refine step_copy_splice (by rfl) (.tmp 16) (.tmp 17) 23 23 (by rfl) 5 Try.underlying23 Try.size5 (some ⟨g, n, none⟩) p (15 - n) (15 - n) m c (by rfl) (by rfl) g n S 41 HG'.out X HXl.out (fun h0 => ⟨rfl, HP.out h0⟩) (by have := HX2.out; have := HSl.out; omega) HX1.out g w (Below.refl _ _).drew (Nat.le_refl _) ?_; intro w2 HG2 hB2))
    have q2 : w2.cell? ⟨g, 15, none⟩ = some (.int .i64 (n : Int)) := by rw [cell_of_row _ g 15 _ _ _ HG2.out]; simpa using HQ.out
    have r2 : w2.frozen? ⟨g, 15, none⟩ = false := frozen_of_row w2 g 15 _ _ HG2.out
    clear q15 r15
    go_wp2
    go_end0
    refine ⟨rfl, ?_, hB2.setCell (Nat.le_refl _) _⟩
    rw [heap_setCell_same w2 g 15 _ 41 _ HG2.out, set_toArray, HX.out, HS.out, scan_kept HL.out n hn D _ b0 b1 b2 b3 b4]
    rfl
  · go_enter Try.func17, Try.ntmps17
    go_wp2
    go_end0
    refine ⟨rfl, ?_, (Below.refl g w).setCell (p := ⟨g, 15, none⟩) (Nat.le_refl _) _⟩
    rw [heap_setCell_same w g 15 _ 41 _ HG.out, set_toArray, scan_set HL.out, kp, if_neg hn]
    rfl
end Go.Proofs.Qxb6601961a
