import Derived.Test.Qxb6601749aSecZ
import Derived.Test.Qxb6601749aUse
import Derived.Laws.CopyOwn
namespace Go.Proofs.Qxb6601749a
open Go.RowKit
set_option linter.unusedSimpArgs false

theorem Try.size5 : (Try.prog.info? 5).map (·.size) = some 1 := by kernel_rfl

/-- A new row of n bytes, and the first n of D laid over it. -/
theorem At_of_block {w : World} {g : Nat} {cs : List Value} {D : List Int} (h : w.heap[g]? = some (.cells cs.toArray 5 (0, 0))) (n : Nat) (hn : n ≤ D.length) (he : ∀ i, i < n → cs[i]? = some (.int .u8 (D.getD i 0))) (hD : ∀ z ∈ D, 0 ≤ z ∧ z ≤ 255) : At w g 0 n (fun i => D.getD i 0) := by
  intro i hi
  refine ⟨?_, ?_⟩
  · have := cell_of_row w g (0 + i) cs.toArray 5 (0, 0) h
    rw [this]
    simpa using he i hi
  · show 0 ≤ D.getD i 0 ∧ D.getD i 0 ≤ 255
    have : D.getD i 0 = D[i] := by simp [List.getD, show i < D.length by omega]
    rw [this]; exact hD _ (List.getElem_mem _)

theorem same17v (b1 o1 c1 b2 o2 c2 n : Nat) (P Q : Nat → Int) (r : Bool) (w : World) (hP : At w b1 o1 n P) (hQ : At w b2 o2 n Q) (hn : n ≤ 9000000000000000000) (hr : sameB n P Q = r) :
    Calls Try.prog 17 #[.slice (some ⟨b1, o1, none⟩) n c1, .slice (some ⟨b2, o2, none⟩) n c2] w fun e w' => e = .returned (.bool r) ∧ ∃ m, w' = w.drewN m := by
  rw [← hr]; exact same17 b1 o1 c1 b2 o2 c2 n P Q w hP hQ hn
theorem same17w (b1 o1 c1 b2 o2 c2 n n1 n2 : Nat) (P Q : Nat → Int) (r : Bool) (w : World) (hP : At w b1 o1 n P) (hQ : At w b2 o2 n Q) (hn : n ≤ 9000000000000000000) (hr : sameB n P Q = r) (h1 : n1 = n) (h2 : n2 = n) :
    Calls Try.prog 17 #[.slice (some ⟨b1, o1, none⟩) n1 c1, .slice (some ⟨b2, o2, none⟩) n2 c2] w fun e w' => e = .returned (.bool r) ∧ ∃ m, w' = w.drewN m := by
  rw [← hr, h1, h2]; exact same17 b1 o1 c1 b2 o2 c2 n P Q w hP hQ hn
theorem own_block {w : World} {base g n e : Nat} {xs : List Value} (h : w.ownsRow base e 1 (.slice (some ⟨g, 0, none⟩) n n) n xs) : ∃ Zs : List Value, w.heap[g]? = some (.cells Zs.toArray e (0, 0)) ∧ Zs.length = n := by
  rcases h.2 with ⟨h0, _⟩ | ⟨g', cap', cur, hv, _, hg, _, _, hs, _⟩
  · cases h0
  · simp at hv
    obtain ⟨rfl, rfl⟩ := hv
    exact ⟨cur.toList, by simpa using hg, by simpa using hs⟩

theorem splice_at {Zs X : List Value} {i : Nat} (hi : i < X.length) : (splice Zs 0 X)[i]? = X[i]? := by
  simp only [splice, List.take_zero, List.nil_append]
  rw [List.getElem?_append_left hi]

theorem At_copied {w : World} {g len : Nat} {Zs X : List Value} {D : List Int} (HG : Hid (w.heap[g]? = some (.cells (splice Zs 0 X).toArray 5 (0, 0)))) (HX : Hid (X = vals (D.take len))) (hl : len ≤ D.length) (hD : ∀ z ∈ D, 0 ≤ z ∧ z ≤ 255) : At w g 0 len (fun i => D.getD i 0) := by
  refine At_of_block HG.out len hl (fun i hi => ?_) hD
  have hx : X.length = len := by rw [HX.out, length_vals, List.length_take]; omega
  rw [splice_at (by omega), HX.out]
  simp [vals, List.getElem?_take_of_lt hi, List.getD, show i < D.length by omega]

end Go.Proofs.Qxb6601749a
