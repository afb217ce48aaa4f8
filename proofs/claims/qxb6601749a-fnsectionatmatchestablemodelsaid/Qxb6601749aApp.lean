import Derived.Test.Qxb6601749aSec
namespace Go.Proofs.Qxb6601749a
open Go.RowKit

theorem Try.info5 : (Try.prog.info? 5).map (fun i => (i.zero, i.size, i.bytes)) = some (some (.int .u8 0), 1, 1) := by kernel_rfl
theorem ownsRow_drewN {w : World} {base : Nat} {e : TypeId} {size : Nat} {v : Value} {n : Nat} {xs : List Value} (h : w.ownsRow base e size v n xs) (m : Nat) : (w.drewN m).ownsRow base e size v n xs := h
theorem below_drewN' {B : Nat} {a w : World} (h : Below B a w) (n : Nat) : Below B a (w.drewN n) := ⟨h.os, h.tape, h.output, h.size, h.block⟩
theorem seg_shift (B : Nat → Int) (k m : Nat) : seg (fun i => B (k + i)) 0 m = seg B k m := by simp [seg]

/-- The call owns the bytes D, in the block g. -/
def Own (w : World) (base g cap : Nat) (D : List Int) : Prop := w.ownsRow base 5 1 (.slice (some ⟨g, 0, none⟩) D.length cap) D.length (vals D)

theorem Own.lt {w : World} {base g cap : Nat} {D : List Int} (h : Own w base g cap D) : base ≤ g ∧ g < w.heap.size := World.ownsRow.lt h g rfl
theorem Own.drewN {w : World} {base g cap : Nat} {D : List Int} (h : Own w base g cap D) (n : Nat) : Own (w.drewN n) base g cap D := h
theorem Own.at {w : World} {base g cap : Nat} {D : List Int} (h : Own w base g cap D) (hD : ∀ z ∈ D, 0 ≤ z ∧ z ≤ 255) : At w g 0 D.length (fun i => D.getD i 0) := own_at h hD
theorem Own.cap {w : World} {base g cap : Nat} {D : List Int} (h : Own w base g cap D) : D.length ≤ cap ∧ cap ≤ maxLen := by
  rcases h.2 with ⟨h0, _⟩ | ⟨g', cap', cur, hv, _, _, h1, h2, _⟩
  · cases h0
  · simp at hv
    obtain ⟨_, rfl⟩ := hv
    exact ⟨h1, h2⟩

theorem Own.kept {w w' : World} {base g cap g' : Nat} {D : List Int} (h : Own w base g cap D) (hg : w.grownBy w' (some g')) (hne : g ≠ g') : Own w' base g cap D :=
  World.ownsRow.kept h hg (.inr (by simpa [Value.ownBlock] using hne))

theorem Own.alloc {w : World} {base g cap : Nat} {D : List Int} (h : Own w base g cap D) (o : Obj) : Own (w.alloc o) base g cap D := World.ownsRow.alloc h o

/-- A new, empty slice of bytes. -/
theorem Own.empty (w : World) {base : Nat} (hb : base ≤ w.heap.size) (g : Nat) (hg : g = w.heap.size) : Own (w.alloc (.cells #[] 5)) base g 0 [] := by
  subst hg
  exact World.ownsRow_made w #[] 0 hb (by simp [maxLen]) (by simp)

/-- 'append(out, src...)': out the call's own bytes, src at least one byte. -/
theorem wpList_app {w : World} {ops : Array Oper} {rest : List Oper} {o : Oper} {act : Act} {Q : Exit → Act → World → Prop} (hgd : o.guard = none) (s x : Operand)
    (ho : o.op = .call { callee := .builtin .append, args := #[s, x], argTypes := #[22, 22] })
    (base g0 cap0 : Nat) (D : List Int) (hs : act.eval s = .slice (some ⟨g0, 0, none⟩) D.length cap0) (hown : Own w base g0 cap0 D)
    (b off m m' c : Nat) (src : Nat → Int) (hx : act.eval x = .slice (some ⟨b, off, none⟩) m' c) (hmm : m' = m) (hat : At w b off m src)
    (hm : 0 < m) (hsz : D.length + m ≤ 100000000) (hbase : base ≤ w.heap.size) (W0 : World) (hbel : Below base W0 w)
    (h : ∀ g cap w' (E : List Int), Hid (E = D ++ seg src 0 m) → Own w' base g cap E → w.grownBy w' (some g0) → (g = g0 ∨ g = w.heap.size) → g < w'.heap.size → Below base W0 w' → wpList Try.prog ops Q rest (act.put o.dst (.slice (some ⟨g, 0, none⟩) E.length cap)) w') :
    wpList Try.prog ops Q (o :: rest) act w := by
  rw [hmm] at hx
  obtain ⟨i0, hi, hz0, hz1, hz2⟩ := info_parts Try.info5
  have hL : (D ++ seg src 0 m).length = D.length + m := by simp [length_seg]
  refine wpList_append_lies w hgd s x 22 ho base 5 i0 (.int .u8 0) 1 1 Try.underlying22 hi hz0 hz1 hz2 rfl (by decide) _ D.length (vals D) hs hown ⟨b, off, none⟩ m c (vals (seg src 0 m)) hx
    (by simp [length_vals, length_seg]) (by simpa using news_seg hat 0 m (by omega)) (vals_one _) hm (by unfold maxLen; omega) (by omega) hbase _ rfl ?_
  intro g cap w' h1 h2 h3 h4
  rw [← hL, vals_append] at h1
  rw [← hL]
  refine h g cap w' _ rfl h1 h2 ?_ h4 (hbel.grown h2 hbase ?_)
  · rcases h3 with h3 | h3
    · left; simpa [Value.ownBlock, eq_comm] using h3
    · exact .inr h3
  · intro k hk
    simp [Value.ownBlock] at hk
    have := hown.lt.1
    omega
end Go.Proofs.Qxb6601749a
