import Derived.Test.Qxb6601749aCopy
import Derived.Test.Qxb6601749aMod
namespace Go.Proofs.Qxb6601749a
open Go.RowKit

theorem Try.info3 : (Try.prog.info? 3).map (fun i => (i.zero, i.size, i.bytes)) = some (some (.int .i64 0), 1, 8) := by kernel_rfl
theorem Try.info4 : (Try.prog.info? 4).map (fun i => (i.zero, i.size, i.bytes)) = some (some (.bool false), 1, 1) := by kernel_rfl

/-- The call owns the one-cell values xs, in the block g. -/
def OwnV (w : World) (base e g cap : Nat) (xs : List Value) : Prop := w.ownsRow base e 1 (.slice (some ⟨g, 0, none⟩) xs.length cap) xs.length xs
theorem OwnV.lt {w : World} {base e g cap : Nat} {xs : List Value} (h : OwnV w base e g cap xs) : base ≤ g ∧ g < w.heap.size := World.ownsRow.lt h g rfl
theorem OwnV.drewN {w : World} {base e g cap : Nat} {xs : List Value} (h : OwnV w base e g cap xs) (n : Nat) : OwnV (w.drewN n) base e g cap xs := h
theorem OwnV.kept {w w' : World} {base e g cap g' : Nat} {xs : List Value} (h : OwnV w base e g cap xs) (hg : w.grownBy w' (some g')) (hne : g ≠ g') : OwnV w' base e g cap xs :=
  World.ownsRow.kept h hg (.inr (by simpa [Value.ownBlock] using hne))
theorem OwnV.kept0 {w w' : World} {base e g cap : Nat} {xs : List Value} (h : OwnV w base e g cap xs) (hg : w.grownBy w' none) : OwnV w' base e g cap xs :=
  World.ownsRow.kept h hg (.inr (by simp [Value.ownBlock]))
theorem OwnV.alloc {w : World} {base e g cap : Nat} {xs : List Value} (h : OwnV w base e g cap xs) (o : Obj) : OwnV (w.alloc o) base e g cap xs := World.ownsRow.alloc h o
theorem OwnV.cell {w : World} {base e g cap : Nat} {xs : List Value} (h : OwnV w base e g cap xs) (j : Nat) (hj : j < xs.length) : w.cell? ⟨g, j, none⟩ = some xs[j] := by
  have := World.ownsRow.cellAt h j (by omega)
  rw [this, List.getElem?_eq_getElem hj]

/-- 'append(out, v)' within the capacity. -/
theorem wpList_push {w : World} {ops : Array Oper} {rest : List Oper} {o : Oper} {act : Act} {Q : Exit → Act → World → Prop} (hgd : o.guard = none) (s x : Operand) (t : TypeId)
    (ho : o.op = .call { callee := .builtin .append, args := #[s, x], argTypes := #[t, t] })
    (base e : Nat) (ht : Try.prog.underlying t = some (.slice e)) (i : TypeInfo) (hi : Try.prog.info? e = some i) (hsz : i.size = 1) (g cap : Nat) (xs : List Value) (v : Value) (hv : v.oneCell' = true)
    (hs : act.eval s = .slice (some ⟨g, 0, none⟩) xs.length cap) (hown : OwnV w base e g cap xs) (b : Nat) (hx : act.eval x = .slice (some ⟨b, 0, none⟩) 1 1) (hc : w.cell? ⟨b, 0, none⟩ = some v)
    (hfit : xs.length + 1 ≤ cap) (W0 : World) (hbel : Below base W0 w) (hb : base ≤ w.heap.size)
    (h : ∀ w' (ys : List Value), Hid (ys = xs ++ [v]) → OwnV w' base e g cap ys → w.grownBy w' (some g) → Below base W0 w' → wpList Try.prog ops Q rest (act.put o.dst (.slice (some ⟨g, 0, none⟩) ys.length cap)) w') :
    wpList Try.prog ops Q (o :: rest) act w := by
  have hL : (xs ++ [v]).length = xs.length + 1 := by simp
  refine wpList_append_fits w hgd s x t ho base e i 1 ht hi hsz g xs.length cap xs hs hown ⟨b, 0, none⟩ 1 1 [v] hx rfl ?_ ?_ hfit ?_
  · intro j u hu
    match j, hu with
    | 0, hu => simp at hu; subst hu; rw [add_none]; exact hc
  · intro u hu; simp at hu; subst hu; exact hv
  · intro w' h1 h2
    rw [← hL] at h1
    rw [← hL]
    refine h w' _ rfl h1 h2 (hbel.grown h2 hb ?_)
    intro k hk
    have := OwnV.lt hown
    simp at hk
    omega

/-- A row of ints that may be written. -/
def RowC (w : World) (g N : Nat) (F : Nat → Int) : Prop := ∀ i, i < N → w.cell? ⟨g, i, none⟩ = some (.int .i64 (F i)) ∧ w.frozen? ⟨g, i, none⟩ = false
theorem RowC.of_own {w : World} {base g n : Nat} {xs : List Value} (h : w.ownsRow base 3 1 (.slice (some ⟨g, 0, none⟩) n n) n xs) (F : Nat → Int) (hF : ∀ i, i < n → xs[i]? = some (.int .i64 (F i))) : RowC w g n F := by
  intro i hi
  refine ⟨?_, World.ownsRow.frozenAt h i⟩
  rw [World.ownsRow.cellAt h i (by omega)]
  exact hF i hi
theorem RowC.set {w : World} {g N : Nat} {F : Nat → Int} (h : RowC w g N F) (i : Nat) (v : Int) (hi : i < N) : RowC (w.setCell ⟨g, i, none⟩ (.int .i64 v)) g N (fun j => if j = i then v else F j) := by
  intro j hj
  obtain ⟨h1, h2⟩ := h j hj
  obtain ⟨h3, _⟩ := h i hi
  by_cases hij : j = i
  · subst hij
    refine ⟨?_, by simpa using h2⟩
    simp only [if_true]
    exact World.cell?_setCell_same _ _ _ h3
  · refine ⟨?_, by simpa using h2⟩
    simp only [if_neg hij]
    exact (World.cell?_setCell_other _ _ _ _ (by intro hh; injection hh; omega)).trans h1
theorem RowC.drewN {w : World} {g N : Nat} {F : Nat → Int} (h : RowC w g N F) (n : Nat) : RowC (w.drewN n) g N F := fun i hi => by simpa using h i hi
theorem RowC.below {w w' : World} {g N : Nat} {F : Nat → Int} (h : RowC w g N F) {b : Nat} (hb : Below b w w') (hg : g < b) : RowC w' g N F := fun i hi =>
  ⟨(hb.cell (p := ⟨g, i, none⟩) hg).trans (h i hi).1, (hb.frozen (p := ⟨g, i, none⟩) hg).trans (h i hi).2⟩
end Go.Proofs.Qxb6601749a
