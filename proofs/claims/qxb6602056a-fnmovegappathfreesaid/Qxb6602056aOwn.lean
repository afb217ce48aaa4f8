import Derived.Test.Qxb6602056aSrch
import Derived.Laws.AppendOwn
namespace Go.Proofs.Qxb6602056a
open Go.RowKit

/-- The call owns the numbers D behind the slice v (nil, or at the head of a block from base on). -/
def Own (k : IntKind) (e : TypeId) (w : World) (base : Nat) (v : Value) (D : List Int) : Prop := w.ownsRow base e 1 v D.length (D.map (Value.int k))
theorem Own.nil (k : IntKind) (e : TypeId) (w : World) (base : Nat) : Own k e w base (.slice none 0 0) [] := World.ownsRow_nil w base e 1
theorem Own.drewN {k : IntKind} {e : TypeId} {w : World} {base : Nat} {v : Value} {D : List Int} (h : Own k e w base v D) (n : Nat) : Own k e (w.drewN n) base v D := h
theorem Own.alloc {k : IntKind} {e : TypeId} {w : World} {base : Nat} {v : Value} {D : List Int} (h : Own k e w base v D) (o : Obj) : Own k e (w.alloc o) base v D := World.ownsRow.alloc h o
theorem Own.kept {k : IntKind} {e : TypeId} {w w' : World} {base : Nat} {v : Value} {D : List Int} {row : Option Nat} (h : Own k e w base v D) (hg : w.grownBy w' row) (hne : v.ownBlock = none ∨ v.ownBlock ≠ row) : Own k e w' base v D := World.ownsRow.kept h hg hne
theorem Own.slice {k : IntKind} {e : TypeId} {w : World} {base : Nat} {v : Value} {D : List Int} (h : Own k e w base v D) : ∃ p c, v = .slice p D.length c ∧ In k w p D.length c D := by
  have h' := h
  rcases h.2 with ⟨h0, h1⟩ | ⟨g, cap, cur, hv, _⟩
  · have : D = [] := List.eq_nil_of_length_eq_zero h1
    subst this
    exact ⟨none, 0, h0, .inl ⟨rfl, rfl, rfl, rfl⟩⟩
  · refine ⟨_, cap, hv, .inr ⟨_, rfl, rfl, fun i hi => ?_⟩⟩
    rw [add_none, Nat.zero_add]
    have h'' : w.ownsRow base e 1 (.slice (some ⟨g, 0, none⟩) D.length cap) D.length (D.map (Value.int k)) := hv ▸ h'
    rw [World.ownsRow.cellAt h'' i (by omega)]
    simp [List.getD, hi]

/-- 'append(out, z)'. -/
theorem wpList_push {w : World} {ops : Array Oper} {rest : List Oper} {o : Oper} {act : Act} {Q : Exit → Act → World → Prop} (hgd : o.guard = none) (s x : Operand) (t : TypeId)
    (ho : o.op = .call { callee := .builtin .append, args := #[s, x], argTypes := #[t, t] })
    (k : IntKind) (e : TypeId) (bytes : Nat) (ht : Try.prog.underlying t = some (.slice e)) (hinfo : (Try.prog.info? e).map (fun i => (i.zero, i.size, i.bytes)) = some (some (.int k 0), 1, bytes)) (hby : bytes ≤ 8)
    (base : Nat) (v : Value) (D : List Int) (z : Int) (hs : act.eval s = v) (hown : Own k e w base v D) (b : Nat) (hx : act.eval x = .slice (some ⟨b, 0, none⟩) 1 1) (hc : w.cell? ⟨b, 0, none⟩ = some (.int k z))
    (hlen : D.length ≤ 1000000000) (hbase : base ≤ w.heap.size)
    (h : ∀ v' w', Own k e w' base v' (D ++ [z]) → w.grownBy w' v.ownBlock → wpList Try.prog ops Q rest (act.put o.dst v') w') :
    wpList Try.prog ops Q (o :: rest) act w := by
  obtain ⟨i0, hi, hz0, hz1, hz2⟩ := info_parts hinfo
  refine wpList_append_own w hgd s x t ho base e i0 (.int k 0) 1 bytes ht hi hz0 hz1 hz2 rfl (by decide) v D.length (D.map (Value.int k)) hs hown ⟨b, 0, none⟩ 1 1 [.int k z] hx rfl ?_ ?_ (by unfold maxLen; omega) ?_ hbase ?_
  · intro j u hu
    match j, hu with
    | 0, hu => simp at hu; subst hu; rw [add_none]; exact hc
  · intro u hu; simp at hu; subst hu; rfl
  · calc (D.length + 1) * bytes ≤ (D.length + 1) * 8 := Nat.mul_le_mul_left _ hby
      _ ≤ _ := by omega
  · intro v' w' h1 h2 _
    refine h v' w' ?_ h2
    have : D.length + 1 = (D ++ [z]).length := by simp
    unfold Own
    rw [← this, List.map_append]
    exact h1

/-- The indices of the newlines below k. -/
def NB (T : List Int) : Nat → List Int
  | 0 => []
  | k + 1 => NB T k ++ (if T.getD k 0 = 10 then [(k : Int)] else [])
/-- The distances from the end of the newlines among the last j signs. -/
def NU (T : List Int) : Nat → List Int
  | 0 => []
  | j + 1 => NU T j ++ (if T.getD (T.length - 1 - j) 0 = 10 then [((j : Int) + 1)] else [])
theorem NB_le (T : List Int) (k : Nat) : (NB T k).length ≤ k := by
  induction k with
  | zero => simp [NB]
  | succ k ih => simp only [NB]; split <;> simp <;> omega
theorem NU_le (T : List Int) (k : Nat) : (NU T k).length ≤ k := by
  induction k with
  | zero => simp [NU]
  | succ k ih => simp only [NU]; split <;> simp <;> omega
end Go.Proofs.Qxb6602056a
