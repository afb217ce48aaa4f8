import Derived.Test.Qxb6602056aPl2
namespace Go.Proofs.Qxb6602056a
open Go.RowKit

/-- What was there is kept, but for the blocks of S. -/
structure Fr (S : Nat → Prop) (w w' : World) : Prop where
  os : w'.os = w.os
  tape : w'.tape = w.tape
  output : w'.output = w.output
  size : w.heap.size ≤ w'.heap.size
  block : ∀ k, k < w.heap.size → ¬ S k → w'.heap[k]? = w.heap[k]?
theorem Fr.refl (S : Nat → Prop) (w : World) : Fr S w w := ⟨rfl, rfl, rfl, Nat.le_refl _, fun _ _ _ => rfl⟩
theorem Fr.trans {S : Nat → Prop} {a b c : World} (h : Fr S a b) (k : Fr S b c) : Fr S a c :=
  ⟨k.os.trans h.os, k.tape.trans h.tape, k.output.trans h.output, Nat.le_trans h.size k.size, fun j hj hs => (k.block j (Nat.lt_of_lt_of_le hj h.size) hs).trans (h.block j hj hs)⟩
/-- A second stretch may also write what the first has made. -/
theorem Fr.then {S S' : Nat → Prop} {a b c : World} (h : Fr S a b) (k : Fr S' b c) (hS : ∀ j, j < a.heap.size → S' j → S j) : Fr S a c :=
  ⟨k.os.trans h.os, k.tape.trans h.tape, k.output.trans h.output, Nat.le_trans h.size k.size, fun j hj hs => (k.block j (Nat.lt_of_lt_of_le hj h.size) (fun hh => hs (hS j hj hh))).trans (h.block j hj hs)⟩
theorem Fr.drewN {S : Nat → Prop} {a w : World} (h : Fr S a w) (n : Nat) : Fr S a (w.drewN n) := ⟨h.os, h.tape, h.output, h.size, h.block⟩
theorem Fr.of_below {S : Nat → Prop} {B : Nat} {w w' : World} (h : Below B w w') (hB : ∀ k, k < w.heap.size → ¬ S k → k < B) : Fr S w w' := ⟨h.os, h.tape, h.output, h.size, fun k hk hs => h.block k (hB k hk hs)⟩
theorem Fr.of_grown {S : Nat → Prop} {w w' : World} {row : Option Nat} (h : w.grownBy w' row) (hr : ∀ k, row = some k → S k) : Fr S w w' :=
  ⟨h.os, h.tape, h.output, h.size, fun k hk hs => h.block k hk (fun e => hs (hr k e.symm))⟩
theorem Fr.below {S : Nat → Prop} {B : Nat} {w w' : World} (h : Fr S w w') (hB : B ≤ w.heap.size) (hs : ∀ k, k < B → ¬ S k) : Below B w w' := ⟨h.os, h.tape, h.output, h.size, fun k hk => h.block k (Nat.lt_of_lt_of_le hk hB) (hs k hk)⟩
theorem Fr.setCell {S : Nat → Prop} {a w : World} (h : Fr S a w) {p : Addr} (hp : a.heap.size ≤ p.block ∨ S p.block) (u : Value) : Fr S a (w.setCell p u) := by
  have hb : Below 0 w (w.setCell p u) := (Below.refl 0 w).setCell (Nat.zero_le _) u
  refine ⟨hb.os.trans h.os, hb.tape.trans h.tape, hb.output.trans h.output, Nat.le_trans h.size hb.size, fun k hk hs => ?_⟩
  rw [Below.heap_setCell w p u k (fun e => ?_)]
  · exact h.block k hk hs
  · subst e
    rcases hp with hp | hp
    · omega
    · exact hs hp
theorem Fr.alloc {S : Nat → Prop} {a w : World} (h : Fr S a w) (o : Obj) : Fr S a (w.alloc o) := by
  have hb : Below 0 w (w.alloc o) := (Below.refl 0 w).alloc (Nat.zero_le _) o
  refine ⟨hb.os.trans h.os, hb.tape.trans h.tape, hb.output.trans h.output, Nat.le_trans h.size hb.size, fun k hk hs => ?_⟩
  rw [Below.heap_alloc w o k (Nat.lt_of_lt_of_le hk h.size)]
  exact h.block k hk hs
end Go.Proofs.Qxb6602056a
