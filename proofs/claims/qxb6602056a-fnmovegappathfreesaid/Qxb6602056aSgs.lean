import Derived.Test.Qxb6602056aPsh
namespace Go.Proofs.Qxb6602056a
open Go.RowKit
set_option linter.unusedSimpArgs false

/-- The blocks of a buffer. -/
def Mine (g : Nat) (vr vb va : Value) (k : Nat) : Prop := k = g ∨ vr.ownBlock = some k ∨ vb.ownBlock = some k ∨ va.ownBlock = some k
/-- A buffer's parts and that they lie apart. -/
structure Sg (w : World) (base g : Nat) (gs ge bl : Int) (vr vb va : Value) (R B A : List Int) : Prop where
  buf : Buf w g vr gs ge bl vb va
  r : Own .i32 21 w base vr R
  b : Own .i64 3 w base vb B
  a : Own .i64 3 w base va A
  bg : base ≤ g
  gr : vr.ownBlock ≠ some g
  gb : vb.ownBlock ≠ some g
  ga : va.ownBlock ≠ some g
  rb : ∀ k, vr.ownBlock = some k → vb.ownBlock ≠ some k ∧ va.ownBlock ≠ some k
  ba : ∀ k, vb.ownBlock = some k → va.ownBlock ≠ some k
/-- A buffer on the way: what was there but for S is kept; its blocks are S's or new. -/
structure Sd (S : Nat → Prop) (w0 w : World) (base g : Nat) (gs ge bl : Int) (vr vb va : Value) (R B A : List Int) : Prop where
  sg : Sg w base g gs ge bl vr vb va R B A
  fr : Fr S w0 w
  mine : ∀ k, Mine g vr vb va k → S k ∨ w0.heap.size ≤ k

theorem Buf.lt {w : World} {g : Nat} {r bf af : Value} {gs ge bl : Int} (h : Buf w g r gs ge bl bf af) : g < w.heap.size := by
  rcases Nat.lt_or_ge g w.heap.size with h1 | h1
  · exact h1
  · unfold Buf at h; rw [Array.getElem?_eq_none h1] at h; cases h
theorem Own.base_le {k : IntKind} {e : TypeId} {w : World} {base : Nat} {v : Value} {D : List Int} (h : Own k e w base v D) : ∀ b, v.ownBlock = some b → b < w.heap.size := fun b hb => (h.lt b hb).2
theorem Own.of_block {k : IntKind} {e : TypeId} {w w' : World} {base : Nat} {v : Value} {D : List Int} (h : Own k e w base v D) (hb : ∀ b, v.ownBlock = some b → w'.heap[b]? = w.heap[b]?) : Own k e w' base v D := by
  refine ⟨h.1, ?_⟩
  rcases h.2 with h1 | ⟨g, cap, cur, hv, h1, h2, h3⟩
  · exact .inl h1
  · exact .inr ⟨g, cap, cur, hv, h1, by rw [hb g (by rw [hv]; rfl)]; exact h2, h3⟩
theorem Own.take {k : IntKind} {e : TypeId} {w : World} {base : Nat} {p : Option Addr} {n c : Nat} {D : List Int} (h : Own k e w base (.slice p n c) D) (f : Nat) (hf : f ≤ D.length) : Own k e w base (.slice p f c) (D.take f) := by
  have hl : (D.take f).length = f := by simp; omega
  unfold Own
  rw [hl]
  refine ⟨by simp; omega, ?_⟩
  rcases h.2 with ⟨h1, h2⟩ | ⟨g, cap, cur, hv, h1, h2, h3, h4, h5, h6⟩
  · injection h1 with e1 e2 e3
    exact .inl ⟨by rw [e1, e3, show f = 0 by omega], by omega⟩
  · injection hv with e1 e2 e3
    subst e1 e3
    refine .inr ⟨g, c, cur, rfl, h1, h2, by omega, h4, h5, ?_⟩
    rw [List.map_take, ← h6, List.take_take]
    congr 1
    omega

theorem Sd.of {S : Nat → Prop} {w : World} {base g : Nat} {gs ge bl : Int} {vr vb va : Value} {R B A : List Int} (h : Sg w base g gs ge bl vr vb va R B A) (hS : ∀ k, Mine g vr vb va k → S k) : Sd S w w base g gs ge bl vr vb va R B A := ⟨h, Fr.refl _ _, fun k hk => .inl (hS k hk)⟩
theorem Sg.drewN {w : World} {base g : Nat} {gs ge bl : Int} {vr vb va : Value} {R B A : List Int} (h : Sg w base g gs ge bl vr vb va R B A) (n : Nat) : Sg (w.drewN n) base g gs ge bl vr vb va R B A := ⟨h.buf, h.r, h.b, h.a, h.bg, h.gr, h.gb, h.ga, h.rb, h.ba⟩
theorem Sd.drewN {S : Nat → Prop} {w0 w : World} {base g : Nat} {gs ge bl : Int} {vr vb va : Value} {R B A : List Int} (h : Sd S w0 w base g gs ge bl vr vb va R B A) (n : Nat) : Sd S w0 (w.drewN n) base g gs ge bl vr vb va R B A := ⟨h.sg.drewN n, h.fr.drewN n, h.mine⟩

/-- A store into the buffer's own block. -/
theorem Sd.store {S : Nat → Prop} {w0 w : World} {base g : Nat} {gs ge bl : Int} {vr vb va : Value} {R B A : List Int} (h : Sd S w0 w base g gs ge bl vr vb va R B A) (i : Nat) (v : Value) (gs' ge' : Int) (vb' va' : Value) (B' A' : List Int)
    (e : (#[vr, .int .i64 gs, .int .i64 ge, .int .i64 bl, vb, va] : Array Value).setIfInBounds i v = #[vr, .int .i64 gs', .int .i64 ge', .int .i64 bl, vb', va'])
    (ob : Own .i64 3 w base vb' B') (oa : Own .i64 3 w base va' A') (eb : vb'.ownBlock = vb.ownBlock) (ea : va'.ownBlock = va.ownBlock) :
    Sd S w0 (w.setCell ⟨g, i, none⟩ v) base g gs' ge' bl vr vb' va' R B' A' := by
  have hk : ∀ k, k ≠ g → (w.setCell ⟨g, i, none⟩ v).heap[k]? = w.heap[k]? := fun k hk => heap_setCell_other w ⟨g, i, none⟩ k v hk
  refine ⟨⟨?_, h.sg.r.of_block fun b hb => hk b fun e => h.sg.gr (e ▸ hb), ob.of_block fun b hb => hk b fun e => h.sg.gb (e ▸ eb ▸ hb), oa.of_block fun b hb => hk b fun e => h.sg.ga (e ▸ ea ▸ hb), h.sg.bg, h.sg.gr, by rw [eb]; exact h.sg.gb, by rw [ea]; exact h.sg.ga, by rw [eb, ea]; exact h.sg.rb, by rw [eb, ea]; exact h.sg.ba⟩, h.fr.setCell (h.mine g (.inl rfl)).symm v, fun k hk => h.mine k (by unfold Mine at hk ⊢; rw [eb, ea] at hk; exact hk)⟩
  unfold Buf
  rw [heap_setCell_same w g i _ 42 v h.sg.buf, e]
theorem Sd.set1 {S : Nat → Prop} {w0 w : World} {base g : Nat} {gs ge bl : Int} {vr vb va : Value} {R B A : List Int} (h : Sd S w0 w base g gs ge bl vr vb va R B A) (z : Int) : Sd S w0 (w.setCell ⟨g, 1, none⟩ (.int .i64 z)) base g z ge bl vr vb va R B A := h.store 1 _ z ge vb va B A rfl h.sg.b h.sg.a rfl rfl
theorem Sd.set2 {S : Nat → Prop} {w0 w : World} {base g : Nat} {gs ge bl : Int} {vr vb va : Value} {R B A : List Int} (h : Sd S w0 w base g gs ge bl vr vb va R B A) (z : Int) : Sd S w0 (w.setCell ⟨g, 2, none⟩ (.int .i64 z)) base g gs z bl vr vb va R B A := h.store 2 _ gs z vb va B A rfl h.sg.b h.sg.a rfl rfl
theorem Sd.cut4 {S : Nat → Prop} {w0 w : World} {base g : Nat} {gs ge bl : Int} {vr va : Value} {p : Option Addr} {n c : Nat} {R B A : List Int} (h : Sd S w0 w base g gs ge bl vr (.slice p n c) va R B A) (f : Nat) (hf : f ≤ B.length) : Sd S w0 (w.setCell ⟨g, 4, none⟩ (.slice p f c)) base g gs ge bl vr (.slice p f c) va R (B.take f) A := h.store 4 _ gs ge _ va _ A rfl (h.sg.b.take f hf) h.sg.a (by cases p <;> rfl) rfl
theorem Sd.cut5 {S : Nat → Prop} {w0 w : World} {base g : Nat} {gs ge bl : Int} {vr vb : Value} {p : Option Addr} {n c : Nat} {R B A : List Int} (h : Sd S w0 w base g gs ge bl vr vb (.slice p n c) R B A) (f : Nat) (hf : f ≤ A.length) : Sd S w0 (w.setCell ⟨g, 5, none⟩ (.slice p f c)) base g gs ge bl vr vb (.slice p f c) R B (A.take f) := h.store 5 _ gs ge vb _ B _ rfl h.sg.b (h.sg.a.take f hf) rfl (by cases p <;> rfl)

theorem grown_before {w w2 : World} {row : Option Nat} {o : Obj} {j : Nat} (hg : ((w.drewN j).alloc o).grownBy w2 row) : w.grownBy w2 row :=
  ⟨hg.os, hg.tape, hg.output, Nat.le_trans (by simp [World.alloc, World.drewN]) hg.size, fun k hk hne => by
    rw [hg.block k (by simp [World.alloc, World.drewN]; omega) hne]
    exact heap_alloc_old (w.drewN j) o hk⟩
theorem mine_or {S : Nat → Prop} {n : Nat} {x y : Option Nat} {m : Nat} (hm : n ≤ m) (h : ∀ k, x = some k → S k ∨ n ≤ k) (e : y = x ∨ y = some m) : ∀ k, y = some k → S k ∨ n ≤ k := by
  intro k hk
  rcases e with e | e
  · exact h k (e ▸ hk)
  · rw [e] at hk; injection hk with hk; omega
theorem Sd.push5 {S : Nat → Prop} {w0 w w2 : World} {base g : Nat} {gs ge bl : Int} {vr vb va v' : Value} {R B A A' : List Int} {o : Obj} {j : Nat} (h : Sd S w0 w base g gs ge bl vr vb va R B A) (hg : ((w.drewN j).alloc o).grownBy w2 va.ownBlock) (ho : Own .i64 3 w2 base v' A') (hw : v'.ownBlock = va.ownBlock ∨ v'.ownBlock = some ((w.drewN j).alloc o).heap.size) :
    Sd S w0 (w2.setCell ⟨g, 5, none⟩ v') base g gs ge bl vr vb v' R B A' := by
  have hsz : ((w.drewN j).alloc o).heap.size = w.heap.size + 1 := by simp [World.alloc, World.drewN]
  rw [hsz] at hw
  have hgr := grown_before hg
  have lg := h.sg.buf.lt
  have hgg : w2.heap[g]? = w.heap[g]? := hgr.block g lg (fun e => h.sg.ga e.symm)
  have hk : ∀ k, k ≠ g → (w2.setCell ⟨g, 5, none⟩ v').heap[k]? = w2.heap[k]? := fun k hk => heap_setCell_other w2 ⟨g, 5, none⟩ k v' hk
  have far : ∀ k, k < w.heap.size → va.ownBlock ≠ some k → v'.ownBlock ≠ some k := by
    intro k h1 h2 h3
    rcases hw with e | e
    · exact h2 (e ▸ h3)
    · rw [e] at h3; injection h3 with h3; omega
  refine ⟨⟨?_, h.sg.r.of_block fun b hb => ?_, h.sg.b.of_block fun b hb => ?_, ho.of_block fun b hb => hk b fun e => far g lg h.sg.ga (e ▸ hb), h.sg.bg, h.sg.gr, h.sg.gb, far g lg h.sg.ga, fun k hk => ⟨(h.sg.rb k hk).1, far k (h.sg.r.base_le k hk) (h.sg.rb k hk).2⟩, fun k hk => far k (h.sg.b.base_le k hk) (h.sg.ba k hk)⟩, ?_, ?_⟩
  · unfold Buf
    rw [heap_setCell_same w2 g 5 _ 42 v' (hgg.trans h.sg.buf)]
    rfl
  · rw [hk b fun e => h.sg.gr (e ▸ hb), hgr.block b (h.sg.r.base_le b hb) fun e => (h.sg.rb b hb).2 e.symm]
  · rw [hk b fun e => h.sg.gb (e ▸ hb), hgr.block b (h.sg.b.base_le b hb) fun e => h.sg.ba b hb e.symm]
  · refine Fr.setCell (h.fr.then (Fr.of_grown hgr (S := fun k => va.ownBlock = some k) fun k hk => hk) ?_) (h.mine g (.inl rfl)).symm v'
    intro j hj hs
    rcases h.mine j (.inr (.inr (.inr hs))) with h1 | h1
    · exact h1
    · omega
  · intro k hk
    have hsz0 := h.fr.size
    rcases hk with hk | hk | hk | hk
    · exact h.mine k (.inl hk)
    · exact h.mine k (.inr (.inl hk))
    · exact h.mine k (.inr (.inr (.inl hk)))
    · exact mine_or (m := w.heap.size + 1) (by omega) (fun k hk => h.mine k (.inr (.inr (.inr hk)))) hw k hk
theorem Sd.push4 {S : Nat → Prop} {w0 w w2 : World} {base g : Nat} {gs ge bl : Int} {vr vb va v' : Value} {R B A B' : List Int} {o : Obj} {j : Nat} (h : Sd S w0 w base g gs ge bl vr vb va R B A) (hg : ((w.drewN j).alloc o).grownBy w2 vb.ownBlock) (ho : Own .i64 3 w2 base v' B') (hw : v'.ownBlock = vb.ownBlock ∨ v'.ownBlock = some ((w.drewN j).alloc o).heap.size) :
    Sd S w0 (w2.setCell ⟨g, 4, none⟩ v') base g gs ge bl vr v' va R B' A := by
  have hsz : ((w.drewN j).alloc o).heap.size = w.heap.size + 1 := by simp [World.alloc, World.drewN]
  rw [hsz] at hw
  have hgr := grown_before hg
  have lg := h.sg.buf.lt
  have hgg : w2.heap[g]? = w.heap[g]? := hgr.block g lg (fun e => h.sg.gb e.symm)
  have hk : ∀ k, k ≠ g → (w2.setCell ⟨g, 4, none⟩ v').heap[k]? = w2.heap[k]? := fun k hk => heap_setCell_other w2 ⟨g, 4, none⟩ k v' hk
  have far : ∀ k, k < w.heap.size → vb.ownBlock ≠ some k → v'.ownBlock ≠ some k := by
    intro k h1 h2 h3
    rcases hw with e | e
    · exact h2 (e ▸ h3)
    · rw [e] at h3; injection h3 with h3; omega
  have ab : ∀ k, va.ownBlock = some k → vb.ownBlock ≠ some k := fun k h1 h2 => h.sg.ba k h2 h1
  refine ⟨⟨?_, h.sg.r.of_block fun b hb => ?_, ho.of_block fun b hb => hk b fun e => far g lg h.sg.gb (e ▸ hb), h.sg.a.of_block fun b hb => ?_, h.sg.bg, h.sg.gr, far g lg h.sg.gb, h.sg.ga, fun k hk => ⟨far k (h.sg.r.base_le k hk) (h.sg.rb k hk).1, (h.sg.rb k hk).2⟩, fun k hk hk' => far k (h.sg.a.base_le k hk') (ab k hk') hk⟩, ?_, ?_⟩
  · unfold Buf
    rw [heap_setCell_same w2 g 4 _ 42 v' (hgg.trans h.sg.buf)]
    rfl
  · rw [hk b fun e => h.sg.gr (e ▸ hb), hgr.block b (h.sg.r.base_le b hb) fun e => (h.sg.rb b hb).1 e.symm]
  · rw [hk b fun e => h.sg.ga (e ▸ hb), hgr.block b (h.sg.a.base_le b hb) fun e => ab b hb e.symm]
  · refine Fr.setCell (h.fr.then (Fr.of_grown hgr (S := fun k => vb.ownBlock = some k) fun k hk => hk) ?_) (h.mine g (.inl rfl)).symm v'
    intro j hj hs
    rcases h.mine j (.inr (.inr (.inl hs))) with h1 | h1
    · exact h1
    · omega
  · intro k hk
    have hsz0 := h.fr.size
    rcases hk with hk | hk | hk | hk
    · exact h.mine k (.inl hk)
    · exact h.mine k (.inr (.inl hk))
    · exact mine_or (m := w.heap.size + 1) (by omega) (fun k hk => h.mine k (.inr (.inr (.inl hk)))) hw k hk
    · exact h.mine k (.inr (.inr (.inr hk)))

/-- The copy within the runes. -/
theorem Sd.copy {S : Nat → Prop} {w0 w w2 : World} {base g : Nat} {gs ge bl : Int} {rb n c : Nat} {vb va : Value} {R R' B A : List Int} (h : Sd S w0 w base g gs ge bl (.slice (some ⟨rb, 0, none⟩) n c) vb va R B A) (hg : w.grownBy w2 (some rb)) (ho : Own .i32 21 w2 base (.slice (some ⟨rb, 0, none⟩) n c) R') :
    Sd S w0 w2 base g gs ge bl (.slice (some ⟨rb, 0, none⟩) n c) vb va R' B A := by
  have hr : Value.ownBlock (.slice (some ⟨rb, 0, none⟩) n c) = some rb := rfl
  refine ⟨⟨?_, ho, h.sg.b.of_block fun b hb => hg.block b (h.sg.b.base_le b hb) (fun e => (h.sg.rb b (hr.trans e.symm)).1 hb), h.sg.a.of_block fun b hb => hg.block b (h.sg.a.base_le b hb) (fun e => (h.sg.rb b (hr.trans e.symm)).2 hb), h.sg.bg, h.sg.gr, h.sg.gb, h.sg.ga, h.sg.rb, h.sg.ba⟩, ?_, h.mine⟩
  · unfold Buf
    rw [hg.block g h.sg.buf.lt (fun e => h.sg.gr (hr.trans e.symm))]
    exact h.sg.buf
  · refine h.fr.then (Fr.of_grown hg (S := fun k => k = rb) fun k hk => by injection hk with hk; exact hk.symm) ?_
    intro j hj hs
    subst hs
    rcases h.mine j (.inr (.inl rfl)) with h1 | h1
    · exact h1
    · omega
end Go.Proofs.Qxb6602056a
