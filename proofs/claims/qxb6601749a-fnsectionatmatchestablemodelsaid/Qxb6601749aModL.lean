import Derived.Test.Qxb6601749aRowv
import Derived.Deep.RegionHeld3
namespace Go.Proofs.Qxb6601749a
open Go.RowKit
set_option linter.unusedSimpArgs false

/-- What ZZSectionAt and the model hand out, of one make. -/
def MTrue (w' : World) (B : Nat → Int) (pid : Int) (L : Nat) (e : Ending) : Prop :=
  ∃ a x d0 m g1 c1 g2 c2 : Nat, Hd B pid a x d0 ∧ Found B pid L d0 m ∧ e = .returned (.tuple #[.slice (some ⟨g1, 0, none⟩) (secN B d0) c1, .slice (some ⟨g2, 0, none⟩) (pks B pid m).length c2, .bool true]) ∧
    At w' g1 0 (secN B d0) (fun i => (dat B pid d0 m).getD i 0) ∧ At w' g2 0 (pks B pid m).length (fun i => (pks B pid m).getD i 0)
def MFalse (B : Nat → Int) (pid : Int) (L : Nat) (e : Ending) : Prop :=
  (¬ ∃ a x d0 m : Nat, Hd B pid a x d0 ∧ Found B pid L d0 m) ∧ e = .returned (.tuple #[.slice none 0 0, .slice none 0 0, .bool false])

def idxV (l : List Nat) : List Value := l.map fun (j : Nat) => Value.int .i64 (j : Int)
def offV (B : Nat → Int) (pid : Int) (l : List Nat) : List Value := l.map fun (j : Nat) => Value.int .i64 (offs B pid j : Int)
def sttV (B : Nat → Int) (l : List Nat) : List Value := l.map fun (j : Nat) => Value.bool (stt (pkt B (188 * j)))

/-- The relation of the first loop: the packets 1 .. m have been looked at. -/
structure L1 (W1 : World) (H gX gY gZ Mx : Nat) (B : Nat → Int) (pid : Int) (wr : World) (m : Nat) (X Y Z : List Value) : Prop where
  le : m + 1 ≤ Mx
  hX : X = idxV (cs B pid m)
  hY : Y = offV B pid (cs B pid m)
  hZ : Z = sttV B (cs B pid m)
  oX : OwnV wr H 3 gX Mx X
  oY : OwnV wr H 3 gY Mx Y
  oZ : OwnV wr H 4 gZ Mx Z
  bel : Below H W1 wr

theorem pay14n' (b off cap n : Nat) (P : Nat → Int) (pid : Int) (w : World) (hat : At w b off 188 P) (hcap : 188 ≤ cap) (hcm : cap ≤ 9223372036854775807) (hp : pay P pid = none) (hn : n = 188) :
    Calls Try.prog 14 #[.slice (some ⟨b, off, none⟩) n cap, .int .i64 pid] w fun e w' => e = .returned (.tuple #[.slice none 0 0, .bool false]) ∧ ∃ n, w' = w.drewN n := by
  rw [hn]; exact pay14n b off cap P pid w hat hcap hcm hp
theorem pay14s' (b off cap n : Nat) (P : Nat → Int) (pid : Int) (w : World) (hat : At w b off 188 P) (hcap : 188 ≤ cap) (hcm : cap ≤ 9223372036854775807) (a : Nat) (s : Bool) (hp : pay P pid = some a) (hs : stt P = s) (hn : n = 188) :
    Calls Try.prog 14 #[.slice (some ⟨b, off, none⟩) n cap, .int .i64 pid] w fun e w' => e = .returned (.tuple #[.slice (some ⟨b, off + a, none⟩) (188 - a) (cap - a), .bool s]) ∧ ∃ n, w' = w.drewN n := by
  rw [hn]; exact pay14s b off cap P pid w hat hcap hcm a s hp hs

theorem cell_new {w : World} {v : Value} {e b : Nat} (hb : b = w.heap.size) : (w.alloc (.cells #[v] e)).cell? ⟨b, 0, none⟩ = some v := by subst hb; simp
theorem made_at (n : Nat) : ∀ i, i < n → (madeCells (Value.int .i64 0).cells (n * 1)).toList[i]? = some (.int .i64 0) := by
  intro i hi
  rw [show (Value.int .i64 0).cells = #[.int .i64 0] from rfl, toList_madeCells_one]
  simp [hi]
/-- The relation of the second loop: cum is right up to k. -/
structure L2 (Wc : World) (gc N : Nat) (B : Nat → Int) (pid : Int) (d0 : Nat) (I : List Nat) (wi : World) (k : Nat) (F : Nat → Int) : Prop where
  row : RowC wi gc N F
  val : ∀ u, u ≤ k → F u = (cum B pid d0 I u : Int)
  bel : Below gc Wc wi
theorem offs_le {B : Nat → Int} (hB : ∀ i, 0 ≤ B i ∧ B i ≤ 255) (pid : Int) (j : Nat) : offs B pid j ≤ 188 := by
  unfold offs
  rcases h : payAt B pid j with _ | a
  · simp
  · have := (pay_range (P := pkt B (188 * j)) (hB _).1 h).2
    simp; omega
theorem L2.step {Wc : World} {gc N : Nat} {B : Nat → Int} {pid : Int} {d0 : Nat} {I : List Nat} {wi : World} {k : Nat} {F : Nat → Int} (h : L2 Wc gc N B pid d0 I wi k F) (hk : k + 1 < N) {v : Int} (hv : v = (cum B pid d0 I (k + 1) : Int)) :
    L2 Wc gc N B pid d0 I ((wi.setCell ⟨gc, k + 1, none⟩ (.int .i64 v)).drew) (k + 1) (fun j => if j = k + 1 then v else F j) := by
  refine ⟨?_, ?_, (h.bel.setCell (Nat.le_refl _) _).drew⟩
  · intro i hi
    simpa using (h.row.set (k + 1) v hk) i hi
  · intro u hu
    show (if u = k + 1 then v else F u) = _
    by_cases e : u = k + 1
    · rw [if_pos e, hv, e]
    · rw [if_neg e]; exact h.val u (by omega)
/-- The relation of the third loop: of j .. n the least u at which cum reaches N is U; U is n where there is none. -/
def Lu (cu : Nat → Nat) (N n j U : Nat) : Prop := (∀ v, j ≤ v → v < U → cu v < N) ∧ (N ≤ cu U ∨ (U = n ∧ ∀ v, j ≤ v → v ≤ n → cu v < N))
theorem Lu.start (cu : Nat → Nat) (N n : Nat) : Lu cu N n (n + 1) n := ⟨fun v h1 h2 => by omega, .inr ⟨rfl, fun v h1 h2 => by omega⟩⟩
theorem Lu.hit {cu : Nat → Nat} {N n j U : Nat} (_h : Lu cu N n (j + 1) U) (hj : N ≤ cu j) : Lu cu N n j j := ⟨fun v h1 h2 => by omega, .inl hj⟩
theorem Lu.miss {cu : Nat → Nat} {N n j U : Nat} (h : Lu cu N n (j + 1) U) (hj : cu j < N) : Lu cu N n j U := by
  have key : ∀ v, j ≤ v → v = j ∨ j + 1 ≤ v := fun v hv => by omega
  refine ⟨fun v h1 h2 => ?_, ?_⟩
  · rcases key v h1 with rfl | h3
    · exact hj
    · exact h.1 v h3 h2
  · rcases h.2 with h3 | ⟨h3, h4⟩
    · exact .inl h3
    · refine .inr ⟨h3, fun v h1 h2 => ?_⟩
      rcases key v h1 with rfl | h5
      · exact hj
      · exact h4 v h5 h2
theorem no_found {B : Nat → Int} {pid : Int} {L a x d0 m : Nat} (hd : Hd B pid a x d0) (hM : L < 188 * (m + 2)) (h : ∀ u, ¬ MF B pid d0 (cs B pid m) u) : ¬ ∃ a x d0 m : Nat, Hd B pid a x d0 ∧ Found B pid L d0 m := by
  rintro ⟨a1, x1, d1, m1, hd1, hf⟩
  obtain ⟨_, _, rfl⟩ := hd.uniq hd1
  exact h _ (hf.mf hM)
theorem getD_mem_take {I : List Nat} {k u : Nat} (h : k < u) (hk : k < I.length) : I.getD k 0 ∈ I.take u := by
  have : I.getD k 0 = I[k] := by simp [List.getD, hk]
  rw [this]
  exact List.mem_take_iff_getElem.2 ⟨k, by omega, rfl⟩
/-- 'append(out, src...)' at a step of a region that draws its order. -/
theorem step_app {w : World} {ops : Array Oper} {o : Oper} {act : Act} {K : Act → World → Prop} {Q : Exit → Act → World → Prop} {E : Prop} (hgd : o.guard = none) (s x : Operand)
    (ho : o.op = .call { callee := .builtin .append, args := #[s, x], argTypes := #[22, 22] })
    (base g0 cap0 : Nat) (D : List Int) (hs : act.eval s = .slice (some ⟨g0, 0, none⟩) D.length cap0) (hown : Own w base g0 cap0 D)
    (b off m m' c : Nat) (src : Nat → Int) (hx : act.eval x = .slice (some ⟨b, off, none⟩) m' c) (hmm : m' = m) (hat : At w b off m src)
    (hm : 0 < m) (hsz : D.length + m ≤ 100000000) (hbase : base ≤ w.heap.size) (W0 : World) (hbel : Below base W0 w)
    (h : ∀ g cap w' (E : List Int), Hid (E = D ++ seg src 0 m) → Own w' base g cap E → w.grownBy w' (some g0) → (g = g0 ∨ g = w.heap.size) → g < w'.heap.size → Below base W0 w' → K (act.put o.dst (.slice (some ⟨g, 0, none⟩) E.length cap)) w') :
    if Region.wanted o (yielded ops act.tmps) = true then Oper.wp Try.prog o act w K Q else E := by
  rw [hmm] at hx
  obtain ⟨i0, hi, hz0, hz1, hz2⟩ := info_parts Try.info5
  have hL : (D ++ seg src 0 m).length = D.length + m := by simp [length_seg]
  refine step_append_lies w hgd s x 22 ho base 5 i0 (.int .u8 0) 1 1 Try.underlying22 hi hz0 hz1 hz2 rfl (by decide) _ D.length (vals D) hs hown ⟨b, off, none⟩ m c (vals (seg src 0 m)) hx
    (by simp [length_vals, length_seg]) (by simpa using news_seg hat 0 m (by omega)) (vals_one _) hm (by unfold maxLen; omega) (by omega) hbase _ rfl ?_
  intro g cap w' h1 h2 h3 h4
  rw [← hL, vals_append] at h1
  rw [← hL]
  refine h g cap w' _ rfl h1 h2 ?_ h4 (hbel.grown h2 hbase ?_)
  · rcases h3 with h3 | h3
    · left; simpa [Value.ownBlock, eq_comm] using h3
    · exact .inr h3
  · intro k hk
    simp [Value.ownBlock] at hk
    have := hown.lt.1
    omega
theorem getD_mem {I : List Nat} {k : Nat} (hk : k < I.length) : I.getD k 0 ∈ I := by
  have : I.getD k 0 = I[k] := by simp [List.getD, hk]
  rw [this]; exact List.getElem_mem hk
theorem Own.drew {w : World} {base g cap : Nat} {D : List Int} (h : Own w base g cap D) : Own w.drew base g cap D := h
theorem At.drew {w : World} {b off n : Nat} {P : Nat → Int} (h : At w b off n P) : At w.drew b off n P := fun i hi => ⟨by simpa using (h i hi).1, (h i hi).2⟩
/-- The relation of the last loop: the data and the packets of the first q carriers. -/
structure L5 (Wq : World) (Hq : Nat) (B : Nat → Int) (pid : Int) (d0 : Nat) (I : List Nat) (wr : World) (q g1 c1 g2 c2 : Nat) (D P : List Int) : Prop where
  hD : D = datC B pid d0 (I.take q)
  hP : P = flat B (0 :: I.take q)
  o1 : Own wr Hq g1 c1 D
  o2 : Own wr Hq g2 c2 P
  ne : g1 ≠ g2
  bel : Below Hq Wq wr
theorem L5.step {Wq : World} {Hq : Nat} {B : Nat → Int} {pid : Int} {d0 : Nat} {I : List Nat} {wr w' : World} {q g1 c1 g2 c2 g1' c1' g2' c2' ik ok S R : Nat} {D P D' P' : List Int} (h : L5 Wq Hq B pid d0 I wr q g1 c1 g2 c2 D P)
    (hq : q < I.length) (hik : Hid (ik = I.getD q 0)) (hok : Hid (offs B pid ik = ok)) (hS : Hid (S = ik * 188 + ok)) (hR : Hid (R = ik * 188))
    (hD : Hid (D' = D ++ seg (fun i => B (S + i)) 0 (188 - ok))) (hP : Hid (P' = P ++ seg (fun i => B (R + i)) 0 188)) (o1 : Own w' Hq g1' c1' D') (o2 : Own w' Hq g2' c2' P') (ne : g1' ≠ g2') (bel : Below Hq Wq w') :
    L5 Wq Hq B pid d0 I w' (q + 1) g1' c1' g2' c2' D' P' := by
  refine ⟨?_, ?_, o1, o2, ne, bel⟩
  · rw [hD.out, seg_shift, datC_snoc _ _ _ _ _ hq, ← h.hD, ← hik.out, hok.out, hS.out, Nat.mul_comm]
  · rw [hP.out, seg_shift, flat_snoc _ _ _ hq, ← h.hP, ← hik.out, hR.out, Nat.mul_comm]
theorem datC_mem {B : Nat → Int} (hB : ∀ i, 0 ≤ B i ∧ B i ≤ 255) (pid : Int) (d0 : Nat) (l : List Nat) : ∀ z ∈ datC B pid d0 l, 0 ≤ z ∧ z ≤ 255 := by
  intro z hz
  simp only [datC, List.mem_append, List.mem_flatMap] at hz
  rcases hz with hz | ⟨_, _, hz⟩
  · exact seg_mem hB z hz
  · exact seg_mem hB z hz
theorem calm_take {B : Nat → Int} {I : List Nat} {q : Nat} (hq : q ≤ I.length) (h : ∀ i, i < q → stt (pkt B (188 * I.getD i 0)) = false) : ∀ j ∈ I.take q, stt (pkt B (188 * j)) = false := by
  intro j hj
  obtain ⟨i, hi, rfl⟩ := List.mem_take_iff_getElem.1 hj
  have := h i (by omega)
  rw [show I.getD i 0 = I[i] by simp [List.getD, show i < I.length by omega]] at this
  exact this
theorem bel_da {H : Nat} {W1 wr : World} (h : Below H W1 wr) (hs : H ≤ wr.heap.size) (n : Nat) (o : Obj) : Below H W1 ((wr.drewN n).alloc o) := (below_drewN' h n).alloc hs o
theorem le_da {H : Nat} {wr : World} (hs : H ≤ wr.heap.size) (n : Nat) (o : Obj) : H ≤ ((wr.drewN n).alloc o).heap.size := by rw [World.size_alloc]; exact Nat.le_succ_of_le hs
theorem le_a {H : Nat} {wr : World} (hs : H ≤ wr.heap.size) (o : Obj) : H ≤ (wr.alloc o).heap.size := by rw [World.size_alloc]; exact Nat.le_succ_of_le hs

theorem L1.step_none {W1 : World} {H gX gY gZ Mx : Nat} {B : Nat → Int} {pid : Int} {wr : World} {m : Nat} {X Y Z : List Value} (h : L1 W1 H gX gY gZ Mx B pid wr m X Y Z) (hp : payAt B pid (m + 1) = none) (hl : m + 2 ≤ Mx) (n : Nat) :
    L1 W1 H gX gY gZ Mx B pid (wr.drewN n) (m + 1) X Y Z :=
  ⟨hl, by rw [cs_succ_none hp]; exact h.hX, by rw [cs_succ_none hp]; exact h.hY, by rw [cs_succ_none hp]; exact h.hZ, h.oX.drewN n, h.oY.drewN n, h.oZ.drewN n, below_drewN' h.bel n⟩
theorem L1.step_some {W1 : World} {H gX gY gZ Mx : Nat} {B : Nat → Int} {pid : Int} {wr w' : World} {m a : Nat} {X Y Z X' Y' Z' : List Value} (h : L1 W1 H gX gY gZ Mx B pid wr m X Y Z) (hp : payAt B pid (m + 1) = some a) (hl : m + 2 ≤ Mx)
    (hX : X' = X ++ [.int .i64 ((m + 1 : Nat) : Int)]) (hY : Y' = Y ++ [.int .i64 (a : Int)]) (hZ : Z' = Z ++ [.bool (stt (pkt B (188 * (m + 1))))]) (oX : OwnV w' H 3 gX Mx X') (oY : OwnV w' H 3 gY Mx Y') (oZ : OwnV w' H 4 gZ Mx Z') (bel : Below H W1 w') :
    L1 W1 H gX gY gZ Mx B pid w' (m + 1) X' Y' Z' :=
  ⟨hl, by rw [cs_succ_some hp, hX, h.hX]; simp [idxV], by rw [cs_succ_some hp, hY, h.hY]; simp [offV, offs_some hp], by rw [cs_succ_some hp, hZ, h.hZ]; simp [sttV], oX, oY, oZ, bel⟩

end Go.Proofs.Qxb6601749a
