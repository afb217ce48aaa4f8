import Derived.Test.Qxb6601961aRead
import Derived.ChangeKeysEq
namespace Go.Proofs.Qxb6601961a
open Go.RowKit
set_option linter.unusedSimpArgs false

theorem results_cell_mid {P : Program} {fn : Func} {p : Tmp} {ty : TypeId} (h : fn.results = #[.cell p ty]) (tmps : Array Value) (w : World) (b : Nat) (v : Value)
    (hp : tmps.getD p undef = .pointer (some ⟨b, 0, none⟩)) (hl : (loadVar ty ⟨b, 0, none⟩).run P w = .ok v w) : (results fn tmps).run P w = .ok v w := by
  have hp' : tmps[p]?.getD undef = .pointer (some ⟨b, 0, none⟩) := by simpa using hp
  simp [results, h, hp', asAddr, hl]
theorem Try.size30 : (Try.prog.info? 30).map (·.size) = some 21 := by kernel_rfl

set_option maxRecDepth 20000 in
set_option maxHeartbeats 2000000 in
theorem read11 (g : Nat) (y0 y1 y2 y3 y4 y5 y6 y7 y8 y9 y10 y11 y12 y13 y14 n : Int) (b0 b1 b2 b3 b4 : Bool) (w : World)
    (hg : w.heap[g]? = some (.cells #[.int .u8 y0, .int .u8 y1, .int .u8 y2, .int .u8 y3, .int .u8 y4, .int .u8 y5, .int .u8 y6, .int .u8 y7, .int .u8 y8, .int .u8 y9, .int .u8 y10, .int .u8 y11, .int .u8 y12, .int .u8 y13, .int .u8 y14, .int .i64 n, .bool b0, .bool b1, .bool b2, .bool b3, .bool b4] 41 (0, 0))) :
    Calls Try.prog 11 #[.pointer (some ⟨g, 0, none⟩)] w fun e w' => e = .returned (.agg #[.int .u8 y0, .int .u8 y1, .int .u8 y2, .int .u8 y3, .int .u8 y4, .int .u8 y5, .int .u8 y6, .int .u8 y7, .int .u8 y8, .int .u8 y9, .int .u8 y10, .int .u8 y11, .int .u8 y12, .int .u8 y13, .int .u8 y14, .int .i64 n, .bool b0, .bool b1, .bool b2, .bool b3, .bool b4]) ∧ Below w.heap.size w w' := by
  have hlt : g < w.heap.size := by
    rcases Nat.lt_or_ge g w.heap.size with h | h
    · exact h
    · rw [Array.getElem?_eq_none h] at hg; cases hg
  have HG : Hid (∀ o : Obj, (w.alloc o).heap[g]? = some (.cells #[.int .u8 y0, .int .u8 y1, .int .u8 y2, .int .u8 y3, .int .u8 y4, .int .u8 y5, .int .u8 y6, .int .u8 y7, .int .u8 y8, .int .u8 y9, .int .u8 y10, .int .u8 y11, .int .u8 y12, .int .u8 y13, .int .u8 y14, .int .i64 n, .bool b0, .bool b1, .bool b2, .bool b3, .bool b4] 41 (0, 0))) := fun o => by
    rw [Below.heap_alloc w o g hlt]; exact hg
  clear hg
  go_enter Try.func11, Try.ntmps11
  go_wp2_with fail
  refine (state18 g n [.int .u8 y0, .int .u8 y1, .int .u8 y2, .int .u8 y3, .int .u8 y4, .int .u8 y5, .int .u8 y6, .int .u8 y7, .int .u8 y8, .int .u8 y9, .int .u8 y10, .int .u8 y11, .int .u8 y12, .int .u8 y13, .int .u8 y14] b0 b1 b2 b3 b4 _ rfl (by simp [Value.oneCell']) (HG.out _)).mono ?_
  rintro e w1 ⟨rfl, hb⟩
  have hth : w1.there w.heap.size 0 21 := by
    have h0 := there_new w #[.int .u8 0, .int .u8 0, .int .u8 0, .int .u8 0, .int .u8 0, .int .u8 0, .int .u8 0, .int .u8 0, .int .u8 0, .int .u8 0, .int .u8 0, .int .u8 0, .int .u8 0, .int .u8 0, .int .u8 0, .int .i64 0, .bool false, .bool false, .bool false, .bool false, .bool false] 30 21 rfl
    intro j hj
    obtain ⟨q1, q2⟩ := h0 j hj
    rw [← hb.cell (p := ⟨w.heap.size, 0 + j, none⟩) (by simp)] at q1
    rw [← hb.frozen (p := ⟨w.heap.size, 0 + j, none⟩) (by simp)] at q2
    exact ⟨q1, q2⟩
  have HTH : Hid (w1.there w.heap.size 0 21) := hth
  have hs1 : w.heap.size < w1.heap.size := by have := hb.size; simp at this; omega
  clear hth HG
  have HONE : Hid ((#[.int .u8 y0, .int .u8 y1, .int .u8 y2, .int .u8 y3, .int .u8 y4, .int .u8 y5, .int .u8 y6, .int .u8 y7, .int .u8 y8, .int .u8 y9, .int .u8 y10, .int .u8 y11, .int .u8 y12, .int .u8 y13, .int .u8 y14, .int .i64 n, .bool b0, .bool b1, .bool b2, .bool b3, .bool b4] : Array Value).all (·.oneCell') = true) := by show _ = _; simp [Value.oneCell']
  go_wp2_with (first
    | (refine wpList_store_mid rfl 30 (.tmp 2) (.tmp 27) rfl w.heap.size 0 #[.int .u8 y0, .int .u8 y1, .int .u8 y2, .int .u8 y3, .int .u8 y4, .int .u8 y5, .int .u8 y6, .int .u8 y7, .int .u8 y8, .int .u8 y9, .int .u8 y10, .int .u8 y11, .int .u8 y12, .int .u8 y13, .int .u8 y14, .int .i64 n, .bool b0, .bool b1, .bool b2, .bool b3, .bool b4] rfl rfl (World.there_alloc HTH.out _) Try.size30 HONE.out ?_))
  have hload := run_loadVar_mid (P := Try.prog) ((w1.alloc (.cells #[.int .u8 y0, .int .u8 y1, .int .u8 y2, .int .u8 y3, .int .u8 y4, .int .u8 y5, .int .u8 y6, .int .u8 y7, .int .u8 y8, .int .u8 y9, .int .u8 y10, .int .u8 y11, .int .u8 y12, .int .u8 y13, .int .u8 y14] 22)).setCells w.heap.size 0 [.int .u8 y0, .int .u8 y1, .int .u8 y2, .int .u8 y3, .int .u8 y4, .int .u8 y5, .int .u8 y6, .int .u8 y7, .int .u8 y8, .int .u8 y9, .int .u8 y10, .int .u8 y11, .int .u8 y12, .int .u8 y13, .int .u8 y14, .int .i64 n, .bool b0, .bool b1, .bool b2, .bool b3, .bool b4]) w.heap.size 0 30 [.int .u8 y0, .int .u8 y1, .int .u8 y2, .int .u8 y3, .int .u8 y4, .int .u8 y5, .int .u8 y6, .int .u8 y7, .int .u8 y8, .int .u8 y9, .int .u8 y10, .int .u8 y11, .int .u8 y12, .int .u8 y13, .int .u8 y14, .int .i64 n, .bool b0, .bool b1, .bool b2, .bool b3, .bool b4] _ (World.rangeAt_setCells_same _ w.heap.size 0 _ (World.there_alloc HTH.out _)) Try.underlying30 rfl Try.size30
  have hbl : Below w.heap.size w ((w1.alloc (.cells #[.int .u8 y0, .int .u8 y1, .int .u8 y2, .int .u8 y3, .int .u8 y4, .int .u8 y5, .int .u8 y6, .int .u8 y7, .int .u8 y8, .int .u8 y9, .int .u8 y10, .int .u8 y11, .int .u8 y12, .int .u8 y13, .int .u8 y14] 22)).setCells w.heap.size 0 [.int .u8 y0, .int .u8 y1, .int .u8 y2, .int .u8 y3, .int .u8 y4, .int .u8 y5, .int .u8 y6, .int .u8 y7, .int .u8 y8, .int .u8 y9, .int .u8 y10, .int .u8 y11, .int .u8 y12, .int .u8 y13, .int .u8 y14, .int .i64 n, .bool b0, .bool b1, .bool b2, .bool b3, .bool b4]) := below_setCells ((((Below.refl _ _).alloc (Nat.le_refl _) _).trans (hb.mono (by simp))).alloc (by omega) _) (Nat.le_refl _) _ _
  generalize (w1.alloc (.cells #[.int .u8 y0, .int .u8 y1, .int .u8 y2, .int .u8 y3, .int .u8 y4, .int .u8 y5, .int .u8 y6, .int .u8 y7, .int .u8 y8, .int .u8 y9, .int .u8 y10, .int .u8 y11, .int .u8 y12, .int .u8 y13, .int .u8 y14] 22)).setCells w.heap.size 0 [.int .u8 y0, .int .u8 y1, .int .u8 y2, .int .u8 y3, .int .u8 y4, .int .u8 y5, .int .u8 y6, .int .u8 y7, .int .u8 y8, .int .u8 y9, .int .u8 y10, .int .u8 y11, .int .u8 y12, .int .u8 y13, .int .u8 y14, .int .i64 n, .bool b0, .bool b1, .bool b2, .bool b3, .bool b4] = W2 at hload hbl ⊢
  refine bodyPost_ret (v := .agg #[.int .u8 y0, .int .u8 y1, .int .u8 y2, .int .u8 y3, .int .u8 y4, .int .u8 y5, .int .u8 y6, .int .u8 y7, .int .u8 y8, .int .u8 y9, .int .u8 y10, .int .u8 y11, .int .u8 y12, .int .u8 y13, .int .u8 y14, .int .i64 n, .bool b0, .bool b1, .bool b2, .bool b3, .bool b4]) (results_cell_mid Try.results11 _ W2 w.heap.size _ rfl hload) rfl ⟨rfl, hbl⟩

end Go.Proofs.Qxb6601961a
