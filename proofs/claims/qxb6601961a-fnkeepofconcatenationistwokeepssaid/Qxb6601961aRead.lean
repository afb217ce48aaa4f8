import Derived.Test.Qxb6601961aKp
import Derived.BigRegion
namespace Go.Proofs.Qxb6601961a
open Go.RowKit
set_option linter.unusedSimpArgs false

set_option maxRecDepth 20000 in
set_option maxHeartbeats 1000000 in
theorem keep10 (g n m c : Nat) (ln D : List Int) (b0 b1 b2 b3 b4 : Bool) (p : Option Addr) (w : World) (hl : ln.length = 15)
    (hg : w.heap[g]? = some (.cells (scan ln n b0 b1 b2 b3 b4).toArray 41 (0, 0))) (hm : m = D.length) (hnm : n + m ≤ 9223372036854775807)
    (f : ∀ k, k < m → ∃ a, p = some ⟨a, 0, none⟩ ∧ w.cell? ⟨a, k, none⟩ = some (.int .u8 (D.getD k 0))) :
    Calls Try.prog 10 #[.pointer (some ⟨g, 0, none⟩), .slice p m c] w fun e w' => e = .returned (.tuple #[]) ∧ w'.heap[g]? = some (.cells (scan (kp ln n D) ((n + m : Nat) : Int) b0 b1 b2 b3 b4).toArray 41 (0, 0)) ∧ Below g w w' := by
  have HK : Hid (Calls Try.prog 17 #[.pointer (some ⟨g, 0, none⟩), .slice p m c] w fun e w' => e = .returned (.tuple #[]) ∧ w'.heap[g]? = some (.cells (scan (kp ln n D) ((n + m : Nat) : Int) b0 b1 b2 b3 b4).toArray 41 (0, 0)) ∧ Below g w w') := keep17 g n m c ln D b0 b1 b2 b3 b4 p w hl hg hm hnm f
  clear hl hg hm hnm f
  go_enter Try.func10, Try.ntmps10
  go_wp2_with fail
  refine HK.out.mono ?_
  rintro e w1 ⟨rfl, h1, h2⟩
  have H1 : Hid (w1.heap[g]? = some (.cells (scan (kp ln n D) ((n + m : Nat) : Int) b0 b1 b2 b3 b4).toArray 41 (0, 0))) := h1
  clear h1 HK
  go_wp2
  go_end0
  exact ⟨rfl, H1.out, h2⟩

theorem there_new (w : World) (C : Array Value) (t n : Nat) (h : C.size = n) : (w.alloc (.cells C t)).there w.heap.size 0 n := fun j hj => by
  rw [Nat.zero_add]
  have hb := heap_alloc_new w (.cells C t)
  exact ⟨by rw [cell_of_row _ _ j _ _ _ hb, Array.getElem?_eq_getElem (by omega)]; rfl, frozen_of_row _ _ j _ _ hb⟩
theorem cell_set_far {w : World} {g b o i : Nat} {vs : List Value} (h : g ≠ b) : (w.drew.setCells b o vs).cell? ⟨g, i, none⟩ = w.cell? ⟨g, i, none⟩ :=
  (World.cell?_setCells_out b vs o w.drew ⟨g, i, none⟩ (fun e _ => absurd e h)).trans (by simp)
theorem below_setCells {B : Nat} {a w : World} (h : Below B a w) {b : Nat} (hb : B ≤ b) : ∀ (vs : List Value) (o : Nat), Below B a (w.setCells b o vs) := by
  intro vs
  induction vs generalizing w with
  | nil => intro o; exact h
  | cons v vs ih => intro o; exact ih (h.setCell (p := ⟨b, o, none⟩) hb v) (o + 1)
def tl (n : Int) (b0 b1 b2 b3 b4 : Bool) : List Value := [.int .i64 n, .bool b0, .bool b1, .bool b2, .bool b3, .bool b4]

set_option maxRecDepth 20000 in
set_option maxHeartbeats 1000000 in
theorem state18 (g : Nat) (n : Int) (cs : List Value) (b0 b1 b2 b3 b4 : Bool) (w : World) (hcl : cs.length = 15) (h1 : ∀ v ∈ cs, v.oneCell' = true)
    (hg : w.heap[g]? = some (.cells (cs ++ tl n b0 b1 b2 b3 b4).toArray 41 (0, 0))) :
    Calls Try.prog 18 #[.pointer (some ⟨g, 0, none⟩)] w fun e w' => e = .returned (.tuple #[.agg cs.toArray, .int .i64 n, .bool b0, .bool b1, .bool b2, .bool b3, .bool b4]) ∧ Below w.heap.size w w' := by
  have hlt : g < w.heap.size := by
    rcases Nat.lt_or_ge g w.heap.size with h | h
    · exact h
    · rw [Array.getElem?_eq_none h] at hg; cases hg
  have hc : ∀ j v, (cs ++ tl n b0 b1 b2 b3 b4)[j]? = some v → w.cell? ⟨g, j, none⟩ = some v := by
    intro j v hv
    rw [cell_of_row w g j _ _ _ hg]; simpa using hv
  have e15 : ∀ i, (cs ++ tl n b0 b1 b2 b3 b4)[15 + i]? = (tl n b0 b1 b2 b3 b4)[i]? := by
    intro i; rw [List.getElem?_append_right (by omega), hcl, Nat.add_sub_cancel_left]
  have k0 : w.cell? ⟨g, 15, none⟩ = some (.int .i64 n) := hc 15 _ (e15 0)
  have k1 : w.cell? ⟨g, 16, none⟩ = some (.bool b0) := hc 16 _ (e15 1)
  have k2 : w.cell? ⟨g, 17, none⟩ = some (.bool b1) := hc 17 _ (e15 2)
  have k3 : w.cell? ⟨g, 18, none⟩ = some (.bool b2) := hc 18 _ (e15 3)
  have k4 : w.cell? ⟨g, 19, none⟩ = some (.bool b3) := hc 19 _ (e15 4)
  have k5 : w.cell? ⟨g, 20, none⟩ = some (.bool b4) := hc 20 _ (e15 5)
  have hra : w.rangeAt g 0 cs := by
    intro j v hv
    rw [Nat.zero_add]
    exact hc j v (by rw [List.getElem?_append_left (List.getElem?_eq_some_iff.1 hv).1]; exact hv)
  have hu := Try.underlying22
  have hi : (Try.prog.info? 22).map (·.size) = some cs.length := by rw [hcl]; kernel_rfl
  clear hg hc e15
  go_enter Try.func18, Try.ntmps18
  go_wp2
  have hbW : Below w.heap.size w (w.alloc (.cells #[.int .u8 0, .int .u8 0, .int .u8 0, .int .u8 0, .int .u8 0, .int .u8 0, .int .u8 0, .int .u8 0, .int .u8 0, .int .u8 0, .int .u8 0, .int .u8 0, .int .u8 0, .int .u8 0, .int .u8 0] 22)) := (Below.refl _ _).alloc (Nat.le_refl _) _
  have a1 := World.rangeAt_alloc hra (.cells #[.int .u8 0, .int .u8 0, .int .u8 0, .int .u8 0, .int .u8 0, .int .u8 0, .int .u8 0, .int .u8 0, .int .u8 0, .int .u8 0, .int .u8 0, .int .u8 0, .int .u8 0, .int .u8 0, .int .u8 0] 22)
  have a2 : (w.alloc (.cells #[.int .u8 0, .int .u8 0, .int .u8 0, .int .u8 0, .int .u8 0, .int .u8 0, .int .u8 0, .int .u8 0, .int .u8 0, .int .u8 0, .int .u8 0, .int .u8 0, .int .u8 0, .int .u8 0, .int .u8 0] 22)).there w.heap.size 0 cs.length := there_new w _ 22 _ (by rw [hcl]; rfl)
  have m0 := (hbW.cell (p := ⟨g, 15, none⟩) hlt).trans k0
  have m1 := (hbW.cell (p := ⟨g, 16, none⟩) hlt).trans k1
  have m2 := (hbW.cell (p := ⟨g, 17, none⟩) hlt).trans k2
  have m3 := (hbW.cell (p := ⟨g, 18, none⟩) hlt).trans k3
  have m4 := (hbW.cell (p := ⟨g, 19, none⟩) hlt).trans k4
  have m5 := (hbW.cell (p := ⟨g, 20, none⟩) hlt).trans k5
  have sW : w.heap.size < (w.alloc (.cells #[.int .u8 0, .int .u8 0, .int .u8 0, .int .u8 0, .int .u8 0, .int .u8 0, .int .u8 0, .int .u8 0, .int .u8 0, .int .u8 0, .int .u8 0, .int .u8 0, .int .u8 0, .int .u8 0, .int .u8 0] 22)).heap.size := by simp
  clear k0 k1 k2 k3 k4 k5 hra
  generalize w.alloc (.cells #[.int .u8 0, .int .u8 0, .int .u8 0, .int .u8 0, .int .u8 0, .int .u8 0, .int .u8 0, .int .u8 0, .int .u8 0, .int .u8 0, .int .u8 0, .int .u8 0, .int .u8 0, .int .u8 0, .int .u8 0] 22) = W at hbW a1 a2 m0 m1 m2 m3 m4 m5 sW ⊢
  have hgn : g ≠ w.heap.size := by omega
  go_region_held3 (fun w' => w'.rangeAt g 0 cs ∧ w'.there w.heap.size 0 cs.length ∧ w'.cell? ⟨g, 15, none⟩ = some (.int .i64 n) ∧ w'.cell? ⟨g, 16, none⟩ = some (.bool b0) ∧ w'.cell? ⟨g, 17, none⟩ = some (.bool b1) ∧ w'.cell? ⟨g, 18, none⟩ = some (.bool b2) ∧ w'.cell? ⟨g, 19, none⟩ = some (.bool b3) ∧ w'.cell? ⟨g, 20, none⟩ = some (.bool b4)) (first | go_keep_ranges | ((try dsimp only); (repeat' apply And.intro) <;> first | go_keep_ranges | go_keep | (rw [cell_set_far hgn]; assumption))) (fail)
  have hload := run_loadVar_mid (P := Try.prog) (W.drew.setCells w.heap.size 0 cs) w.heap.size 0 22 cs _ (World.rangeAt_setCells_same W.drew w.heap.size 0 cs (by simpa using a2)) Try.underlying22 rfl hi
  go_wp2
  refine bodyPost_ret (v := .tuple #[.agg cs.toArray, .int .i64 n, .bool b0, .bool b1, .bool b2, .bool b3, .bool b4]) (by simp [results, Try.results18, asAddr, hload]) rfl ⟨rfl, ?_⟩
  exact below_setCells hbW.drew (Nat.le_refl _) cs 0
end Go.Proofs.Qxb6601961a
