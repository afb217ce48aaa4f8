import Derived.Test.Qxb6601961aProg
import Derived.WalkKit
import Derived.WalkSpells
import Derived.WalkLawsBesides
import Derived.Deep.QuietTactic
import Derived.BigQuiet
import Derived.Deep.MidRow
import Derived.Deep.RegionHeld3
import Derived.Laws.StructEq
import Derived.Laws.CopyOwn
import Derived.Laws.OwnMore
namespace Go.Proofs.Qxb6601961a
open Go.RowKit

theorem Try.info5 : (Try.prog.info? 5).map (fun i => (i.zero, i.size, i.bytes)) = some (some (.int .u8 0), 1, 1) := by kernel_rfl

theorem below_drewN' {B : Nat} {a w : World} (h : Below B a w) (n : Nat) : Below B a (w.drewN n) := ⟨h.os, h.tape, h.output, h.size, h.block⟩
theorem cell_lt {w : World} {b o : Nat} {v : Value} (h : w.cell? ⟨b, o, none⟩ = some v) : b < w.heap.size := by
  rcases Nat.lt_or_ge b w.heap.size with hlt | hge
  · exact hlt
  · simp [World.cell?, Array.getElem?_eq_none hge] at h
theorem add_none (b o j : Nat) : (⟨b, o, none⟩ : Addr).add j = ⟨b, o + j, none⟩ := by unfold Addr.add; split <;> simp_all

/-- The bytes P lie in w from ⟨b, off⟩ on, n of them. -/
def At (w : World) (b off n : Nat) (P : Nat → Int) : Prop := ∀ i, i < n → w.cell? ⟨b, off + i, none⟩ = some (.int .u8 (P i))
theorem At.below {B : Nat} {w w' : World} {b off n : Nat} {P : Nat → Int} (h : At w b off n P) (hb : Below B w w') (hlt : b < B) : At w' b off n P :=
  fun i hi => (hb.cell (p := ⟨b, off + i, none⟩) hlt).trans (h i hi)

/-- A row of bytes that may be written. -/
def RowB (w : World) (g N : Nat) (F : Nat → Int) : Prop := ∀ i, i < N → w.cell? ⟨g, i, none⟩ = some (.int .u8 (F i)) ∧ w.frozen? ⟨g, i, none⟩ = false
theorem made_at (n : Nat) : ∀ i, i < n → (madeCells (Value.int .u8 0).cells (n * 1)).toList[i]? = some (.int .u8 0) := by
  intro i hi
  rw [show (Value.int .u8 0).cells = #[.int .u8 0] from rfl, toList_madeCells_one]
  simp [hi]
theorem RowB.of_own {w : World} {base g n : Nat} (h : w.ownsRow base 5 1 (.slice (some ⟨g, 0, none⟩) n n) n (madeCells (Value.int .u8 0).cells (n * 1)).toList) : RowB w g n (fun _ => 0) := by
  intro i hi
  refine ⟨?_, World.ownsRow.frozenAt h i⟩
  rw [World.ownsRow.cellAt h i (by omega)]
  exact made_at n i hi
theorem RowB.set {w : World} {g N : Nat} {F : Nat → Int} (h : RowB w g N F) (i : Nat) (v : Int) (hi : i < N) : RowB (w.setCell ⟨g, i, none⟩ (.int .u8 v)) g N (fun j => if j = i then v else F j) := by
  intro j hj
  obtain ⟨h1, h2⟩ := h j hj
  obtain ⟨h3, _⟩ := h i hi
  by_cases hij : j = i
  · subst hij
    refine ⟨?_, by simpa using h2⟩
    simp only [if_true]
    exact World.cell?_setCell_same _ _ _ h3
  · refine ⟨?_, by simpa using h2⟩
    simp only [if_neg hij]
    exact (World.cell?_setCell_other _ _ _ _ (by intro hh; injection hh; omega)).trans h1

/-- A slice of bytes that reads as the list D: nil, or at an address. -/
def Vw (w : World) (a : Option Addr) (n : Nat) (D : List Int) : Prop := n = D.length ∧ (a = none → n = 0) ∧ ∀ x, a = some x → ∀ i, i < n → w.cell? (x.add i) = some (.int .u8 (D.getD i 0))

/-- What clone and cat hand back: nil and empty, or a new row. -/
def Nw (w' : World) (base : Nat) (v : Value) (D : List Int) : Prop :=
  (v = .slice none 0 0 ∧ D = []) ∨ ∃ g, v = .slice (some ⟨g, 0, none⟩) D.length D.length ∧ base ≤ g ∧ g < w'.heap.size ∧ At w' g 0 D.length (fun i => D.getD i 0)
theorem Nw.below {w w' : World} {base : Nat} {v : Value} {D : List Int} (h : Nw w base v D) (hb : Below w.heap.size w w') : Nw w' base v D := by
  rcases h with h | ⟨g, h1, h2, h3, h4⟩
  · exact .inl h
  · exact .inr ⟨g, h1, h2, Nat.lt_of_lt_of_le h3 hb.size, h4.below hb h3⟩

set_option maxRecDepth 20000 in
set_option maxHeartbeats 1000000 in
theorem clone8s (x : Addr) (n c : Nat) (D : List Int) (w : World) (hn : n = D.length) (hn2 : n ≤ 1048576) (hc : ∀ i, i < n → w.cell? (x.add i) = some (.int .u8 (D.getD i 0))) (hb0 : ∀ i, 0 ≤ D.getD i 0 ∧ D.getD i 0 ≤ 255) :
    Calls Try.prog 8 #[.slice (some x) n c] w fun e w' => ∃ v, e = .returned v ∧ Nw w' w.heap.size v D ∧ Below w.heap.size w w' := by
  have HC : Hid (∀ i, i < n → w.cell? (x.add i) = some (.int .u8 (D.getD i 0))) := hc
  have HN : Hid (n = D.length) := hn
  have HB0 : Hid (∀ i, 0 ≤ D.getD i 0 ∧ D.getD i 0 ≤ 255) := hb0
  clear hc hn hb0
  obtain ⟨i0, hi, hz0, hz1, hz2⟩ := info_parts Try.info5
  have hnil := fun (w : World) (a : Option Addr) (n c : Nat) => Lib.run_eql_slice_nil (P := Try.prog) w 23 5 a n c 0 0 Try.underlying23
  go_enter Try.func8, Try.ntmps8
  go_wp2_with (first
    | (at_make; refine wpList_make_full _ rfl (.tmp 8) (.tmp 8) 23 rfl w.heap.size 5 i0 (.int .u8 0) 1 Try.underlying23 hi hz0 hz1 .i64 .i64 (n : Int) (n : Int) n rfl rfl rfl rfl (by rw [hz2]; omega) (by unfold maxLen; omega) (Nat.le_refl _) ?_; intro w1 hown1 hgrow1; have lt1 := World.ownsRow.lt hown1 w.heap.size rfl; have R1 : RowB w1 w.heap.size n (fun _ => 0) := RowB.of_own hown1; have hb1 : Below w.heap.size w w1 := (Below.refl _ _).grown hgrow1 (Nat.le_refl _) (by simp); clear hown1 hgrow1))
  go_loopw [4] (fun i wr => ∃ (k : Nat) (F : Nat → Int), k ≤ n ∧ i = .int .i64 (k : Int) ∧ Hid (RowB wr w.heap.size n F) ∧ Hid (∀ j, j < k → F j = D.getD j 0) ∧ Below w.heap.size w wr ∧ w.heap.size < wr.heap.size) (fun i _ => n - (intOf i).toNat)
  case atStart => exact ⟨0, _, Nat.zero_le _, rfl, R1, fun j hj => absurd hj (by omega), hb1, lt1.2⟩
  case round =>
    clear R1 hb1 lt1
    obtain ⟨k, F, hk, rfl, HR, HF, hbr, hsz⟩ := hrel
    by_cases hlt : k < n
    · obtain ⟨b, off, spot⟩ := x
      have hspot : spot = none := by simpa [Addr.add] using World.cell?_spot (HC.out 0 (by omega))
      subst hspot
      have h1 := HC.out k hlt
      rw [add_none] at h1
      have hbb := cell_lt h1
      have v1 : wr.cell? ⟨b, off + k, none⟩ = some (.int .u8 (D.getD k 0)) := (hbr.cell (p := ⟨b, off + k, none⟩) hbb).trans h1
      obtain ⟨z, hz⟩ : ∃ z, z = D.getD k 0 := ⟨_, rfl⟩
      rw [← hz] at v1
      have HZ : Hid (z = D.getD k 0) := hz
      have v2 := (HR.out k hlt).1
      have v3 := (HR.out k hlt).2
      have z1 : (0 : Int) ≤ (k : Int) := by omega
      have z2 : (k : Int) < (n : Int) := by omega
      clear hz h1
      go_wp2
      go_roundw
      case rel =>
        refine ⟨k + 1, fun j => if j = k then z else F j, by omega, by go_num, HR.out.set k z hlt, fun j hj => ?_, hbr.setCell (Nat.le_refl _) _, by simpa using hsz⟩
        show (if j = k then z else F j) = _
        by_cases e : j = k
        · rw [if_pos e, e, HZ.out]
        · rw [if_neg e]; exact HF.out j (by omega)
      case measure => simp [intOf]; omega
    · obtain rfl : k = n := by omega
      go_wp2
      go_ret
      refine ⟨_, rfl, .inr ⟨w.heap.size, ?_, Nat.le_refl _, hsz, ?_⟩, hbr⟩
      · rw [← HN.out]; rfl
      · intro i hi
        rw [← HN.out] at hi
        rw [Nat.zero_add, (HR.out i hi).1, HF.out i hi]

set_option maxRecDepth 20000 in
theorem clone8n (w : World) :
    Calls Try.prog 8 #[.slice none 0 0] w fun e w' => ∃ v, e = .returned v ∧ Nw w' w.heap.size v [] ∧ Below w.heap.size w w' := by
  have hnil := fun (w : World) (a : Option Addr) (n c : Nat) => Lib.run_eql_slice_nil (P := Try.prog) w 23 5 a n c 0 0 Try.underlying23
  go_enter Try.func8, Try.ntmps8
  go_wp2
  go_ret
  exact ⟨_, rfl, .inl ⟨rfl, rfl⟩, Below.refl _ _⟩
end Go.Proofs.Qxb6601961a
