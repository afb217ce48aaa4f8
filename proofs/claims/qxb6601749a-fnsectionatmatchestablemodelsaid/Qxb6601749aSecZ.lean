import Derived.Test.Qxb6601749aSecW
namespace Go.Proofs.Qxb6601749a
open Go.RowKit
set_option linter.unusedSimpArgs false

set_option maxRecDepth 20000 in
set_option maxHeartbeats 1000000 in
theorem sec34n (bb bo L C : Nat) (B : Nat → Int) (pid : Int) (w : World)
    (hat : At w bb bo L B) (hB : ∀ i, 0 ≤ B i ∧ B i ≤ 255) (hL : 188 ≤ L) (hC : L ≤ C) (hC2 : C ≤ 9223372036854775807)
    (hd : ¬ ∃ a x d0 : Nat, Hd B pid a x d0) :
    Calls Try.prog 34 #[.slice (some ⟨bb, bo, none⟩) L C, .int .i64 pid] w fun e w' => Below w.heap.size w w' ∧ (SecTrue w' B pid L e ∨ SecFalse B pid L e) := by
  have hbb : bb < w.heap.size := hat.lt (by omega)
  have HA1 : Hid (∀ o, At (w.alloc o) bb bo L B) := fun o => hat.alloc hbb o
  have HF : Hid (¬ ∃ a x d0 m : Nat, Hd B pid a x d0 ∧ Found B pid L d0 m) := fun ⟨a, x, d0, m, h1, h2⟩ => hd ⟨a, x, d0, h1⟩
  have c2 : (188 : Int) ≤ (L : Int) := by omega
  have c3 : (188 : Int) ≤ (C : Int) := by omega
  rcases hp : pay B pid with _ | a
  · have HP : Hid (pay B pid = none) := hp
    clear hat hd hB hp
    go_enter Try.func34, Try.ntmps34
    go_wp2_with (first | (go_at_call 33; refine (pay33n bb bo C B pid _ ((HA1.out _).le hL) (by omega) (by omega) HP.out).mono ?_; rintro e w' ⟨rfl, n, rfl⟩))
    exact bodyPost_ret (v := .tuple #[.agg #[.slice none 0 0, .slice none 0 0], .bool false]) (by simp [results, Try.results34, go_sem]) rfl ⟨((below_drewN' ((Below.refl _ _).alloc (Nat.le_refl _) _) _).setCell (Nat.le_refl _) _).setCell (Nat.le_refl _) _, Or.inr ⟨HF.out, rfl⟩⟩
  · obtain ⟨ha, ha2⟩ := pay_range (hB 4).1 hp
    have HP : Hid (pay B pid = some a) := hp
    rcases hs : stt B with _ | _
    · have HS : Hid (stt B = false) := hs
      clear hat hd hB hp hs
      go_enter Try.func34, Try.ntmps34
      go_wp2_with (first | (go_at_call 33; refine (pay33s bb bo C B pid _ ((HA1.out _).le hL) (by omega) (by omega) a false HP.out HS.out).mono ?_; rintro e w' ⟨rfl, n, rfl⟩))
      exact bodyPost_ret (v := .tuple #[.agg #[.slice none 0 0, .slice none 0 0], .bool false]) (by simp [results, Try.results34, go_sem]) rfl ⟨((below_drewN' ((Below.refl _ _).alloc (Nat.le_refl _) _) _).setCell (Nat.le_refl _) _).setCell (Nat.le_refl _) _, Or.inr ⟨HF.out, rfl⟩⟩
    · have HS : Hid (stt B = true) := hs
      have hba := hB a
      obtain ⟨x, hx⟩ : ∃ x : Nat, B a = (x : Int) := ⟨(B a).toNat, by omega⟩
      have hx2 : x ≤ 255 := by omega
      have hfit : 188 - a < 1 + x + 3 := by
        rcases Nat.lt_or_ge (188 - a) (1 + x + 3) with h | h
        · exact h
        · exact absurd ⟨a, x, _, hp, hs, hx, h, rfl⟩ hd
      have hc0 := (hat a (by omega)).1
      rw [hx] at hc0
      have c4 : ((188 - a : Nat) : Int) < 1 + (x : Int) + 3 := by omega
      have c5 : (0 : Int) < ((188 - a : Nat) : Int) := by omega
      clear hat hd hB hp hs hx hba hfit
      go_enter Try.func34, Try.ntmps34
      go_wp2_with (first | (go_at_call 33; refine (pay33s bb bo C B pid _ ((HA1.out _).le hL) (by omega) (by omega) a true HP.out HS.out).mono ?_; rintro e w' ⟨rfl, n, rfl⟩))
      exact bodyPost_ret (v := .tuple #[.agg #[.slice none 0 0, .slice none 0 0], .bool false]) (by simp [results, Try.results34, go_sem]) rfl ⟨((below_drewN' ((Below.refl _ _).alloc (Nat.le_refl _) _) _).setCell (Nat.le_refl _) _).setCell (Nat.le_refl _) _, Or.inr ⟨HF.out, rfl⟩⟩

theorem sec34 (bb bo L C : Nat) (B : Nat → Int) (pid : Int) (w : World)
    (hat : At w bb bo L B) (hB : ∀ i, 0 ≤ B i ∧ B i ≤ 255) (hL : 188 ≤ L) (hL2 : L ≤ 1048576) (hC : L ≤ C) (hC2 : C ≤ 9223372036854775807) :
    Calls Try.prog 34 #[.slice (some ⟨bb, bo, none⟩) L C, .int .i64 pid] w fun e w' => Below w.heap.size w w' ∧ (SecTrue w' B pid L e ∨ SecFalse B pid L e) := by
  by_cases h : ∃ a x d0 : Nat, Hd B pid a x d0
  · obtain ⟨a, x, d0, h⟩ := h
    exact sec34y bb bo L C a x d0 B pid w hat hB hL hL2 hC hC2 h
  · exact sec34n bb bo L C B pid w hat hB hL hC hC2 h

/-- What ZZSectionAt hands out. -/
def ZTrue (w' : World) (B : Nat → Int) (pid : Int) (L : Nat) (e : Ending) : Prop :=
  ∃ a x d0 m g1 c1 g2 c2 : Nat, Hd B pid a x d0 ∧ Found B pid L d0 m ∧ e = .returned (.tuple #[.slice (some ⟨g1, 0, none⟩) (secN B d0) c1, .slice (some ⟨g2, 0, none⟩) (pks B pid m).length c2, .bool true]) ∧
    At w' g1 0 (secN B d0) (fun i => (dat B pid d0 m).getD i 0) ∧ At w' g2 0 (pks B pid m).length (fun i => (pks B pid m).getD i 0) ∧ secN B d0 ≤ c1 ∧ c1 ≤ maxLen ∧ (pks B pid m).length ≤ c2 ∧ c2 ≤ maxLen
def ZFalse (B : Nat → Int) (pid : Int) (L : Nat) (e : Ending) : Prop :=
  (¬ ∃ a x d0 m : Nat, Hd B pid a x d0 ∧ Found B pid L d0 m) ∧ e = .returned (.tuple #[.slice none 0 0, .slice none 0 0, .bool false])

theorem pks_pos (B : Nat → Int) (pid : Int) (m : Nat) : 188 ≤ (pks B pid m).length := by
  induction m with
  | zero => simp [pks, length_seg]
  | succ m ih => simp only [pks, List.length_append]; omega

set_option maxRecDepth 20000 in
set_option maxHeartbeats 1000000 in
theorem sec19 (bb bo L C : Nat) (B : Nat → Int) (pid : Int) (w : World)
    (hat : At w bb bo L B) (hB : ∀ i, 0 ≤ B i ∧ B i ≤ 255) (hL : 188 ≤ L) (hL2 : L ≤ 1048576) (hC : L ≤ C) (hC2 : C ≤ 9223372036854775807) :
    Calls Try.prog 19 #[.slice (some ⟨bb, bo, none⟩) L C, .int .i64 pid] w fun e w' => Below w.heap.size w w' ∧ (ZTrue w' B pid L e ∨ ZFalse B pid L e) := by
  have HS : Hid (Calls Try.prog 34 #[.slice (some ⟨bb, bo, none⟩) L C, .int .i64 pid] w fun e w' => Below w.heap.size w w' ∧ (SecTrue w' B pid L e ∨ SecFalse B pid L e)) := sec34 bb bo L C B pid w hat hB hL hL2 hC hC2
  clear hat hB hL hL2 hC hC2
  go_enter Try.func19, Try.ntmps19
  go_wp2_with fail
  refine HS.out.mono ?_
  rintro e w1 ⟨hb, hr⟩
  rcases hr with ⟨a, x, d0, m, g1, c1, g2, c2, hd, hf, rfl, h1, h2, h3, h4, h5, h6⟩ | ⟨hno, rfl⟩
  · go_wp2
    go_quiet (fail)
    go_wp2
    go_ret3
    refine ⟨?_, Or.inl ⟨a, x, d0, m, g1, c1, g2, c2, hd, hf, rfl, ?_, ?_, h3, h4, h5, h6⟩⟩
    · exact below_drewN' (hb.alloc hb.size _) _
    · exact (h1.alloc (h1.lt (by have := hf.least; omega)) _).drewN _
    · exact (h2.alloc (h2.lt (by have := pks_pos B pid m; omega)) _).drewN _
  · go_wp2
    go_quiet (fail)
    go_wp2
    go_ret3
    refine ⟨?_, Or.inr ⟨hno, rfl⟩⟩
    exact below_drewN' (hb.alloc hb.size _) _
end Go.Proofs.Qxb6601749a
