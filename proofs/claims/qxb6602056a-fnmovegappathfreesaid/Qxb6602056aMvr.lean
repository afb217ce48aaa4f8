import Derived.Test.Qxb6602056aMvl
namespace Go.Proofs.Qxb6602056a
open Go.RowKit
set_option linter.unusedSimpArgs false

set_option maxRecDepth 20000 in
set_option maxHeartbeats 4000000 in
theorem move26r (S : Nat → Prop) (base g : Nat) (bl : Int) (rb n c q gs ge : Nat) (p1 : Option Addr) (n1 c1 : Nat) (p2 : Option Addr) (n2 c2 : Nat) (R B A : List Int) (w0 w : World)
    (h : Sd S w0 w base g gs ge bl (.slice (some ⟨rb, 0, none⟩) n c) (.slice p1 n1 c1) (.slice p2 n2 c2) R B A) (hq : gs < q) (h2 : gs ≤ ge) (h3 : ge + (q - gs) ≤ n) (h4 : n ≤ 1000000) (hB : B.length ≤ 1000000) (hA : A.length ≤ 1000000) (hs : A.Pairwise (· ≤ ·)) (hz : ∀ z ∈ A, 0 ≤ z ∧ z ≤ 1000000) :
    Calls Try.prog 26 #[.pointer (some ⟨g, 0, none⟩), .int .i64 (q : Int)] w fun e w' => e = .returned (.tuple #[]) ∧ ∃ vb' va', Sd S w0 w' base g q ((ge + (q - gs) : Nat) : Int) bl (.slice (some ⟨rb, 0, none⟩) n c) vb' va' (R.take gs ++ ((R.drop ge).take (q - gs) ++ R.drop q)) (B ++ ((A.drop (A.countP (· < ((n - (ge - gs) - q + 1 : Nat) : Int)))).reverse.map fun z => ((n - (ge - gs) : Nat) : Int) - z)) (A.take (A.countP (· < ((n - (ge - gs) - q + 1 : Nat) : Int)))) := by
  have HD : Hid (Sd S w0 w base g gs ge bl (.slice (some ⟨rb, 0, none⟩) n c) (.slice p1 n1 c1) (.slice p2 n2 c2) R B A) := h
  obtain ⟨rest, hrb, hc, hnR, hbrb, hcm⟩ := h.sg.r.row
  have hgr : g ≠ rb := fun e => h.sg.gr (by rw [e]; rfl)
  have hlg : g < w.heap.size := h.sg.buf.lt
  have k0 := h.sg.buf.c0
  have k1 := h.sg.buf.c1
  have k2 := h.sg.buf.c2
  have HN1 : Hid (n1 = B.length ∧ n2 = A.length) := by
    obtain ⟨_, _, e1, _⟩ := h.sg.b.slice
    obtain ⟨_, _, e2, _⟩ := h.sg.a.slice
    injection e1 with _ e1
    injection e2 with _ e2
    exact ⟨e1, e2⟩
  obtain ⟨m, hm⟩ : ∃ m : Nat, m = q - gs := ⟨_, rfl⟩
  obtain ⟨e0, he0⟩ : ∃ e0 : Nat, e0 = ge + m := ⟨_, rfl⟩
  obtain ⟨f, hf⟩ : ∃ f : Nat, f = A.countP (· < ((n - (ge - gs) - q + 1 : Nat) : Int)) := ⟨_, rfl⟩
  obtain ⟨N, hN⟩ : ∃ N : Nat, N = n - (ge - gs) := ⟨_, rfl⟩
  have hfn : f ≤ n2 := by rw [HN1.out.2, hf]; exact List.countP_le_length
  have hn1 : n1 ≤ 1000000 := by rw [HN1.out.1]; exact hB
  have hn2 : n2 ≤ 1000000 := by rw [HN1.out.2]; exact hA
  have HRB : Hid (w.heap[rb]? = some (.cells (R.map (Value.int .i32) ++ rest).toArray 21 (0, 0))) := hrb
  rw [← hm, ← he0, ← hf, ← hN]
  obtain ⟨B', hB'⟩ : ∃ B', B' = B ++ (A.drop f).reverse.map fun z => (N : Int) - z := ⟨_, rfl⟩
  obtain ⟨A', hA'⟩ : ∃ A', A' = A.take f := ⟨_, rfl⟩
  obtain ⟨R', hR'⟩ : ∃ R', R' = R.take gs ++ ((R.drop ge).take m ++ R.drop q) := ⟨_, rfl⟩
  rw [← hA', ← hB', ← hR']
  have HE : Hid (B' = B ++ ((A.drop f).reverse.map fun z => (N : Int) - z) ∧ A' = A.take f ∧ R' = R.take gs ++ ((R.drop ge).take m ++ R.drop q)) := ⟨hB', hA', hR'⟩
  clear hA' hB' hR'
  have z1 : (q : Int) - (gs : Int) = (m : Int) := by omega
  have z2 : (ge : Int) + (m : Int) = (e0 : Int) := by omega
  have z3 : ¬ (q : Int) < (gs : Int) := by omega
  have z4 : (gs : Int) ≤ (q : Int) := by omega
  have z5 : (ge : Int) ≤ (e0 : Int) := by omega
  have z6 : (e0 : Int) ≤ (n : Int) := by omega
  have z7 : (q : Int) ≤ (n : Int) := by omega
  have z8 : (e0 : Int) ≤ (c : Int) := by omega
  have z9 : (q : Int) ≤ (c : Int) := by omega
  have z10 : (gs : Int) < (q : Int) := by omega
  have z11 : n ≤ c := by omega
  have z12 : ¬ c = gs := by omega
  have z13 : ¬ c = ge := by omega
  have z14 : IntKind.i64.wrap (e0 : Int) = e0 := by rw [IntKind.wrap_i64]; omega
  have z15 : IntKind.i64.wrap (m : Int) = m := by rw [IntKind.wrap_i64]; omega
  have hXl : ((R.drop ge).take m).length = m := by simp; omega
  have HXl : Hid (((R.drop ge).take m).length = m) := hXl
  have HXc : Hid (∀ j v, (((R.drop ge).take m).map (Value.int .i32))[j]? = some v → (w.drew).cell? ((⟨rb, ge, none⟩ : Addr).add j) = some v) := by
    intro j v hv
    have hj : j < m := by
      rcases Nat.lt_or_ge j m with h1 | h1
      · exact h1
      · rw [List.getElem?_eq_none (by simp only [List.length_map, hXl]; omega)] at hv; cases hv
    show w.cell? _ = _
    rw [add_none, cell_of_row w rb (ge + j) _ _ _ hrb, ← hv]
    simp only [List.getElem?_toArray, List.getElem?_map, List.getElem?_take, List.getElem?_drop]
    rw [if_pos hj, List.getElem?_append_left (by simp; omega), List.getElem?_map]
  have hfit : gs + (((R.drop ge).take m).map (Value.int .i32)).length ≤ (R.map (Value.int .i32) ++ rest).length := by
    simp only [List.length_append, List.length_map, hXl]; omega
  have hmin : (((R.drop ge).take m).map (Value.int .i32)).length = Nat.min (e0 - ge) (q - gs) := by
    rw [List.length_map, hXl]; show m = min _ _; omega
  have HF : Hid (gs + (((R.drop ge).take m).map (Value.int .i32)).length ≤ (R.map (Value.int .i32) ++ rest).length ∧ (((R.drop ge).take m).map (Value.int .i32)).length = Nat.min (e0 - ge) (q - gs)) := ⟨hfit, hmin⟩
  have HM : Hid (m = q - gs ∧ e0 = ge + m ∧ N = n - (ge - gs) ∧ f = A.countP (· < ((n - (ge - gs) - q + 1 : Nat) : Int))) := ⟨hm, he0, hN, hf⟩
  have HC : Hid (c = R.length + rest.length ∧ n = R.length) := ⟨hc, hnR⟩
  have HS : Hid (A.Pairwise (· ≤ ·)) := hs
  have HZ : Hid (∀ z ∈ A, 0 ≤ z ∧ z ≤ 1000000) := hz
  clear h hrb hm he0 hc hnR hs hz hXl hfit hmin hN hf
  go_enter Try.func26, Try.ntmps26
  go_wp2
  go_region_held3 (fun w' => w'.cell? ⟨g, 0, none⟩ = some (.slice (some ⟨rb, 0, none⟩) n c) ∧ w'.cell? ⟨g, 1, none⟩ = some (.int .i64 gs) ∧ w'.cell? ⟨g, 2, none⟩ = some (.int .i64 ge)) (first | go_keep | exact keep012 hgr hlg k0 k1 k2 hg2) ((refine step_copy_gr (by rfl) (.tmp 136) (.tmp 151) 22 22 (by rfl) 21 Try.underlying22 Try.size21 rb gs ⟨rb, ge, none⟩ (q - gs) (c - gs) (e0 - ge) (c - ge) (by rfl) (by rfl) (R.map (Value.int .i32) ++ rest) 21 HRB.out (((R.drop ge).take m).map (Value.int .i32)) HF.out.2 HXc.out HF.out.1 (by intro v hv; obtain ⟨z, _, rfl⟩ := List.mem_map.1 hv; rfl) ?_; intro w2 HG2 hg2))
  have HD2 : Hid (Sd S w0 w2 base g gs ge bl (.slice (some ⟨rb, 0, none⟩) n c) (.slice p1 n1 c1) (.slice p2 n2 c2) R' B A) := by
    rw [HE.out.2.2]
    have hx := HXl.out
    have hm := HM.out
    have hc := HC.out
    refine (HD.out.drewN 1).copy hg2 (Own.mk rest ?_ ?_ ?_ hbrb hcm)
    · rw [HG2.out, splice_own _ _ _ _ _ (by rw [hx]; omega), hx, show gs + m = q by omega]
    · simp only [List.length_append, List.length_take, List.length_drop]; omega
    · simp only [List.length_append, List.length_take, List.length_drop]; omega
  clear HG2 hg2 HRB HXc HF k0 k1 k2 HD
  go_wp2_with fail
  obtain ⟨pb, cb, eb, ib⟩ := HD2.out.sg.a.slice
  injection eb with eb1 eb2 eb3
  subst eb1 eb3
  rw [← eb2] at ib
  refine (below30 g _ n c gs ge bl _ p2 n2 c2 A q _ HD2.out.sg.buf ib HS.out h2 (by omega) h4 hn2 (by omega)).mono ?_
  rintro e w3 ⟨rfl, j3, rfl⟩
  rw [← HM.out.2.2.2]
  clear ib eb2
  have HD3' : Hid (Sd S w0 (w2.drewN j3) base g gs ge bl (.slice (some ⟨rb, 0, none⟩) n c) (.slice p1 n1 c1) (.slice p2 n2 c2) R' B A) := HD2.out.drewN j3
  clear HD2
  generalize w2.drewN j3 = w3 at HD3' ⊢
  have k5 := HD3'.out.sg.buf.c5
  go_wp2
  clear k5
  go_loopw [10] (fun i wr => ∃ (k : Nat) (p' : Option Addr) (c' : Nat), k + f ≤ n2 ∧ i = .int .i64 ((n2 : Int) - 1 - (k : Int)) ∧ Hid (Sd S w0 wr base g gs ge bl (.slice (some ⟨rb, 0, none⟩) n c) (.slice p' (n1 + k) c') (.slice p2 n2 c2) R' (B ++ (A.drop (n2 - k)).reverse.map fun z => (N : Int) - z) A)) (fun i _ => (intOf i + 1).toNat)
  case atStart => exact ⟨0, p1, c1, by omega, by go_num, by have h1 := HN1.out; have h2 := HD3'.out; rw [h1.2] at h2 ⊢; show Sd _ _ _ _ _ _ _ _ _ _ _ _ _ _; simpa using h2⟩
  case round =>
    obtain ⟨k, p', c', hk, rfl, HDk⟩ := hrel
    by_cases hlt : f + k < n2
    · have sg := HDk.out.sg
      have k4 := sg.buf.c4
      have k5 := sg.buf.c5
      have hlg' : g < wr.heap.size := sg.buf.lt
      obtain ⟨j, hj⟩ : ∃ j, j = n2 - 1 - k := ⟨_, rfl⟩
      obtain ⟨pb, cb, eb, ib⟩ := sg.a.slice
      injection eb with eb1 eb2 eb3
      subst eb1 eb3
      obtain ⟨b1, o1, rfl, h1⟩ := ib.at (j := j) (by omega)
      obtain ⟨u, hu⟩ : ∃ u, u = A.getD j 0 := ⟨_, rfl⟩
      rw [← hu] at h1
      have hum : 0 ≤ u ∧ u ≤ 1000000 := by
        apply HZ.out
        rw [hu, List.getD_eq_getElem?_getD, List.getElem?_eq_getElem (by omega : j < A.length)]
        exact List.getElem_mem _
      obtain ⟨D, hD⟩ : ∃ D, D = B ++ (A.drop (n2 - k)).reverse.map fun z => (N : Int) - z := ⟨_, rfl⟩
      rw [← hD] at HDk sg
      have hDl : n1 + k = D.length := by
        obtain ⟨_, _, e2, _⟩ := sg.b.slice
        injection e2 with _ e2
      obtain ⟨y, hy⟩ : ∃ y, y = (N : Int) - u := ⟨_, rfl⟩
      have hstep : D ++ [y] = B ++ (A.drop (n2 - (k + 1))).reverse.map fun z => (N : Int) - z := by
        rw [list_step B A N n2 k HN1.out.2 (by omega), hD, hy, hu, hj]
      have HY : Hid (D ++ [y] = B ++ (A.drop (n2 - (k + 1))).reverse.map fun z => (N : Int) - z) := hstep
      have em : (n2 : Int) - 1 - (k : Int) = (j : Int) := by omega
      rw [em]
      have y1 : (f : Int) ≤ (j : Int) := by omega
      have y2 : (0 : Int) ≤ (j : Int) := by omega
      have y3 : (j : Int) < (n2 : Int) := by omega
      have y4 : (N : Int) - u = y := hy.symm
      have y5 : IntKind.i64.wrap y = y := by have := HM.out; rw [IntKind.wrap_i64]; omega
      have HC29 : Hid (Calls Try.prog 29 #[.pointer (some ⟨g, 0, none⟩)] wr.drew fun e w' => e = .returned (.int .i64 (N : Int)) ∧ ∃ q, w' = wr.drew.drewN q) := by
        show Calls _ _ _ _ _
        have e : (N : Int) = (n : Int) - ((ge : Int) - (gs : Int)) := by have := HM.out; omega
        rw [e]
        exact len29 g _ n c gs ge bl _ _ wr.drew sg.buf (by omega) (by omega) (by omega) (by omega)
      have hbs : base ≤ wr.heap.size := by have := sg.bg; omega
      have HJ : Hid (j = n2 - 1 - k) := hj
      have HA : Hid (Own .i64 3 wr base (.slice p' (n1 + k) c') D) := sg.b
      have HN : Hid ((∀ row, row = Value.ownBlock (.slice p' (n1 + k) c') → row ≠ some g ∧ row ≠ some b1)) := by
        rintro _ rfl
        exact ⟨sg.gb, fun e => sg.ba b1 e rfl⟩
      have hDn : D.length ≤ 1000000000 := by omega
      have f4 : wr.frozen? ⟨g, 4, none⟩ = false := sg.buf.fr 4
      have HL : Hid ((D ++ [y]).length = n1 + (k + 1)) := by show _ = _; simp; omega
      clear sg ib hu hD hy hstep hj em hDl eb2 z1 z2 z3 z4 z5 z6 z7 z8 z9 z10 z11 z12 z13 z14 z15 hgr hlg
      have k4a : ∀ x o, ((wr.drewN x).alloc o).cell? ⟨g, 4, none⟩ = some (.slice p' (n1 + k) c') := fun x o => (World.cell?_alloc_lt _ _ _ hlg').trans k4
      go_wp2
      go_region_law (first
        | (refine step_push (by rfl) (.tmp 171) (.tmp 182) 23 (by rfl) .i64 3 8 Try.underlying23 Try.info3 (by decide) base (.slice p' (n1 + k) c') D y (by rfl) (HA.out.allocN _ _) _ (by rfl) (cell_new1 _ _ _) hDn (by simp; omega) ?_; intro v' w' HO' hg' HW'; obtain ⟨p3, c3, hv3, _⟩ := HO'.out.slice; rw [HL.out] at hv3; subst hv3
           have k4' : w'.cell? ⟨g, 4, none⟩ = some (.slice p' (n1 + k) c') := push_cell hg' k4 (HN.out _ rfl).1
           have f4' : w'.frozen? ⟨g, 4, none⟩ = false := push_frozen hg' k4 f4 (HN.out _ rfl).1)
        | (go_simp; go_at_call 29; refine HC29.out.mono ?_; rintro e w' ⟨rfl, q', rfl⟩))
      all_goals
        have HDn : Hid (Sd S w0 (w'.setCell ⟨g, 4, none⟩ (.slice p3 (n1 + (k + 1)) c3)) base g gs ge bl (.slice (some ⟨rb, 0, none⟩) n c) (.slice p3 (n1 + (k + 1)) c3) (.slice (some ⟨b1, o1, none⟩) n2 c2) R' (D ++ [y]) A) := HDk.out.push4 hg' HO'.out HW'.out
        clear HO' hg' HW' k4' f4' k4a k4 k5 h1 f4 HDk HA HN
        go_wp2
        go_roundw
      all_goals first
        | (case rel => exact ⟨k + 1, p3, c3, by omega, by have := HJ.out; go_num, by rw [← HY.out]; exact HDn⟩)
        | (case measure => simp [intOf])
    · have hk' : k = n2 - f := by omega
      have sg := HDk.out.sg
      have k1 := sg.buf.c1
      have k2 := sg.buf.c2
      have k5 := sg.buf.c5
      have f1 := sg.buf.fr 1
      have f2 := sg.buf.fr 2
      have f5 := sg.buf.fr 5
      have hcap : n2 ≤ c2 := sg.a.cap
      have y1 : (n2 : Int) - 1 - (k : Int) = (f : Int) - 1 := by omega
      have y2 : ¬ (f : Int) ≤ (f : Int) - 1 := by omega
      have y3 : (f : Int) ≤ (c2 : Int) := by omega
      have y4 : (0 : Int) ≤ (f : Int) := by omega
      have y5 : (gs : Int) + (m : Int) = (q : Int) := by omega
      have HK : Hid (k = n2 - f) := hk'
      clear sg hk'
      rw [y1]
      clear y1
      go_wp2
      go_end0
      refine ⟨rfl, .slice p' (n1 + k) c', .slice p2 f c2, ?_⟩
      have hd := ((HDk.out.cut5 f (by rw [← HN1.out.2]; exact hfn)).set1 (q : Int)).set2 (e0 : Int)
      rw [HE.out.1, HE.out.2.1]
      rw [show n2 - k = f from by have := HK.out; omega] at hd
      exact hd
end Go.Proofs.Qxb6602056a
