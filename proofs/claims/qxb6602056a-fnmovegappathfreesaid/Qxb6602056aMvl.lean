import Derived.Test.Qxb6602056aSgs
import Derived.Deep.RegionLaw
namespace Go.Proofs.Qxb6602056a
open Go.RowKit
set_option linter.unusedSimpArgs false

theorem Own.row {k : IntKind} {e : TypeId} {w : World} {base rb n c : Nat} {D : List Int} (h : Own k e w base (.slice (some ⟨rb, 0, none⟩) n c) D) : ∃ rest : List Value, w.heap[rb]? = some (.cells (D.map (Value.int k) ++ rest).toArray e (0, 0)) ∧ c = D.length + rest.length ∧ n = D.length ∧ base ≤ rb ∧ c ≤ maxLen := by
  rcases h.2 with ⟨h1, h2⟩ | ⟨g, cap, cur, hv, h1, h2, h3, h4, h5, h6⟩
  · cases h1
  · injection hv with e1 e2 e3
    injection e1 with e1
    injection e1 with e1
    subst e1 e3
    refine ⟨cur.toList.drop D.length, ?_, ?_, e2, h1, h4⟩
    · rw [h2, ← h6, Nat.mul_one, List.take_append_drop]
    · rw [List.length_drop]; have : cur.toList.length = cur.size := Array.length_toList; omega
theorem Own.mk {k : IntKind} {e : TypeId} {w : World} {base rb n c : Nat} {D : List Int} (rest : List Value) (h : w.heap[rb]? = some (.cells (D.map (Value.int k) ++ rest).toArray e (0, 0))) (h1 : c = D.length + rest.length) (h2 : n = D.length) (h3 : base ≤ rb) (h4 : c ≤ maxLen) : Own k e w base (.slice (some ⟨rb, 0, none⟩) n c) D := by
  subst h2
  refine ⟨by simp, .inr ⟨rb, c, _, rfl, h3, h, by omega, h4, by simp; omega, ?_⟩⟩
  simp
theorem splice_own (D X : List Int) (f : Int → Value) (rest : List Value) (off : Nat) (h : off + X.length ≤ D.length) : splice (D.map f ++ rest) off (X.map f) = (D.take off ++ (X ++ D.drop (off + X.length))).map f ++ rest := by
  unfold splice
  rw [List.take_append_of_le_length (by simp; omega), List.length_map, List.drop_append_of_le_length (by simp; omega)]
  simp [List.map_take, List.map_drop]

theorem Own.allocN {k : IntKind} {e : TypeId} {w : World} {base : Nat} {v : Value} {D : List Int} (h : Own k e w base v D) (n : Nat) (o : Obj) : Own k e ((w.drewN n).alloc o) base v D := (h.drewN n).alloc o
theorem Own.cap {k : IntKind} {e : TypeId} {w : World} {base : Nat} {p : Option Addr} {n c : Nat} {D : List Int} (h : Own k e w base (.slice p n c) D) : n ≤ c := by
  rcases h.2 with ⟨h1, h2⟩ | ⟨g, cap, cur, hv, h1, h2, h3, h4, h5, h6⟩
  · injection h1 with e1 e2 e3; omega
  · injection hv with e1 e2 e3; omega
theorem list_step (A B : List Int) (N : Int) (n1 k : Nat) (h : n1 = B.length) (hk : k < n1) : A ++ (B.drop (n1 - (k + 1))).reverse.map (fun z => N - z) = (A ++ (B.drop (n1 - k)).reverse.map (fun z => N - z)) ++ [N - B.getD (n1 - 1 - k) 0] := by
  have h1 : n1 - (k + 1) < B.length := by omega
  have e : B.drop (n1 - (k + 1)) = B[n1 - (k + 1)] :: B.drop (n1 - k) := by
    rw [List.drop_eq_getElem_cons h1]; congr 2; omega
  have e2 : B.getD (n1 - 1 - k) 0 = B[n1 - (k + 1)] := by
    rw [List.getD_eq_getElem?_getD, show n1 - 1 - k = n1 - (k + 1) by omega, List.getElem?_eq_getElem h1]; rfl
  rw [e, e2]
  simp
theorem push_cell {w w2 : World} {row : Option Nat} {o : Obj} {j : Nat} (hg : ((w.drewN j).alloc o).grownBy w2 row) {x : Addr} {v : Value} (h : w.cell? x = some v) (hne : row ≠ some x.block) : w2.cell? x = some v :=
  (World.cell?_of_block ((grown_before hg).block x.block (World.block_lt_of_cell? w x h) fun e => hne e.symm)).trans h
theorem push_frozen {w w2 : World} {row : Option Nat} {o : Obj} {j : Nat} (hg : ((w.drewN j).alloc o).grownBy w2 row) {x : Addr} {v : Value} (h : w.cell? x = some v) (hf : w.frozen? x = false) (hne : row ≠ some x.block) : w2.frozen? x = false :=
  (World.frozen?_of_block ((grown_before hg).block x.block (World.block_lt_of_cell? w x h) fun e => hne e.symm)).trans hf
theorem keep012 {w w2 : World} {g rb : Nat} {a b d : Value} (hgr : g ≠ rb) (hlg : g < w.heap.size) (k0 : w.cell? ⟨g, 0, none⟩ = some a) (k1 : w.cell? ⟨g, 1, none⟩ = some b) (k2 : w.cell? ⟨g, 2, none⟩ = some d) (hg : w.drew.grownBy w2 (some rb)) : w2.cell? ⟨g, 0, none⟩ = some a ∧ w2.cell? ⟨g, 1, none⟩ = some b ∧ w2.cell? ⟨g, 2, none⟩ = some d := by
  have e : w2.heap[g]? = w.heap[g]? := hg.block g hlg (fun e => hgr (by injection e))
  exact ⟨(World.cell?_of_block (a := ⟨g, 0, none⟩) e).trans k0, (World.cell?_of_block (a := ⟨g, 1, none⟩) e).trans k1, (World.cell?_of_block (a := ⟨g, 2, none⟩) e).trans k2⟩

set_option maxRecDepth 20000 in
set_option maxHeartbeats 4000000 in
theorem move26l (S : Nat → Prop) (base g : Nat) (bl : Int) (rb n c q gs ge : Nat) (p1 : Option Addr) (n1 c1 : Nat) (p2 : Option Addr) (n2 c2 : Nat) (R B A : List Int) (w0 w : World)
    (h : Sd S w0 w base g gs ge bl (.slice (some ⟨rb, 0, none⟩) n c) (.slice p1 n1 c1) (.slice p2 n2 c2) R B A) (hq : q < gs) (h2 : gs ≤ ge) (h3 : ge ≤ n) (h4 : n ≤ 1000000) (hB : B.length ≤ 1000000) (hA : A.length ≤ 1000000) (hs : B.Pairwise (· ≤ ·)) (hz : ∀ z ∈ B, 0 ≤ z ∧ z ≤ 1000000) :
    Calls Try.prog 26 #[.pointer (some ⟨g, 0, none⟩), .int .i64 (q : Int)] w fun e w' => e = .returned (.tuple #[]) ∧ ∃ vb' va', Sd S w0 w' base g q ((ge - (gs - q) : Nat) : Int) bl (.slice (some ⟨rb, 0, none⟩) n c) vb' va' (R.take (ge - (gs - q)) ++ ((R.drop q).take (gs - q) ++ R.drop ge)) (B.take (B.countP (· < (q : Int)))) (A ++ ((B.drop (B.countP (· < (q : Int)))).reverse.map fun z => ((n - (ge - gs) : Nat) : Int) - z)) := by
  have HD : Hid (Sd S w0 w base g gs ge bl (.slice (some ⟨rb, 0, none⟩) n c) (.slice p1 n1 c1) (.slice p2 n2 c2) R B A) := h
  obtain ⟨rest, hrb, hc, hnR, hbrb, hcm⟩ := h.sg.r.row
  have hgr : g ≠ rb := fun e => h.sg.gr (by rw [e]; rfl)
  have hlg : g < w.heap.size := h.sg.buf.lt
  have k0 := h.sg.buf.c0
  have k1 := h.sg.buf.c1
  have k2 := h.sg.buf.c2
  have HN1 : Hid (n1 = B.length ∧ n2 = A.length) := by
    obtain ⟨_, _, e1, _⟩ := h.sg.b.slice
    obtain ⟨_, _, e2, _⟩ := h.sg.a.slice
    injection e1 with _ e1
    injection e2 with _ e2
    exact ⟨e1, e2⟩
  obtain ⟨m, hm⟩ : ∃ m : Nat, m = gs - q := ⟨_, rfl⟩
  obtain ⟨e0, he0⟩ : ∃ e0 : Nat, e0 = ge - m := ⟨_, rfl⟩
  obtain ⟨N, hN⟩ : ∃ N : Nat, N = n - (ge - gs) := ⟨_, rfl⟩
  obtain ⟨f, hf⟩ : ∃ f : Nat, f = B.countP (· < (q : Int)) := ⟨_, rfl⟩
  have hfn : f ≤ n1 := by rw [HN1.out.1, hf]; exact List.countP_le_length
  have hn1 : n1 ≤ 1000000 := by rw [HN1.out.1]; exact hB
  have hn2 : n2 ≤ 1000000 := by rw [HN1.out.2]; exact hA
  have HRB : Hid (w.heap[rb]? = some (.cells (R.map (Value.int .i32) ++ rest).toArray 21 (0, 0))) := hrb
  rw [← hm, ← he0, ← hN, ← hf]
  obtain ⟨A', hA'⟩ : ∃ A', A' = A ++ (B.drop f).reverse.map fun z => (N : Int) - z := ⟨_, rfl⟩
  obtain ⟨B', hB'⟩ : ∃ B', B' = B.take f := ⟨_, rfl⟩
  obtain ⟨R', hR'⟩ : ∃ R', R' = R.take e0 ++ ((R.drop q).take m ++ R.drop ge) := ⟨_, rfl⟩
  rw [← hA', ← hB', ← hR']
  have HE : Hid (A' = A ++ ((B.drop f).reverse.map fun z => (N : Int) - z) ∧ B' = B.take f ∧ R' = R.take e0 ++ ((R.drop q).take m ++ R.drop ge)) := ⟨hA', hB', hR'⟩
  clear hA' hB' hR'
  have z1 : (gs : Int) - (q : Int) = (m : Int) := by omega
  have z2 : (ge : Int) - (m : Int) = (e0 : Int) := by omega
  have z3 : (q : Int) < (gs : Int) := by omega
  have z4 : (q : Int) ≤ (gs : Int) := by omega
  have z5 : (e0 : Int) ≤ (ge : Int) := by omega
  have z6 : (ge : Int) ≤ (n : Int) := by omega
  have z7 : (gs : Int) ≤ (n : Int) := by omega
  have z8 : (ge : Int) ≤ (c : Int) := by omega
  have z9 : (gs : Int) ≤ (c : Int) := by omega
  have z10 : (0 : Int) ≤ (e0 : Int) := by omega
  have z11 : n ≤ c := by omega
  have z12 : ¬ c = e0 := by omega
  have z13 : ¬ c = q := by omega
  have z14 : IntKind.i64.wrap (e0 : Int) = e0 := by rw [IntKind.wrap_i64]; omega
  have z15 : IntKind.i64.wrap (m : Int) = m := by rw [IntKind.wrap_i64]; omega
  have hXl : ((R.drop q).take m).length = m := by simp; omega
  have HXl : Hid (((R.drop q).take m).length = m) := hXl
  have HXc : Hid (∀ j v, (((R.drop q).take m).map (Value.int .i32))[j]? = some v → (w.drew).cell? ((⟨rb, q, none⟩ : Addr).add j) = some v) := by
    intro j v hv
    have hj : j < m := by
      rcases Nat.lt_or_ge j m with h1 | h1
      · exact h1
      · rw [List.getElem?_eq_none (by simp only [List.length_map, hXl]; omega)] at hv; cases hv
    show w.cell? _ = _
    rw [add_none, cell_of_row w rb (q + j) _ _ _ hrb, ← hv]
    simp only [List.getElem?_toArray, List.getElem?_map, List.getElem?_take, List.getElem?_drop]
    rw [if_pos hj, List.getElem?_append_left (by simp; omega), List.getElem?_map]
  have hfit : e0 + (((R.drop q).take m).map (Value.int .i32)).length ≤ (R.map (Value.int .i32) ++ rest).length := by
    simp only [List.length_append, List.length_map, hXl]; omega
  have hmin : (((R.drop q).take m).map (Value.int .i32)).length = Nat.min (gs - q) (ge - e0) := by
    rw [List.length_map, hXl]; show m = min _ _; omega
  have HF : Hid (e0 + (((R.drop q).take m).map (Value.int .i32)).length ≤ (R.map (Value.int .i32) ++ rest).length ∧ (((R.drop q).take m).map (Value.int .i32)).length = Nat.min (gs - q) (ge - e0)) := ⟨hfit, hmin⟩
  have HM : Hid (m = gs - q ∧ e0 = ge - m ∧ N = n - (ge - gs) ∧ f = B.countP (· < (q : Int))) := ⟨hm, he0, hN, hf⟩
  have HC : Hid (c = R.length + rest.length ∧ n = R.length) := ⟨hc, hnR⟩
  have HS : Hid (B.Pairwise (· ≤ ·)) := hs
  have HZ : Hid (∀ z ∈ B, 0 ≤ z ∧ z ≤ 1000000) := hz
  clear h hrb hm he0 hc hnR hs hz hXl hfit hmin hN hf
  go_enter Try.func26, Try.ntmps26
  go_wp2
  go_region_held3 (fun w' => w'.cell? ⟨g, 0, none⟩ = some (.slice (some ⟨rb, 0, none⟩) n c) ∧ w'.cell? ⟨g, 1, none⟩ = some (.int .i64 gs) ∧ w'.cell? ⟨g, 2, none⟩ = some (.int .i64 ge)) (first | go_keep | exact keep012 hgr hlg k0 k1 k2 hg2) ((refine step_copy_gr (by rfl) (.tmp 38) (.tmp 48) 22 22 (by rfl) 21 Try.underlying22 Try.size21 rb e0 ⟨rb, q, none⟩ (ge - e0) (c - e0) (gs - q) (c - q) (by rfl) (by rfl) (R.map (Value.int .i32) ++ rest) 21 HRB.out (((R.drop q).take m).map (Value.int .i32)) HF.out.2 HXc.out HF.out.1 (by intro v hv; obtain ⟨z, _, rfl⟩ := List.mem_map.1 hv; rfl) ?_; intro w2 HG2 hg2))
  have HD2 : Hid (Sd S w0 w2 base g gs ge bl (.slice (some ⟨rb, 0, none⟩) n c) (.slice p1 n1 c1) (.slice p2 n2 c2) R' B A) := by
    rw [HE.out.2.2]
    have hx := HXl.out
    have hm := HM.out
    have hc := HC.out
    refine (HD.out.drewN 1).copy hg2 (Own.mk rest ?_ ?_ ?_ hbrb hcm)
    · rw [HG2.out, splice_own _ _ _ _ _ (by rw [hx]; omega), hx, show e0 + m = ge by omega]
    · simp only [List.length_append, List.length_take, List.length_drop]; omega
    · simp only [List.length_append, List.length_take, List.length_drop]; omega
  clear HG2 hg2 HRB HXc HF k0 k1 k2 HD
  have k4 := HD2.out.sg.buf.c4
  go_wp2_with fail
  obtain ⟨pb, cb, eb, ib⟩ := HD2.out.sg.b.slice
  injection eb with eb1 eb2 eb3
  subst eb1 eb3
  rw [← eb2] at ib
  refine (search28 p1 n1 c1 B q _ ib (by omega) HS.out).mono ?_
  rintro e w3 ⟨rfl, j3, rfl⟩
  rw [← HM.out.2.2.2]
  generalize B.contains (q : Int) = bb
  clear ib eb2
  have HD3 := HD2.out.drewN j3
  have HD3' : Hid (Sd S w0 (w2.drewN j3) base g gs ge bl (.slice (some ⟨rb, 0, none⟩) n c) (.slice p1 n1 c1) (.slice p2 n2 c2) R' B A) := HD3
  clear HD3 HD2 k4
  generalize w2.drewN j3 = w3 at HD3' ⊢
  have k4 := HD3'.out.sg.buf.c4
  go_wp2
  clear k4
  go_loopw [7] (fun i wr => ∃ (k : Nat) (p' : Option Addr) (c' : Nat), k + f ≤ n1 ∧ i = .int .i64 ((n1 : Int) - 1 - (k : Int)) ∧ Hid (Sd S w0 wr base g gs ge bl (.slice (some ⟨rb, 0, none⟩) n c) (.slice p1 n1 c1) (.slice p' (n2 + k) c') R' B (A ++ (B.drop (n1 - k)).reverse.map fun z => (N : Int) - z))) (fun i _ => (intOf i + 1).toNat)
  case atStart => exact ⟨0, p2, c2, by omega, by go_num, by have h1 := HN1.out; have h2 := HD3'.out; rw [h1.1] at h2 ⊢; show Sd _ _ _ _ _ _ _ _ _ _ _ _ _ _; simpa using h2⟩
  case round =>
    obtain ⟨k, p', c', hk, rfl, HDk⟩ := hrel
    by_cases hlt : f + k < n1
    · have sg := HDk.out.sg
      have k4 := sg.buf.c4
      have k5 := sg.buf.c5
      have hlg' : g < wr.heap.size := sg.buf.lt
      obtain ⟨j, hj⟩ : ∃ j, j = n1 - 1 - k := ⟨_, rfl⟩
      obtain ⟨pb, cb, eb, ib⟩ := sg.b.slice
      injection eb with eb1 eb2 eb3
      subst eb1 eb3
      obtain ⟨b1, o1, rfl, h1⟩ := ib.at (j := j) (by omega)
      obtain ⟨u, hu⟩ : ∃ u, u = B.getD j 0 := ⟨_, rfl⟩
      rw [← hu] at h1
      have hum : 0 ≤ u ∧ u ≤ 1000000 := by
        apply HZ.out
        rw [hu, List.getD_eq_getElem?_getD, List.getElem?_eq_getElem (by omega : j < B.length)]
        exact List.getElem_mem _
      obtain ⟨D, hD⟩ : ∃ D, D = A ++ (B.drop (n1 - k)).reverse.map fun z => (N : Int) - z := ⟨_, rfl⟩
      rw [← hD] at HDk sg
      have hDl : n2 + k = D.length := by
        obtain ⟨_, _, e2, _⟩ := sg.a.slice
        injection e2 with _ e2
      obtain ⟨y, hy⟩ : ∃ y, y = (N : Int) - u := ⟨_, rfl⟩
      have hstep : D ++ [y] = A ++ (B.drop (n1 - (k + 1))).reverse.map fun z => (N : Int) - z := by
        rw [list_step A B N n1 k HN1.out.1 (by omega), hD, hy, hu, hj]
      have HY : Hid (D ++ [y] = A ++ (B.drop (n1 - (k + 1))).reverse.map fun z => (N : Int) - z) := hstep
      have em : (n1 : Int) - 1 - (k : Int) = (j : Int) := by omega
      rw [em]
      have y1 : (f : Int) ≤ (j : Int) := by omega
      have y2 : (0 : Int) ≤ (j : Int) := by omega
      have y3 : (j : Int) < (n1 : Int) := by omega
      have y4 : (N : Int) - u = y := hy.symm
      have y5 : IntKind.i64.wrap y = y := by have := HM.out; rw [IntKind.wrap_i64]; omega
      have HC29 : Hid (Calls Try.prog 29 #[.pointer (some ⟨g, 0, none⟩)] wr.drew fun e w' => e = .returned (.int .i64 (N : Int)) ∧ ∃ q, w' = wr.drew.drewN q) := by
        show Calls _ _ _ _ _
        have e : (N : Int) = (n : Int) - ((ge : Int) - (gs : Int)) := by have := HM.out; omega
        rw [e]
        exact len29 g _ n c gs ge bl _ _ wr.drew sg.buf (by omega) (by omega) (by omega) (by omega)
      have hbs : base ≤ wr.heap.size := by have := sg.bg; omega
      have HJ : Hid (j = n1 - 1 - k) := hj
      have HA : Hid (Own .i64 3 wr base (.slice p' (n2 + k) c') D) := sg.a
      have HN : Hid ((∀ row, row = Value.ownBlock (.slice p' (n2 + k) c') → row ≠ some g ∧ row ≠ some b1)) := by
        rintro _ rfl
        exact ⟨sg.ga, sg.ba b1 rfl⟩
      have hDn : D.length ≤ 1000000000 := by omega
      have f5 : wr.frozen? ⟨g, 5, none⟩ = false := sg.buf.fr 5
      have HL : Hid ((D ++ [y]).length = n2 + (k + 1)) := by show _ = _; simp; omega
      clear sg ib hu hD hy hstep hj em hDl eb2 z1 z2 z3 z4 z5 z6 z7 z8 z9 z10 z11 z12 z13 z14 z15 hgr hlg
      have k5a : ∀ x o, ((wr.drewN x).alloc o).cell? ⟨g, 5, none⟩ = some (.slice p' (n2 + k) c') := fun x o => (World.cell?_alloc_lt _ _ _ hlg').trans k5
      go_wp2
      go_region_law (first
        | (refine step_push (by rfl) (.tmp 74) (.tmp 85) 23 (by rfl) .i64 3 8 Try.underlying23 Try.info3 (by decide) base (.slice p' (n2 + k) c') D y (by rfl) (HA.out.allocN _ _) _ (by rfl) (cell_new1 _ _ _) hDn (by simp; omega) ?_; intro v' w' HO' hg' HW'; obtain ⟨p3, c3, hv3, _⟩ := HO'.out.slice; rw [HL.out] at hv3; subst hv3
           have k5' : w'.cell? ⟨g, 5, none⟩ = some (.slice p' (n2 + k) c') := push_cell hg' k5 (HN.out _ rfl).1
           have f5' : w'.frozen? ⟨g, 5, none⟩ = false := push_frozen hg' k5 f5 (HN.out _ rfl).1)
        | (go_simp; go_at_call 29; refine HC29.out.mono ?_; rintro e w' ⟨rfl, q', rfl⟩))
      all_goals
        have HDn : Hid (Sd S w0 (w'.setCell ⟨g, 5, none⟩ (.slice p3 (n2 + (k + 1)) c3)) base g gs ge bl (.slice (some ⟨rb, 0, none⟩) n c) (.slice (some ⟨b1, o1, none⟩) n1 c1) (.slice p3 (n2 + (k + 1)) c3) R' B (D ++ [y])) := HDk.out.push5 hg' HO'.out HW'.out
        clear HO' hg' HW' k5' f5' k5a k4 k5 h1 f5 HDk HA HN
        go_wp2
        go_roundw
      all_goals first
        | (case rel => exact ⟨k + 1, p3, c3, by omega, by have := HJ.out; go_num, by rw [← HY.out]; exact HDn⟩)
        | (case measure => simp [intOf])
    · have hk' : k = n1 - f := by omega
      have sg := HDk.out.sg
      have k1 := sg.buf.c1
      have k2 := sg.buf.c2
      have k4 := sg.buf.c4
      have f1 := sg.buf.fr 1
      have f2 := sg.buf.fr 2
      have f4 := sg.buf.fr 4
      have hcap : n1 ≤ c1 := sg.b.cap
      have y1 : (n1 : Int) - 1 - (k : Int) = (f : Int) - 1 := by omega
      have y2 : ¬ (f : Int) ≤ (f : Int) - 1 := by omega
      have y3 : (f : Int) ≤ (c1 : Int) := by omega
      have y4 : (0 : Int) ≤ (f : Int) := by omega
      have y5 : (gs : Int) - (m : Int) = (q : Int) := by omega
      have HK : Hid (k = n1 - f) := hk'
      clear sg hk'
      rw [y1]
      clear y1
      go_wp2
      go_end0
      refine ⟨rfl, .slice p1 f c1, .slice p' (n2 + k) c', ?_⟩
      have hd := ((HDk.out.cut4 f (by rw [← HN1.out.1]; exact hfn)).set1 (q : Int)).set2 (e0 : Int)
      rw [HE.out.1, HE.out.2.1]
      rw [show n1 - k = f from by have := HK.out; omega] at hd
      exact hd
end Go.Proofs.Qxb6602056a
